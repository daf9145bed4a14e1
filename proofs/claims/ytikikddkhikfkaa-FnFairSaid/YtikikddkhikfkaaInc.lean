/-
  incrementProposerPriority: the walk. By the session.
-/
import Derived.Test.YtikikddkhikfkaaMost
import Derived.Test.YtikikddkhikfkaaLast
set_option linter.unusedSimpArgs false
namespace Go.Proofs.Ytikikddkhikfkaa
open Go.RowKit

/-- one turn, the power of all being T -/
def turnOf (T : Int) (l : List Sd) : List Sd :=
  match propOf (l.map addP) with
  | none => l.map addP
  | some q => (l.map addP).set q.2 (subP T q.1)
theorem distinct_map {l : List Sd} (h : distinct l) (f : Sd → Sd) (hf : ∀ s, (f s).adr = s.adr) : distinct (l.map f) := by
  intro i j x y hx hy hij
  rw [List.getElem?_map] at hx hy
  cases hi : l[i]? with
  | none => rw [hi] at hx; simp at hx
  | some a =>
    cases hj : l[j]? with
    | none => rw [hj] at hy; simp at hy
    | some b =>
      rw [hi] at hx; rw [hj] at hy
      simp only [Option.map_some, Option.some.injEq] at hx hy
      subst hx; subst hy
      rw [hf, hf]
      exact h i j a b hi hj hij
/-- where the one ahead stands -/
theorem propOf_at (l : List Sd) (hne : l ≠ []) : ∃ q, propOf l = some q ∧ l[q.2]? = some q.1 := by
  have : ∀ k, k ≤ l.length → (k ≠ 0 → (l.zipIdx.take k).foldl pstep none ≠ none) ∧ (∀ q, (l.zipIdx.take k).foldl pstep none = some q → l[q.2]? = some q.1) := by
    intro k
    induction k with
    | zero => intro _; exact ⟨fun h => absurd rfl h, fun q h => by simp at h⟩
    | succ k ih =>
      intro hk
      obtain ⟨h1, h2⟩ := ih (by omega)
      have hx : l.zipIdx[k]? = some (l[k], k) := by rw [List.getElem?_zipIdx, List.getElem?_eq_getElem (by omega)]; simp
      rw [foldl_take_succ pstep none l.zipIdx k _ hx]
      cases hb : (l.zipIdx.take k).foldl pstep none with
      | none =>
        refine ⟨fun _ h => by simp [pstep] at h, fun q h => ?_⟩
        simp only [pstep, Option.some.injEq] at h
        subst h
        exact List.getElem?_eq_getElem (by omega)
      | some p =>
        refine ⟨fun _ h => ?_, fun q h => ?_⟩
        · simp only [pstep] at h; split at h <;> cases h
        · simp only [pstep] at h
          split at h
          · cases h; exact h2 p hb
          · cases h; exact List.getElem?_eq_getElem (by omega)
  obtain ⟨h1, h2⟩ := this l.length (Nat.le_refl _)
  rw [List.take_of_length_le (by simp)] at h1 h2
  have hl : l.length ≠ 0 := fun h => hne (List.length_eq_zero_iff.1 h)
  cases hp : l.zipIdx.foldl pstep none with
  | none => exact absurd hp (h1 hl)
  | some q => exact ⟨q, hp, h2 q hp⟩

set_option maxRecDepth 100000 in
set_option maxHeartbeats 3200000 in
theorem inc_any (lo g : Nat) (A : Option Addr) (c : Nat) (bs : List Nat) (ts : List Tv) (prop : Value) (tot : Int) (same : Bool) (w : World) (h : VSet w lo g A c bs ts prop tot same) (hn : bs.length ≤ 1000) (hn0 : 0 < bs.length)
    (hd : distinct (ts.map Tv.x)) (ht0 : 0 < tot) (ht1 : tot ≤ 1152921504606846976) (hp : ∀ t ∈ ts, in64 t.x.pri ∧ in64 t.x.pow) :
    Calls Try.prog 69 #[ptrTo g] w fun e w' => e = .returned (pval bs (propOf ((ts.map Tv.x).map addP))) ∧ ∃ ts', ts'.map Tv.x = turnOf tot (ts.map Tv.x) ∧ VSet w' lo g A c bs ts' prop tot same ∧ OnlyV g bs w w' := by
  unfold ptrTo
  have h0 : w.cell? ⟨g, 0, none⟩ = some (.slice A bs.length c) := h.head.cell 0
  have hg := h.head.lt
  have H := Lib.hid h; have HP := Lib.hid hp; have HDD := Lib.hid hd; clear h hp hd
  go_enter Try.func69, Try.ntmps69
  go_wp2
  go_loopw [12] (fun i wr => ∃ k : Nat, k ≤ bs.length ∧ i = .int .i64 k ∧ Hid (VSet wr lo g A c bs (mapTo (onX addP) ts k) prop tot same) ∧ Hid (OnlyV g bs w wr)) (fun i _ => bs.length - (intOf i).toNat)
  case atStart => exact ⟨0, Nat.zero_le _, rfl, by rw [mapTo_zero]; exact H.out, OnlyV.refl _ _ _⟩
  case round =>
    obtain ⟨k, hk, rfl, HV, HO⟩ := hrel
    by_cases hlt : k < bs.length
    · obtain ⟨b, t, hb, ht⟩ := H.out.at_ hlt
      have ht' := mapTo_get (onX addP) ts k t ht
      obtain ⟨r0, rfl, _, hp⟩ := HV.out.ptr hb
      obtain ⟨_, hbv, hok⟩ := HV.out.vals k b t hb ht'
      obtain ⟨c0, c1, c2, c3⟩ := t.val_cells hbv
      have f3 := hbv.free 3
      have hb3 := HP.out t (List.mem_of_getElem? ht)
      have hset : ∀ n, VSet ((wr.drewN n).setCell ⟨b, 3, none⟩ (.int .i64 (clip (t.x.pri + t.x.pow)))) lo g (some ⟨r0, 0, none⟩) c bs (mapTo (onX addP) ts (k + 1)) prop tot same := fun n => by
        have hset := (HV.out.keep (KeepV.drewN lo wr n)).setPri hb ht' (clip (t.x.pri + t.x.pow))
        have e1 : (mapTo (onX addP) ts k).set k { t with x := { t.x with pri := clip (t.x.pri + t.x.pow) } } = mapTo (onX addP) ts (k + 1) := mapTo_succ (onX addP) ts k t ht
        rw [e1] at hset
        exact hset
      have KC := Lib.hid (fun W => addClip_any t.x.pri t.x.pow W hb3.1 hb3.2)
      have HSET := Lib.hid hset; have HB := Lib.hid hb; have HT := Lib.hid ht; have HBV := Lib.hid hbv; have HOK := Lib.hid hok; have HT' := Lib.hid ht'
      have hmem := Lib.hid (List.mem_of_getElem? hb)
      clear hset hb ht hbv hok ht' c0 c1
      generalize clip (t.x.pri + t.x.pow) = q at *
      go_wp2_with fail
      go_quiet ((go_at_call 85; first | exact quietA (KC.out _) | exact quietL (KC.out _)))
      go_wp2
      go_roundw
      case rel => exact ⟨k + 1, by omega, by go_num, HSET.out _, (HO.out.trans (OnlyV.drewN _ _)).trans (OnlyV.putVal _ hmem.out 3 _)⟩
      case measure => simp [intOf]; omega
    · have hfin := HV.out
      rw [mapTo_full _ _ _ (by rw [H.out.len]; omega)] at hfin
      have hx1 : (ts.map (onX addP)).map Tv.x = (ts.map Tv.x).map addP := onX_map _ _
      have hd1 : distinct ((ts.map (onX addP)).map Tv.x) := by rw [hx1]; exact distinct_map HDD.out _ (fun _ => rfl)
      have KM := Lib.hid (most_any lo g A c bs _ prop tot same wr hfin (by omega) hd1)
      rw [hx1] at KM
      have hne : (ts.map Tv.x).map addP ≠ [] := fun e => by
        have h1 := congrArg List.length e
        have := H.out.len
        simp at h1; rw [h1] at this; simp at this; omega
      obtain ⟨q, hq, hqa⟩ := propOf_at _ hne
      have htq : (ts.map (onX addP)).length = bs.length := hfin.len
      have hq2 : q.2 < bs.length := by
        have := (List.getElem?_eq_some_iff.1 hqa).1
        simp at this; have := H.out.len; omega
      obtain ⟨b, t, hb, ht⟩ := hfin.at_ hq2
      have hxt : t.x = q.1 := by
        rw [← hx1, List.getElem?_map, ht] at hqa
        simpa using hqa
      obtain ⟨_, hbv, hok⟩ := hfin.vals q.2 b t hb ht
      obtain ⟨c0, c1, c2, c3⟩ := t.val_cells hbv
      have f3 := hbv.free 3
      have hpv : pval bs (propOf ((ts.map Tv.x).map addP)) = .pointer (some ⟨b, 0, none⟩) := by
        rw [hq]; show ptrTo (bs.getD q.2 0) = _; rw [List.getD_eq_getElem?_getD, hb]; rfl
      rw [hpv] at KM
      have HPV := Lib.hid hpv
      have hto : turnOf tot (ts.map Tv.x) = ((ts.map Tv.x).map addP).set q.2 (subP tot q.1) := by unfold turnOf; rw [hq]
      have hset : ∀ n, VSet ((wr.drewN n).setCell ⟨b, 3, none⟩ (.int .i64 (clip (t.x.pri - tot)))) lo g A c bs ((ts.map (onX addP)).set q.2 { t with x := { t.x with pri := clip (t.x.pri - tot) } }) prop tot same := fun n => (hfin.keep (KeepV.drewN lo wr n)).setPri hb ht (clip (t.x.pri - tot))
      have hmap : ((ts.map (onX addP)).set q.2 { t with x := { t.x with pri := clip (t.x.pri - tot) } }).map Tv.x = turnOf tot (ts.map Tv.x) := by
        rw [hto, List.map_set, hx1, ← hxt]; rfl
      have hti : in64 t.x.pri := by
        rw [hxt]
        obtain ⟨y, hy, hyq⟩ := List.mem_map.1 (List.mem_of_getElem? hqa)
        rw [← hyq]; exact clip_in _
      have KT := Lib.hid (fun n => tot_any lo g A c bs _ prop tot same (wr.drewN n) (hfin.keep (KeepV.drewN lo wr n)) (by omega))
      have KS := Lib.hid (fun W => subClip_any t.x.pri tot W hti ⟨by omega, by omega⟩)
      have HSET := Lib.hid hset; have HMAP := Lib.hid hmap
      have hmem := Lib.hid (List.mem_of_getElem? hb)
      clear hset hmap hto hq hqa hne hd1 hx1 hfin hpv hb ht hbv hok htq hxt c0 c1 c2 hti HV HP HDD H
      generalize clip (t.x.pri - tot) = pq at *
      go_wp2_with (go_at_call 86; refine KM.out.mono ?_; rintro e w1 ⟨rfl, nd, rfl⟩)
      refine wp_region_L (fun w' : World => ∃ n, w' = wr.drewN n) 10 (by kernel_rfl) ?_
      refine wpAnyL_take 0 (v := .pointer (some ⟨b, 0, none⟩)) rfl (by kernel_rfl) (fun _ _ _ h => h) (yields_in rfl (fun w' hw' => by obtain ⟨n1, rfl⟩ := hw'; go_simp)) ⟨nd + 1, rfl⟩ ?_
      simp only [Act.put, List.setIfInBounds_toArray, List.set_cons_zero, List.set_cons_succ]
      refine wpAnyL_take 1 (v := .pointer (some ⟨b, 0, none⟩)) rfl (by kernel_rfl) (fun _ _ _ h => h) (yields_in rfl (fun w' hw' => by obtain ⟨n1, rfl⟩ := hw'; go_simp)) ⟨nd + 1, rfl⟩ ?_
      simp only [Act.put, List.setIfInBounds_toArray, List.set_cons_zero, List.set_cons_succ]
      refine wpAnyL_take 2 (v := .pointer (some ⟨b, 0, none⟩)) rfl (by kernel_rfl) (fun _ _ _ h => h) (yields_in rfl (fun w' hw' => by obtain ⟨n1, rfl⟩ := hw'; go_simp)) ⟨nd + 1, rfl⟩ ?_
      simp only [Act.put, List.setIfInBounds_toArray, List.set_cons_zero, List.set_cons_succ]
      refine wpAnyL_take 3 (v := .pointer (some ⟨b, 3, none⟩)) rfl (by kernel_rfl) (fun _ _ _ h => h) (yields_in rfl (fun w' hw' => by obtain ⟨n1, rfl⟩ := hw'; go_simp)) ⟨nd + 1, rfl⟩ ?_
      simp only [Act.put, List.setIfInBounds_toArray, List.set_cons_zero, List.set_cons_succ]
      refine wpAnyL_take 4 (v := .int .i64 t.x.pri) rfl (by kernel_rfl) (fun _ _ _ h => h) (yields_in rfl (fun w' hw' => by obtain ⟨n1, rfl⟩ := hw'; go_simp)) ⟨nd + 1, rfl⟩ ?_
      simp only [Act.put, List.setIfInBounds_toArray, List.set_cons_zero, List.set_cons_succ]
      refine wpAnyL_take 5 (v := .pointer (some ⟨g, 0, none⟩)) rfl (by kernel_rfl) (fun _ _ _ h => h) (yields_in rfl (fun w' hw' => by obtain ⟨n1, rfl⟩ := hw'; go_simp)) ⟨nd + 1, rfl⟩ ?_
      simp only [Act.put, List.setIfInBounds_toArray, List.set_cons_zero, List.set_cons_succ]
      refine wpAnyL_one 6 rfl (by kernel_rfl) rfl ?_
      go_simp
      refine (KT.out _).mono ?_
      rintro e w1 ⟨rfl, rfl⟩
      refine ⟨⟨_, rfl⟩, ?_⟩
      refine wpAnyL_one 7 rfl (by kernel_rfl) rfl ?_
      go_simp
      refine (KS.out _).mono ?_
      rintro e w1 ⟨rfl, rfl⟩
      refine ⟨⟨_, rfl⟩, ?_⟩
      refine wpAnyL_one 8 rfl (by kernel_rfl) rfl ?_
      go_simp
      refine ⟨⟨_, rfl⟩, ?_⟩
      refine wpAnyL_one 9 rfl (by kernel_rfl) rfl ?_
      go_simp
      refine ⟨⟨_, rfl⟩, ?_⟩
      refine wpAnyL_one 10 rfl (by kernel_rfl) rfl ?_
      go_simp
      refine wpAnyL_done (by kernel_rfl) ?_ _
      go_wp2
      go_ret
      exact ⟨ret_val HPV.out.symm, _, HMAP.out, HSET.out _, (HO.out.trans (OnlyV.drewN _ _)).trans (OnlyV.putVal _ hmem.out 3 _)⟩
end Go.Proofs.Ytikikddkhikfkaa
