/-
  applyRemovals: the walk. By the session. sort.Slice over a slice of the package's validators by a number of each: the row permuted, the numbers rising. By the session. The comparison of changes by what they add to the power (verifyUpdates$2), and TotalVotingPower whichever way: walks. By the session. verifyUpdates: the walk. By the session. The set's power, and its turns, where only the power of all is bounded (2^60-1). Printed by gen_wide.py out of XTot, XIncr. By the session. Plain facts of the changes of a set: the merged list, the removed ones, powers, the same validators as the specification's. No function is walked here. By the session. Plain facts of the seats of a set: no program runs here. By the session.
-/
import Derived.Test.YtikikddkhikfkaaGreatDoorCh5
import Derived.Test.YtikikddkhikfkaaGreatDoorCh2
import Derived.Ground.GgsProg
import Derived.Test.YtikikddkhikfkaaGreatDoorCh3
import Derived.Test.YtikikddkhikfkaaGreatDoorCh4
import Derived.Laws.EntriesVeiled
set_option linter.all false
namespace Go.Proofs.YtikikddkhikfkaaGreatDoor
open Go.RowKit

def sameA (e d : Nat × Tv) : Bool := e.2.x.adr.toList == d.2.x.adr.toList
/-- a list without those of the addresses of another one, both by address -/
def remV : List (Nat × Tv) → List (Nat × Tv) → List (Nat × Tv)
  | [], _ => []
  | e :: es, [] => e :: es
  | e :: es, d :: ds => if sameA e d then remV es ds else e :: remV es (d :: ds)
/-- is everyone of the second list met in the first one's order? -/
def fitV : List (Nat × Tv) → List (Nat × Tv) → Bool
  | _, [] => true
  | [], _ :: _ => false
  | e :: es, d :: ds => if sameA e d then fitV es ds else fitV es (d :: ds)
theorem remV_nil (E : List (Nat × Tv)) : remV E [] = E := by cases E <;> simp [remV]
theorem fitV_le : ∀ (E D : List (Nat × Tv)), fitV E D = true → D.length ≤ E.length ∧ (remV E D).length = E.length - D.length
  | E, [] => fun _ => by rw [remV_nil]; simp
  | [], _ :: _ => fun h => by simp [fitV] at h
  | e :: es, d :: ds => fun h => by
    rw [fitV] at h
    rw [remV]
    by_cases hs : sameA e d = true
    · rw [if_pos hs] at h ⊢
      have := fitV_le es ds h
      simp only [List.length_cons]; omega
    · rw [if_neg hs] at h ⊢
      have := fitV_le es (d :: ds) h
      simp only [List.length_cons] at *; omega
theorem remV_sub : ∀ (E D : List (Nat × Tv)), (remV E D).Sublist E
  | [], D => by simp [remV]
  | e :: es, [] => by rw [remV_nil]; exact List.Sublist.refl _
  | e :: es, d :: ds => by
    rw [remV]
    split
    · exact (remV_sub es ds).cons e
    · exact (remV_sub es (d :: ds)).cons_cons e
theorem rem_fin {w2 wr : World} {lo g N c base m n0 : Nat} {A : Option Addr} {bs : List Nat} {ts : List Tv} {prop : Value} {tot : Int} {same : Bool} {old : List Value}
    (hv2 : VRow w2 lo A c bs ts) (hb : Below w2.heap.size w2 wr) (hhd : Blk wr g 128 #[.slice A n0 c, prop, .int .i64 tot, .bool same]) (hlog : lo ≤ g) (hlo : lo ≤ base)
    (P D : List (Nat × Tv)) (hP : P = remV (bs.zip ts) D) (hPN : P.length ≤ N) (ho : wr.ownsRow base 126 1 (.slice (some ⟨m, 0, none⟩) N N) N (overL (ptrs P) old)) :
    VSet (wr.setCell ⟨g, 0, none⟩ (.slice (some ⟨m, 0, none⟩) P.length N)) lo g (some ⟨m, 0, none⟩) N (P.map Prod.fst) (P.map Prod.snd) prop tot same := by
  have hsub : P.Sublist (bs.zip ts) := by rw [hP]; exact remV_sub _ _
  have hval : ∀ p ∈ P, lo ≤ p.1 ∧ Blk w2 p.1 136 p.2.val ∧ p.2.ok w2 := fun p hp => by
    obtain ⟨j, hj⟩ := List.getElem?_of_mem (hsub.subset hp)
    rw [List.getElem?_zip_eq_some] at hj
    exact hv2.vals j _ _ hj.1 hj.2
  have hne : some g ≠ (Value.slice (some ⟨m, 0, none⟩) N N).ownBlock := own_ne_blk ho hhd (by decide)
  refine ⟨?_, ?_, by simp, ?_, fun j b t hb' ht => ?_, hlog⟩
  · have := hhd.put 0 (.slice (some ⟨m, 0, none⟩) P.length N)
    simpa using this
  · have h1 := own_cut (own_monoE (own_far ho (p := ⟨g, 0, none⟩) hne (.slice (some ⟨m, 0, none⟩) P.length N)) hlo) hPN
    have h2 : (overL (ptrs P) old).take P.length = (P.map Prod.fst).map ptrTo := by
      unfold overL
      rw [List.take_left' (by simp [ptrs]), ptrs_eq]
    rw [h2] at h1
    rw [List.length_map]; exact h1
  · have h1 := hsub.map Prod.fst
    rw [List.map_fst_zip (by have := hv2.len; omega)] at h1
    exact h1.nodup hv2.nodup
  · rw [List.getElem?_map] at hb' ht
    cases hq : P[j]? with
    | none => rw [hq] at hb'; cases hb'
    | some q =>
      rw [hq] at hb' ht
      cases hb'; cases ht
      obtain ⟨h1, h2, h3⟩ := hval q (List.mem_of_getElem? hq)
      have hw := h2.belowS hb
      have hqg : q.1 ≠ g := Blk.ne hw hhd (by decide)
      exact ⟨h1, hw.far (p := ⟨g, 0, none⟩) hqg _, (h3.keep (KeepB.of_below hb)).keep (KeepB.setCell (p := ⟨g, 0, none⟩) hhd (by decide) _)⟩
set_option maxRecDepth 100000 in
set_option maxHeartbeats 6400000 in
theorem appRem_any (lo g : Nat) (A : Option Addr) (c : Nat) (bs : List Nat) (ts : List Tv) (prop : Value) (tot : Int) (same : Bool) (w2 : World) (h : VSet w2 lo g A c bs ts prop tot same) (hn : bs.length ≤ 2000) (lo' : Nat) (Au : Option Addr) (cu : Nat) (bu : List Nat) (tu : List Tv) (hu : VRow w2 lo' Au cu bu tu) (hfit : fitV (bs.zip ts) (bu.zip tu) = true) :
    Calls Tryz.prog 105 #[ptrTo g, .slice Au bu.length cu] w2 fun e w' => e = .returned (.tuple #[]) ∧ ∃ (A' : Option Addr) (c' : Nat) (P : List (Nat × Tv)), P = remV (bs.zip ts) (bu.zip tu) ∧ VSet w' lo g A' c' (P.map Prod.fst) (P.map Prod.snd) prop tot same ∧ OnlyR g none w2 w' := by
  obtain ⟨i0, hi0, hz0, hz1, hz2⟩ := info_parts infoPVal
  have HI := Lib.hid hi0; have HZ0 := Lib.hid hz0; have HZ1 := Lib.hid hz1; have HZ2 := Lib.hid hz2
  clear hi0 hz0 hz1 hz2
  have h0 : w2.cell? ⟨g, 0, none⟩ = some (.slice A bs.length c) := h.head.cell 0
  have hle := (fitV_le _ _ hfit).1
  obtain ⟨E0, hE0⟩ : ∃ E0, E0 = bs.zip ts := ⟨_, rfl⟩
  obtain ⟨U0, hU0⟩ : ∃ U0, U0 = bu.zip tu := ⟨_, rfl⟩
  have hEl : E0.length = bs.length := by rw [hE0, List.length_zip, h.len, Nat.min_self]
  have hUl : U0.length = bu.length := by rw [hU0, List.length_zip, hu.len, Nat.min_self]
  have hrE : Rd w2 w2.heap.size 1 A E0.length (ptrs E0) := by
    have h1 := Rd.of_own h.row
    rw [hEl, ptrs_eq, hE0, List.map_fst_zip (by have := h.len; omega)]; exact h1
  have hrU : Rd w2 w2.heap.size 1 Au U0.length (ptrs U0) := by
    have h1 := Rd.of_own hu.row
    rw [hUl, ptrs_eq, hU0, List.map_fst_zip (by have := hu.len; omega)]; exact h1
  have hval : ∀ p, p ∈ E0 ∨ p ∈ U0 → Blk w2 p.1 136 p.2.val ∧ p.2.ok w2 := fun p hp => by
    rcases hp with hp | hp
    · obtain ⟨j, hj⟩ := List.getElem?_of_mem hp
      rw [hE0, List.getElem?_zip_eq_some] at hj
      exact (h.vals j _ _ hj.1 hj.2).2
    · obtain ⟨j, hj⟩ := List.getElem?_of_mem hp
      rw [hU0, List.getElem?_zip_eq_some] at hj
      exact hu.validator hj.1 hj.2
  have hcE : E0.length ≤ c := by have := own_capE h.row; omega
  have hcU : U0.length ≤ cu := by have := own_capE hu.row; omega
  rw [← hE0, ← hU0] at hfit hle
  rw [hEl, hUl] at hle
  obtain ⟨N, hN⟩ : ∃ N : Nat, (bs.length : Int) - (bu.length : Int) = (N : Int) := ⟨bs.length - bu.length, by omega⟩
  have hbz : bs.length ≤ 2000 ∧ bu.length ≤ 2000 := by omega
  have H := Lib.hid h; have HFIT := Lib.hid hfit; have HVAL := Lib.hid hval; have HRE := Lib.hid hrE; have HRU := Lib.hid hrU; have HE0 := Lib.hid hE0; have HU0 := Lib.hid hU0; have HEL := Lib.hid hEl; have HUL := Lib.hid hUl
  clear h hu hfit hval hrE hrU hE0 hU0
  unfold ptrTo
  go_enter Tryz.func105, Tryz.ntmps105
  go_wp2_with (refine wpList_make_full _ rfl (.tmp 16) (.tmp 16) 125 rfl w2.heap.size 126 i0 _ 1 Tryz.underlying125 HI.out HZ0.out HZ1.out .i64 .i64 N N N rfl rfl rfl rfl ?b2 ?b3 (Nat.le_refl _) ?_; (case b2 => rw [HZ2.out]; omega); (case b3 => simp only [maxLen]; omega); intro w3 ho3 hg3; have HO3 := Lib.hid ho3; have HG3 := Lib.hid hg3; clear ho3 hg3)
  generalize (madeCells (Value.pointer none).cells (N * 1)).toList = old at *
  have hold : old.length = N := by have := HO3.out.1; simpa using this
  have HOLD := Lib.hid hold; clear hold
  have hb3 : Below w2.heap.size w2 w3 := (Below.refl w2.heap.size w2).grown HG3.out (Nat.le_refl _) (by simp)
  have HB3 := Lib.hid hb3; clear hb3
  have hNE : N + U0.length = E0.length := by omega
  have hN2 : N ≤ 2000 := by omega
  rw [← hEl, ← hUl]
  have HNN := Lib.hid hN
  clear hEl hUl hN hle
  go_loopw [1, 4, 6] (fun v1 v4 v6 wr => ∃ (E U M : List (Nat × Tv)) (X Y : Option Addr) (cx cy : Nat), v4 = .slice X E.length cx ∧ v1 = .slice Y U.length cy ∧ v6 = .int .i64 M.length ∧ E.length ≤ cx ∧ U.length ≤ cy ∧ M.length + E.length = N + U.length ∧ Hid (M ++ remV E U = remV E0 U0) ∧ Hid (fitV E U = true) ∧
      Hid (∀ p, (p ∈ E → p ∈ E0) ∧ (p ∈ U → p ∈ U0)) ∧ Hid (Rd w2 w2.heap.size 1 X E.length (ptrs E)) ∧ Hid (Rd w2 w2.heap.size 1 Y U.length (ptrs U)) ∧ Hid (wr.ownsRow w2.heap.size 126 1 (.slice (some ⟨w2.heap.size, 0, none⟩) N N) N (overL (ptrs M) old)) ∧ Hid (Below w2.heap.size w2 wr)) (fun _ v4 _ _ => lenOf v4)
  case atStart => exact ⟨E0, U0, [], A, Au, c, cu, rfl, rfl, rfl, hcE, hcU, by simp; omega, rfl, HFIT.out, (fun p => ⟨id, id⟩), HRE.out, HRU.out, by show World.ownsRow _ _ _ _ _ _ _; simpa [overL, ptrs] using HO3.out, HB3.out⟩
  case round =>
    obtain ⟨E, U, M, X, Y, cx, cy, rfl, rfl, rfl, hcx, hcy, hMN, HMG, HFT, HMEM, HRX, HRY, HOM, HBL⟩ := hrel
    have hml : (ptrs M).length = M.length := by simp [ptrs]
    cases U with
    | nil =>
      have hmg := HMG.out
      rw [remV_nil] at hmg
      have HMG2 := Lib.hid hmg
      clear hmg HMG HFT
      simp only [List.length_nil] at hMN hcy ⊢
      generalize hl1 : E.length = n1 at *
      have hl1' := Lib.hid hl1
      obtain ⟨w9, rfl⟩ : ∃ x : World, x = wr := ⟨_, rfl⟩
      go_wp2
      go_loopw [6, 7] (fun v6 v7 wq => ∃ (j k6 : Nat), j ≤ n1 ∧ v7 = .int .i64 j ∧ v6 = .int .i64 k6 ∧ Hid (k6 = (M).length + j) ∧ Hid (wq.ownsRow w2.heap.size 126 1 (.slice (some ⟨w2.heap.size, 0, none⟩) N N) N (overL (ptrs ((M) ++ (E).take j)) old)) ∧ Hid (Below w2.heap.size w2 wq)) (fun _ v7 _ => n1 - (intOf v7).toNat)
      case atStart => exact ⟨0, _, Nat.zero_le _, rfl, rfl, rfl, by show World.ownsRow _ _ _ _ _ _ _; rw [List.take_zero, List.append_nil]; exact HOM.out, HBL.out⟩
      case round =>
        obtain ⟨j, k6, hj, rfl, rfl, HK6, HOJ, HBJ⟩ := hrel
        have hk6 := HK6.out
        by_cases hjl : j < n1
        · obtain ⟨⟨x1, t1⟩, hx1⟩ : ∃ p, (E)[j]? = some p := ⟨_, List.getElem?_eq_getElem (by omega)⟩
          obtain ⟨ax, hXe, bx, cx0⟩ := HRX.out.2 j (.pointer (some ⟨x1, 0, none⟩)) (by simp [ptrs, hx1])
          have c1 : wr.cell? (ax.add j) = some (.pointer (some ⟨x1, 0, none⟩)) := (HBJ.out.cell (by rw [show (ax.add j).block = ax.block from by unfold Addr.add; split <;> rfl]; exact bx)).trans cx0
          have hfz : ∀ i, wr.frozen? ⟨w2.heap.size, i, none⟩ = false := own_free HOJ.out
          have hjx := List.getElem?_eq_some_iff.1 hx1
          have hst : ((M) ++ (E).take (j + 1)) = ((M) ++ (E).take j) ++ [(x1, t1)] := by (rw [List.take_succ_eq_append_getElem hjx.1, hjx.2]; simp only [List.append_assoc])
          have hlp : (ptrs ((M) ++ (E).take j)).length = k6 := by (have hq := HK6.out; (try simp only [List.length_append] at hq); simp [ptrs]; omega)
          have hkN : k6 < N := by
            have hq := HK6.out
            (try simp only [List.length_append] at hq)
            omega
          have hov := overL_set (ptrs ((M) ++ (E).take j)) old (.pointer (some ⟨x1, 0, none⟩)) (by rw [hlp, HOLD.out]; exact hkN)
          rw [hlp] at hov
          obtain ⟨ov, hovv⟩ : ∃ ov, wr.cell? ⟨w2.heap.size, k6, none⟩ = some ov := by
            have := HOJ.out.cellAt k6 (by omega)
            exact ⟨_, this.trans (List.getElem?_eq_getElem (by have := HOJ.out.1; omega))⟩
          have hs6 := (HOJ.out.stored k6 (.pointer (some ⟨x1, 0, none⟩))).1
          rw [hov, ← ptrs_snoc _ (x1, t1), ← hst] at hs6
          have HS6 := Lib.hid hs6; have hb6 := HBJ.out.setCell (p := ⟨w2.heap.size, k6, none⟩) (Nat.le_refl _) (.pointer (some ⟨x1, 0, none⟩))
          have HB6 := Lib.hid hb6
          clear hs6 hb6 hov hst hlp hjx cx0 bx hx1 hk6
          subst hXe
          go_wp2
          go_roundw
          case rel => exact ⟨j + 1, k6 + 1, by omega, by go_num, by go_num, by have := HK6.out; show _ = _; omega, HS6.out, HB6.out⟩
          case measure => simp [intOf]; omega
        · obtain rfl : n1 = j := by omega
          have hhd := H.out.head.belowS HBJ.out
          have q0 : wr.cell? ⟨g, 0, none⟩ = some (.slice A bs.length c) := hhd.cell 0
          have f0 : wr.frozen? ⟨g, 0, none⟩ = false := hhd.free 0
          have hkN : k6 ≤ N := by (have hq := HK6.out; omega)
          go_wp2
          go_end0
          have hK : k6 = (remV E0 U0).length := by have hq := HK6.out; rw [← HMG2.out]; simp only [List.length_append] at hq ⊢; have := hl1'.out; omega
          have hoF := HOJ.out
          rw [List.take_of_length_le (by have := hl1'.out; omega), HMG2.out] at hoF
          have hlo : lo ≤ w2.heap.size := by have := H.out.log; have := H.out.head.lt; omega
          have hPe : remV E0 U0 = remV (bs.zip ts) (bu.zip tu) := by rw [HE0.out, HU0.out]
          have hfin := rem_fin H.out.vrow HBJ.out hhd H.out.log hlo (remV E0 U0) (bu.zip tu) (by rw [HE0.out, HU0.out]) (by omega) hoF
          rw [← hK] at hfin
          have hk7 : k6 = N := by have hq := HK6.out; omega
          rw [hk7] at hfin
          refine ⟨rfl, _, _, remV E0 U0, hPe, hfin, ?_⟩
          refine ⟨HBJ.out.os, HBJ.out.tape, HBJ.out.output, by have := HBJ.out.size; simp [World.setCell]; omega, fun k hk hkg hkr => ?_, (KeepB.of_below HBJ.out).trans (KeepB.setCell (p := ⟨g, 0, none⟩) hhd (by decide) _)⟩
          rw [Below.heap_setCell wr ⟨g, 0, none⟩ _ k hkg, HBJ.out.block k (by omega)]
    | cons u us =>
      cases E with
      | nil => have := HFT.out; simp [fitV] at this
      | cons e es =>
        obtain ⟨e1, t⟩ := e
        obtain ⟨u1, t'⟩ := u
        have hft := HFT.out
        rw [fitV] at hft
        obtain ⟨ax, rfl, cx0, bx, htx⟩ := Rd.tail (r := ptrs es) HRX.out hcx
        obtain ⟨ay, rfl, cy0, by_, hty⟩ := Rd.tail (r := ptrs us) HRY.out hcy
        have hE1 := (HMEM.out (e1, t)).1 (by simp)
        have hU1 := (HMEM.out (u1, t')).2 (by simp)
        obtain ⟨hv1, hk1⟩ := HVAL.out _ (.inl hE1)
        obtain ⟨hv2, hk2⟩ := HVAL.out _ (.inr hU1)
        have hw1 := hv1.belowS HBL.out; have hw2 := hv2.belowS HBL.out
        have ho1 := hk1.keep (KeepB.of_below HBL.out); have ho2 := hk2.keep (KeepB.of_below HBL.out)
        have d0 : wr.cell? ⟨e1, 0, none⟩ = some (.slice t.A t.x.adr.size t.c) := hw1.cell 0
        have d1 : wr.cell? ⟨u1, 0, none⟩ = some (.slice t'.A t'.x.adr.size t'.c) := hw2.cell 0
        have c1 : wr.cell? ax = some (.pointer (some ⟨e1, 0, none⟩)) := (HBL.out.cell bx).trans cx0
        have c2 : wr.cell? ay = some (.pointer (some ⟨u1, 0, none⟩)) := (HBL.out.cell by_).trans cy0
        have KQ := fun q => bequal_any t.x.adr t'.x.adr t.A t'.A t.c t'.c (wr.drewN q) ho1.1 ho2.1
        have hmg := HMG.out
        rw [remV] at hmg
        simp only [List.length_cons] at *
        cases hsm : t.x.adr.toList == t'.x.adr.toList with
        | true =>
          rw [if_pos (show sameA (e1, t) (u1, t') = true from hsm)] at hmg hft
          have HMG2 := Lib.hid hmg; have HFT2 := Lib.hid hft
          rw [hsm] at KQ
          clear hmg hft hsm hw1 hw2 ho1 ho2 hv1 hv2 hk1 hk2 hE1 hU1 HMG HFT
          go_wp2
          go_quiet ((exact quietL (KQ _)))
          go_wp2
          exact ⟨⟨es, us, M, _, _, cx - 1, cy - 1, rfl, rfl, rfl, by omega, by omega, by omega, HMG2.out, HFT2.out, (fun p => ⟨fun hp => (HMEM.out p).1 (List.mem_cons_of_mem _ hp), fun hp => (HMEM.out p).2 (List.mem_cons_of_mem _ hp)⟩), htx, hty, own_drewN HOM.out nq, below_drewN HBL.out nq⟩, by simp [lenOf]⟩
        | false =>
          rw [if_neg (show ¬ sameA (e1, t) (u1, t') = true from by show ¬ (t.x.adr.toList == t'.x.adr.toList) = true; rw [hsm]; simp)] at hmg hft
          have hfl := (fitV_le _ _ hft).1
          simp only [List.length_cons] at hfl
          have hst := HOM.out.stored M.length (.pointer (some ⟨e1, 0, none⟩))
          have hlm : M.length < N := by omega
          have hfz : ∀ i, wr.frozen? ⟨w2.heap.size, i, none⟩ = false := own_free HOM.out
          have hov : (overL (ptrs M) old).set M.length (.pointer (some ⟨e1, 0, none⟩)) = overL (ptrs M ++ [.pointer (some ⟨e1, 0, none⟩)]) old := by
            have := overL_set (ptrs M) old (.pointer (some ⟨e1, 0, none⟩)) (by rw [hml, HOLD.out]; exact hlm)
            rwa [hml] at this
          obtain ⟨ov, hovv⟩ : ∃ ov, wr.cell? ⟨w2.heap.size, M.length, none⟩ = some ov := by
            have := HOM.out.cellAt M.length (by omega)
            exact ⟨_, this.trans (List.getElem?_eq_getElem (by have := HOM.out.1; omega))⟩
          have HMG2 := Lib.hid hmg; have HFT2 := Lib.hid hft
          have HW := Lib.hid hov
          rw [hsm] at KQ
          rw [if_neg (by omega)] at htx
          clear hmg hft hsm hov hst hw1 hw2 ho1 ho2 hv1 hv2 hk1 hk2 hE1 hU1 HMG HFT
          go_wp2
          go_quiet ((exact quietL (KQ _)))
          go_wp2
          exact ⟨⟨es, (u1, t') :: us, M ++ [(e1, t)], _, some ay, cx - 1, cy, rfl, by simp only [List.length_cons], by simp, by omega, by simp only [List.length_cons]; omega, by simp; omega, by show _ = _; rw [← HMG2.out]; simp, HFT2.out, (fun p => ⟨fun hp => (HMEM.out p).1 (List.mem_cons_of_mem _ hp), (HMEM.out p).2⟩), htx, HRY.out, by have h1 := ((own_drewN HOM.out nq).stored M.length (.pointer (some ⟨e1, 0, none⟩))).1; rw [HW.out] at h1; show World.ownsRow _ _ _ _ _ _ _; rw [ptrs_snoc]; exact h1, (below_drewN HBL.out nq).setCell (p := ⟨w2.heap.size, M.length, none⟩) (Nat.le_refl _) _⟩, by simp [lenOf]⟩
end Go.Proofs.YtikikddkhikfkaaGreatDoor

set_option linter.all false
namespace Go.Proofs.YtikikddkhikfkaaGreatDoor
open Go.RowKit Go.Shelf

shelf_lay LaysGg.n6 Ggs 6 at Tryz as Tryz.slc6
noncomputable def siVT : TypeInfo := (Tryz.prog.info? 125).get (by kernel_rfl)
noncomputable def siVE : TypeInfo := (Tryz.prog.info? 126).get (by kernel_rfl)
theorem siVK (n : Nat) (h2 : 2 ≤ n) : Lib.swapperK n siVE 22 = 3 := by
  have a : siVE.hasPointers = true := by kernel_rfl
  have b : siVE.bytes = 8 := by kernel_rfl
  have c : (n == 0) = false := by simp; omega
  have d : (n == 1) = false := by simp; omega
  simp [Lib.swapperK, a, b, c, d]
theorem swo_key {α : Type} (f : α → Int) : Go.Sort.SWO (fun x y : α => decide (f x < f y)) :=
  ⟨fun x => by simp, fun x y z h h' => by simp only [decide_eq_true_eq] at *; omega, fun x y z h h' => by simp only [decide_eq_false_iff_not] at *; omega⟩
set_option maxHeartbeats 2000000 in
theorem sliceV_any (gl : Nat) (lb : Array Value) (eg : ∀ args w, (callFunc gl args).run Tryz.prog w = .ok (.enter gl args) w) (key : Sd → Int) {lo : Nat} {A : Option Addr} {c : Nat} {bs : List Nat} {ts : List Tv} (w : World) (h : VRow w lo A c bs ts) (hn : bs.length ≤ 1000000)
    (hless : ∀ (g : Nat) (W : World) (i j b b' : Nat) (t t' : Tv), A = some ⟨g, 0, none⟩ → w.grownBy W (some g) → i < bs.length → j < bs.length → W.cell? ⟨g, i, none⟩ = some (.pointer (some ⟨b, 0, none⟩)) → W.cell? ⟨g, j, none⟩ = some (.pointer (some ⟨b', 0, none⟩)) →
      Blk W b 136 t.val → Blk W b' 136 t'.val → t.ok W → t'.ok W → t ∈ ts → t' ∈ ts → (b = b' → t = t') → Calls Tryz.prog gl (#[.int .i64 i, .int .i64 j] ++ lb) W fun e w' => e = .returned (.bool (decide (key t.x < key t'.x))) ∧ ∃ q, w' = W.drewN q) :
    Calls Tryz.prog 133 #[.iface 125 (.slice A bs.length c), .func (.func gl) #[] lb] w fun e w' => e = .returned (.tuple #[]) ∧ ∃ bs' ts', (bs'.zip ts').Perm (bs.zip ts) ∧ bs'.length = bs.length ∧ ts'.length = bs.length ∧ (ts'.map Tv.x).Pairwise (fun x y => key x ≤ key y) ∧ VRow w' lo A c bs' ts' ∧ w.grownBy w' (Value.slice A bs.length c).ownBlock := by
  have hk : ∀ W, (Extern.Rtype.kind 126).run Tryz.prog W = .ok 22 W := fun _ => by kernel_rfl
  by_cases h1 : bs.length ≤ 1
  · have hT : ∀ f, Tryz.prog.funcs.findIdx? (·.name == "internal/reflectlite" ++ ".Swapper$" ++ toString (Lib.swapperK bs.length siVE 22)) = some f →
        Calls Tryz.prog 133 #[.iface 125 (.slice A bs.length c), .func (.func gl) #[] lb] w fun e w' => e = .returned (.tuple #[]) ∧ ∃ os, w' = Go.Sort.grow w os := fun f hf =>
      Any.sort_Slice_tiny Tryz.slc6 125 126 siVT siVE (by kernel_rfl) (by kernel_rfl) (by kernel_rfl) (by kernel_rfl) 22 hk A bs.length c h1 f hf (.func gl) #[] lb w
    have hS : Calls Tryz.prog 133 #[.iface 125 (.slice A bs.length c), .func (.func gl) #[] lb] w fun e w' => e = .returned (.tuple #[]) ∧ ∃ os, w' = Go.Sort.grow w os := by
      rcases Nat.lt_or_ge bs.length 1 with h0 | h0
      · have e : bs.length = 0 := by omega
        exact hT 174 (by rw [e]; kernel_rfl)
      · have e : bs.length = 1 := by omega
        exact hT 175 (by rw [e]; kernel_rfl)
    refine hS.mono ?_
    rintro e w' ⟨rfl, os, rfl⟩
    have hb : Below w.heap.size w (Go.Sort.grow w os) := ⟨rfl, rfl, rfl, by simp, fun i hi => Go.Sort.heap_grow_old _ _ hi⟩
    refine ⟨rfl, bs, ts, List.Perm.refl _, rfl, h.len, ?_, h.keep (KeepV.of_below lo hb (Nat.le_refl _)), grownAny_of hb _⟩
    have hl := h.len
    match ts, hl with
    | [], _ => simp
    | [t], _ => simp
    | _ :: _ :: _, hl => simp only [List.length_cons] at hl; omega
  · obtain ⟨g, cap, hv, _, hglt⟩ := h.row.form (by omega)
    have hA : A = some ⟨g, 0, none⟩ := by injection hv
    subst hA
    clear hv
    obtain ⟨L, hLe⟩ : ∃ L, L = bs.zip ts := ⟨_, rfl⟩
    have hLl : L.length = bs.length := by rw [hLe, List.length_zip, h.len, Nat.min_self]
    have hmem : ∀ p ∈ L, Blk w p.1 136 p.2.val ∧ p.2.ok w := fun p hp => by
      obtain ⟨j, hj⟩ := List.getElem?_of_mem hp
      rw [hLe, List.getElem?_zip_eq_some] at hj
      exact (h.vals j _ _ hj.1 hj.2).2
    have hmt : ∀ p ∈ L, p.2 ∈ ts := fun p hp => by rw [hLe] at hp; exact (List.of_mem_zip hp).2
    have hsame : ∀ p ∈ L, ∀ q ∈ L, p.1 = q.1 → p.2 = q.2 := fun p hp q hq e => by
      obtain ⟨j, hj⟩ := List.getElem?_of_mem hp
      obtain ⟨k, hk⟩ := List.getElem?_of_mem hq
      rw [hLe, List.getElem?_zip_eq_some] at hj hk
      have hj1 := List.getElem?_eq_some_iff.1 hj.1
      have hk1 := List.getElem?_eq_some_iff.1 hk.1
      have e2 : j = k := (List.getElem_inj h.nodup).1 (by rw [hj1.2, hk1.2, e])
      subst e2
      have := hj.2.symm.trans hk.2
      exact Option.some.inj this
    haveI : Inhabited {p : Nat × Tv // p ∈ L} := ⟨⟨L[0]'(by omega), List.getElem_mem _⟩⟩
    obtain ⟨d, hd⟩ : ∃ d : Array {p : Nat × Tv // p ∈ L}, d = L.attach.toArray := ⟨_, rfl⟩
    have hds : d.size = bs.length := by rw [hd]; simp [hLl]
    obtain ⟨enc, henc⟩ : ∃ enc : {p : Nat × Tv // p ∈ L} → Value, enc = fun p => ptrTo p.1.1 := ⟨_, rfl⟩
    have hE : ∀ p, enc p = .pointer (some ⟨p.1.1, 0, none⟩) := fun p => by rw [henc]; rfl
    have hH : Go.Sort.Holds enc w g 0 d := by
      intro j hj
      rw [Nat.zero_add]
      have hjl : j < L.length := by omega
      have hdj : d[j]! = ⟨L[j], List.getElem_mem hjl⟩ := by
        rw [getElem!_pos d j hj]
        subst hd
        simp
      have hLj : L[j]? = some (L[j]) := List.getElem?_eq_getElem hjl
      have hLj' : (bs.zip ts)[j]? = some L[j] := by rw [← hLe]; exact hLj
      rw [List.getElem?_zip_eq_some] at hLj'
      refine ⟨?_, h.row.frozenAt j⟩
      rw [hdj, hE, h.row.cellAt j (by omega), List.getElem?_map, hLj'.1]; rfl
    have hS := Any.sort_Slice_sorted Tryz.slc6 125 126 siVT siVE (by kernel_rfl) (by kernel_rfl) (by kernel_rfl) (by kernel_rfl) 22 hk (by kernel_rfl) (fun _ => by kernel_rfl) enc (fun x => by rw [hE]; rfl) (fun x y => decide (key x.1.2.x < key y.1.2.x)) (swo_key _) gl lb eg g 0 c d (by omega) (by omega)
      176 (by rw [siVK _ (by omega)]; kernel_rfl) true
      (fun args W => run_callFunc_extern Tryz.func176 (by kernel_rfl) (by kernel_rfl) (by kernel_rfl) (e := Extern.ReflectliteSwapper.swap true) (by kernel_rfl) args W) w
      (by
        intro m os dk hs i j hi hj
        have hW := grown_sortWorld enc w g m dk os
        have hHW := holds_sortWorld enc w g 0 m d dk os hglt hH hs
        have ci := (hHW i (by omega)).1
        have cj := (hHW j (by omega)).1
        rw [Nat.zero_add, hE] at ci cj
        have hne : ∀ p ∈ L, some p.1 ≠ some g := fun p hp e => own_ne_blk h.row (hmem p hp).1 (by decide) (by rw [e]; rfl)
        have kb := keepB_grown hW h.row
        have f1 := hmem _ dk[i]!.2; have f2 := hmem _ dk[j]!.2
        exact hless g _ i j _ _ dk[i]!.1.2 dk[j]!.1.2 rfl hW (by omega) (by omega) ci cj (f1.1.grown hW (hne _ dk[i]!.2)) (f2.1.grown hW (hne _ dk[j]!.2)) (f1.2.keep kb) (f2.2.keep kb) (hmt _ dk[i]!.2) (hmt _ dk[j]!.2) (hsame _ dk[i]!.2 _ dk[j]!.2))
      hH hglt
    change Calls Tryz.prog 133 _ _ _ at hS
    rw [hds] at hS
    refine hS.mono ?_
    rintro e w' ⟨rfl, d', q, os, hP, hSo, rfl⟩
    have hs' : d'.size = bs.length := hP.1.trans hds
    have hperm : d'.toList.Perm L.attach := by
      have := hP.2.2
      rw [Array.extract_eq_self_of_le (by omega), Array.extract_eq_self_of_le (by omega), hd] at this
      simpa using this
    have hw : Go.Sort.putRow enc (Go.Sort.ahead w q) g 0 d' = (w.drewN q).setCells g 0 ((d'.toList.map fun p => p.1.1).map ptrTo) := by
      have := Go.Lib.putRow_eq_setCells enc w g 0 d d'.toList q hH (by rw [Array.length_toList]; omega)
      rw [Array.toArray_toList] at this
      rw [this, List.map_map, henc]; rfl
    have hpz : ((d'.toList.map fun p => p.1.1).zip (d'.toList.map fun p => p.1.2)).Perm (bs.zip ts) := by
      rw [zip_maps, ← hLe]
      have := hperm.map Subtype.val
      rw [List.attach_map_subtype_val] at this
      exact this
    have hvr := h.sorted (d'.toList.map fun p => p.1.1) (d'.toList.map fun p => p.1.2) hpz (by simp; omega) (by simp; omega) q os
    rw [hw]
    refine ⟨rfl, _, _, hpz, by simp; omega, by simp; omega, ?_, hvr.1, hvr.2⟩
    rw [List.map_map, List.pairwise_map, List.pairwise_iff_getElem]
    intro i j hi hj hij
    rw [Array.length_toList] at hi hj
    have := hSo i j (Nat.zero_le _) hij (by omega)
    rw [getElem!_pos d' i hi, getElem!_pos d' j hj, decide_eq_false_iff_not] at this
    simp at this ⊢
    exact this
end Go.Proofs.YtikikddkhikfkaaGreatDoor

set_option linter.all false
namespace Go.Proofs.YtikikddkhikfkaaGreatDoor
open Go.RowKit

theorem keepV_drew {lo g : Nat} {A : Option Addr} {c : Nat} {bs : List Nat} {ts : List Tv} {prop : Value} {tot : Int} {same : Bool} {w : World} (h : VSet w lo g A c bs ts prop tot same) (q : Nat) : VSet (w.drewN q) lo g A c bs ts prop tot same := h.keep (KeepV.drewN lo w q)
set_option maxHeartbeats 3200000 in
theorem lessD_any (lo g : Nat) (A : Option Addr) (c : Nat) (bs : List Nat) (ts : List Tv) (prop : Value) (tot : Int) (same : Bool) (w : World) (h : VSet w lo g A c bs ts prop tot same) (hn : bs.length ≤ 1000000)
    (hp : ∀ t ∈ ts, 0 ≤ t.x.pow ∧ t.x.pow ≤ 2305843009213693952) (b1 b2 b3 r n cu i j b b' : Nat) (t t' : Tv) (hi : i < n) (hj : j < n) (hnn : n ≤ 1000000)
    (k1 : w.cell? ⟨b1, 0, none⟩ = some (.pointer (some ⟨g, 0, none⟩))) (k2 : w.cell? ⟨b2, 0, none⟩ = some (.func (.func 132) #[] #[])) (k3 : w.cell? ⟨b3, 0, none⟩ = some (.slice (some ⟨r, 0, none⟩) n cu))
    (ci : w.cell? ⟨r, i, none⟩ = some (.pointer (some ⟨b, 0, none⟩))) (cj : w.cell? ⟨r, j, none⟩ = some (.pointer (some ⟨b', 0, none⟩)))
    (hb : Blk w b 136 t.val) (hb' : Blk w b' 136 t'.val) (ho : t.ok w) (ho' : t'.ok w) (hq : 0 ≤ t.x.pow ∧ t.x.pow ≤ 2305843009213693952) (hq' : 0 ≤ t'.x.pow ∧ t'.x.pow ≤ 2305843009213693952) (hbb : b = b' → t = t') :
    Calls Tryz.prog 134 #[.int .i64 i, .int .i64 j, .pointer (some ⟨b2, 0, none⟩), .pointer (some ⟨b3, 0, none⟩), .pointer (some ⟨b1, 0, none⟩)] w fun e w' => e = .returned (.bool (decide (deltaL (ts.map Tv.x) t.x < deltaL (ts.map Tv.x) t'.x))) ∧ ∃ q, w' = w.drewN q := by
  obtain ⟨K, hK⟩ : ∃ K : Nat → Int, K = fun b0 => if b0 = b then deltaL (ts.map Tv.x) t.x else deltaL (ts.map Tv.x) t'.x := ⟨_, rfl⟩
  have hKb : K b = deltaL (ts.map Tv.x) t.x := by rw [hK]; simp
  have hKb' : K b' = deltaL (ts.map Tv.x) t'.x := by
    rw [hK]
    by_cases e : b' = b
    · rw [hbb e.symm]; simp
    · simp [e]
  have KD : ∀ (q b0 : Nat), b0 = b ∨ b0 = b' → Calls Tryz.prog 132 #[.pointer (some ⟨b0, 0, none⟩), .pointer (some ⟨g, 0, none⟩)] (w.drewN q) fun e w' => e = .returned (.int .i64 (K b0)) ∧ ∃ k, w' = (w.drewN q).drewN k := fun q b0 h0 => by
    rcases h0 with rfl | rfl
    · rw [hKb]; exact delta_any lo g A c bs ts prop tot same _ (keepV_drew h q) hn _ t hb (ho.drewN q) hp hq
    · rw [hKb']; exact delta_any lo g A c bs ts prop tot same _ (keepV_drew h q) hn _ t' hb' (ho'.drewN q) hp hq'
  rw [← hKb, ← hKb']
  clear h hp hb hb' ho ho' hq hq' hbb hKb hKb' hK
  go_enter Tryz.func134, Tryz.ntmps134
  go_wp2
  go_quiet ((exact quietLN (KD _ _ (by simp))))
  go_wp2
  go_ret
  exact ⟨rfl, _, rfl⟩
/-- TotalVotingPower: cached or not -/
theorem totG_any (lo g : Nat) (A : Option Addr) (c : Nat) (bs : List Nat) (ts : List Tv) (prop : Value) (tot : Int) (same : Bool) (w : World) (h : VSet w lo g A c bs ts prop tot same) (hn : bs.length ≤ 1000) (ht : tot = 0 ∨ tot = totL (ts.map Tv.x))
    (hp : ∀ t ∈ ts, 0 ≤ t.x.pow ∧ t.x.pow ≤ 1125899906842624) :
    Calls Tryz.prog 87 #[ptrTo g] w fun e w' => e = .returned (.int .i64 (totL (ts.map Tv.x))) ∧ VSet w' lo g A c bs ts prop (totL (ts.map Tv.x)) same ∧ OnlyL [g] w w' := by
  by_cases h0 : tot = 0
  · subst h0
    refine (tot_new lo g A c bs ts prop same w h hn hp).mono ?_
    rintro e w' ⟨rfl, rfl⟩
    refine ⟨rfl, h.setTot _, ⟨rfl, rfl, rfl, by simp [World.setCell], fun k _ hk => Below.heap_setCell w ⟨g, 2, none⟩ _ k (fun e => hk (by rw [e]; simp)), KeepB.setCell (p := ⟨g, 2, none⟩) h.head (by decide) _⟩⟩
  · obtain rfl : tot = totL (ts.map Tv.x) := by rcases ht with h | h; exact absurd h h0; exact h
    refine (tot_any lo g A c bs ts prop _ same w h h0).mono ?_
    rintro e w' ⟨rfl, rfl⟩
    exact ⟨rfl, h, OnlyL.refl _ _⟩
end Go.Proofs.YtikikddkhikfkaaGreatDoor

set_option linter.all false
namespace Go.Proofs.YtikikddkhikfkaaGreatDoor
open Go.RowKit

def sumD (vals : List Sd) : List Sd → Int
  | [] => 0
  | u :: r => deltaL vals u + sumD vals r
theorem sumD_append (vals l l' : List Sd) : sumD vals (l ++ l') = sumD vals l + sumD vals l' := by
  induction l with
  | nil => simp [sumD]
  | cons x r ih => simp only [List.cons_append, sumD, ih]; omega
theorem sumD_perm (vals : List Sd) {l l' : List Sd} (h : l.Perm l') : sumD vals l = sumD vals l' := by
  induction h with
  | nil => rfl
  | cons x _ ih => simp only [sumD, ih]
  | swap x y l => simp only [sumD]; omega
  | trans _ _ a b => exact a.trans b
theorem deltaL_bd {vals : List Sd} (h : ∀ x ∈ vals, 0 ≤ x.pow ∧ x.pow ≤ 1125899906842624) (u : Sd) (hu : 0 ≤ u.pow ∧ u.pow ≤ 1152921504606846975) : -1125899906842624 ≤ deltaL vals u ∧ deltaL vals u ≤ 1152921504606846975 := by
  unfold deltaL seatAt
  split
  · rename_i v hv
    split at hv
    · cases hv
    · have := h v (List.mem_of_getElem? hv); omega
  · omega
theorem sumD_low {vals : List Sd} (h : ∀ x ∈ vals, 0 ≤ x.pow ∧ x.pow ≤ 1125899906842624) (l : List Sd) (hl : ∀ u ∈ l, 0 ≤ u.pow ∧ u.pow ≤ 1152921504606846975) : -(1125899906842624 * (l.length : Int)) ≤ sumD vals l := by
  induction l with
  | nil => simp [sumD]
  | cons x r ih =>
    have := deltaL_bd h x (hl x List.mem_cons_self)
    have := ih fun u hu => hl u (List.mem_cons_of_mem _ hu)
    simp only [sumD, List.length_cons]
    omega
theorem sumD_pos {vals l : List Sd} (h : ∀ u ∈ l, 0 ≤ deltaL vals u) : 0 ≤ sumD vals l := by
  induction l with
  | nil => exact Int.le_refl _
  | cons x r ih =>
    have := h x List.mem_cons_self
    have := ih fun u hu => h u (List.mem_cons_of_mem _ hu)
    simp only [sumD]; omega
/-- what passes the greatest power passes it to the end -/
theorem sumD_over {vals l : List Sd} (hs : l.Pairwise fun x y => deltaL vals x ≤ deltaL vals y) {k : Nat} {x : Sd} (hx : l[k]? = some x) {P M : Int} (h1 : P + sumD vals (l.take k) ≤ M) (h2 : M < P + sumD vals (l.take k) + deltaL vals x) : M < P + sumD vals l := by
  have hk := List.getElem?_eq_some_iff.1 hx
  have e : l = l.take k ++ (x :: l.drop (k + 1)) := by
    rw [← hk.2, ← List.drop_eq_getElem_cons hk.1, List.take_append_drop]
  have hp : 0 ≤ sumD vals (l.drop (k + 1)) := sumD_pos fun u hu => by
    rw [e] at hs
    have := (List.pairwise_cons.1 (List.pairwise_append.1 hs).2.1).1 u hu
    omega
  have := sumD_append vals (l.take k) (x :: l.drop (k + 1))
  rw [← e] at this
  simp only [sumD] at this
  omega
theorem VSet.low {w : World} {lo g : Nat} {A : Option Addr} {c : Nat} {bs : List Nat} {ts : List Tv} {prop : Value} {tot : Int} {same : Bool} (h : VSet w lo g A c bs ts prop tot same) : VLow w.heap.size g A bs :=
  ⟨h.head.lt, fun a ha => by
    rcases h.row.2 with ⟨e, _⟩ | ⟨g', cap, cur, hv, _, hh, _⟩
    · injection e with e; rw [ha] at e; cases e
    · injection hv with hv; rw [ha] at hv; cases hv; exact lt_of_heap hh, fun b hb => (h.mem_lo hb).2⟩
/-- what the loop of verifyUpdates stands on -/
structure UpdS (w : World) (lo g : Nat) (A : Option Addr) (c : Nat) (bs : List Nat) (ts : List Tv) (prop : Value) (tot : Int) (same : Bool) (b1 b2 b3 lo' : Nat) (A' : Option Addr) (c' : Nat) (bu : List Nat) (tu : List Tv) : Prop where
  set_ : VSet w lo g A c bs ts prop tot same
  row : VRow w lo' A' c' bu tu
  c1 : Blk w b1 75 #[.pointer (some ⟨g, 0, none⟩)]
  c2 : Blk w b2 215 #[.func (.func 132) #[] #[]]
  c3 : Blk w b3 125 #[.slice A' bu.length c']
theorem own_mono {w : World} {base base' e size : Nat} {v : Value} {n : Nat} {xs : List Value} (h : w.ownsRow base e size v n xs) (hb : base' ≤ base) : w.ownsRow base' e size v n xs :=
  ⟨h.1, h.2.imp id fun ⟨g, cap, cur, h1, h2, h3⟩ => ⟨g, cap, cur, h1, Nat.le_trans hb h2, h3⟩⟩
theorem VRow.mono {w : World} {lo lo' : Nat} {A : Option Addr} {c : Nat} {bs : List Nat} {ts : List Tv} (h : VRow w lo A c bs ts) (hl : lo' ≤ lo) : VRow w lo' A c bs ts :=
  ⟨own_mono h.row hl, h.len, h.nodup, fun j b t hb ht => ⟨Nat.le_trans hl (h.vals j b t hb ht).1, (h.vals j b t hb ht).2⟩⟩
theorem VSet.grown {w w' : World} {lo g N r : Nat} {A : Option Addr} {c : Nat} {bs : List Nat} {ts : List Tv} {prop : Value} {tot : Int} {same : Bool} (h : VSet w lo g A c bs ts prop tot same) (hl : VLow N g A bs) (hg : w.grownBy w' (some r)) (hr : N ≤ r) (hN : N ≤ w.heap.size) (kb : KeepB w w') : VSet w' lo g A c bs ts prop tot same :=
  h.keepLow hl kb (fun i hi => by
    obtain ⟨_, _, _, _, hh⟩ := hg
    exact hh i (by omega) (fun e => by cases e; omega))
theorem keepB_grownA {w w' : World} {lo c n : Nat} {A : Option Addr} {xs : List Value} (hg : w.grownBy w' (Value.slice A n c).ownBlock) (h : w.ownsRow lo 126 1 (.slice A n c) n xs) : KeepB w w' :=
  KeepB.of_grown hg (fun g' cs m e hh => by
    rcases h.2 with ⟨e2, _⟩ | ⟨g2, cap, cur, hv, _, hh', _⟩
    · rw [e2] at e; cases e
    · rw [hv] at e
      have e3 : g2 = g' := by injection e
      subst e3
      rw [hh] at hh'
      injection hh' with hh'; injection hh' with _ ht
      exact absurd ht (by decide))
theorem UpdS.grown {w w' : World} {lo g N b1 b2 b3 c c' : Nat} {A A' : Option Addr} {bs bu : List Nat} {ts tu : List Tv} {prop : Value} {tot : Int} {same : Bool} (h : UpdS w lo g A c bs ts prop tot same b1 b2 b3 (N + 1) A' c' bu tu) (hl : VLow N g A bs) (hN : N ≤ w.heap.size) (bu' : List Nat) (tu' : List Tv) (hv : VRow w' (N + 1) A' c' bu' tu') (hg : w.grownBy w' (Value.slice A' bu.length c').ownBlock) (hb : bu'.length = bu.length) : UpdS w' lo g A c bs ts prop tot same b1 b2 b3 (N + 1) A' c' bu' tu' := by
  have kb := keepB_grownA hg h.row.row
  refine ⟨h.set_.keepLow hl kb (fun i hi => ?_), hv, h.c1.grown hg (own_ne_blk h.row.row h.c1 (by decide)), h.c2.grown hg (own_ne_blk h.row.row h.c2 (by decide)), by rw [hb]; exact h.c3.grown hg (own_ne_blk h.row.row h.c3 (by decide))⟩
  obtain ⟨_, _, _, _, hh⟩ := hg
  exact hh i (by omega) (fun e => by have := own_base h.row.row i e.symm; omega)
theorem UpdS.only {w w' : World} {lo g N b1 b2 b3 c c' : Nat} {A A' : Option Addr} {bs bu : List Nat} {ts tu : List Tv} {prop : Value} {tot tot' : Int} {same : Bool} (h : UpdS w lo g A c bs ts prop tot same b1 b2 b3 N A' c' bu tu) (hgN : g < N) (hv : VSet w' lo g A c bs ts prop tot' same) (ho : OnlyL [g] w w') : UpdS w' lo g A c bs ts prop tot' same b1 b2 b3 N A' c' bu tu := by
  have key : ∀ {x : Nat} {ty : TypeId} {cs : Array Value}, Blk w x ty cs → ty ≠ 128 → Blk w' x ty cs := fun hx hty =>
    (ho.block _ hx.lt (by simp; exact Blk.ne hx h.set_.head hty)).trans hx
  exact ⟨hv, h.row.keep ⟨ho.bytes, fun k hk hlt => ho.block k hlt (by simp; omega)⟩, key h.c1 (by decide), key h.c2 (by decide), key h.c3 (by decide)⟩
theorem OnlyL.drewN {bs : List Nat} {a b : World} (h : OnlyL bs a b) (q : Nat) : OnlyL bs a (b.drewN q) := ⟨h.os, h.tape, h.output, h.size, h.block, h.bytes⟩
theorem UpdS.drewN {w : World} {lo g N b1 b2 b3 c c' : Nat} {A A' : Option Addr} {bs bu : List Nat} {ts tu : List Tv} {prop : Value} {tot : Int} {same : Bool} (h : UpdS w lo g A c bs ts prop tot same b1 b2 b3 N A' c' bu tu) (q : Nat) : UpdS (w.drewN q) lo g A c bs ts prop tot same b1 b2 b3 N A' c' bu tu :=
  ⟨keepV_drew h.set_ q, h.row.keep (KeepV.drewN _ w q), h.c1, h.c2, h.c3⟩
set_option maxRecDepth 100000 in
set_option maxHeartbeats 6400000 in
theorem verUpd_any (lo g : Nat) (A : Option Addr) (c : Nat) (bs : List Nat) (ts : List Tv) (prop : Value) (tot : Int) (same : Bool) (w : World) (h : VSet w lo g A c bs ts prop tot same) (hn : bs.length ≤ 1000) (ht : tot = 0 ∨ tot = totL (ts.map Tv.x)) (hp : ∀ t ∈ ts, 0 ≤ t.x.pow ∧ t.x.pow ≤ 1125899906842624)
    (lo' : Nat) (Au : Option Addr) (cu : Nat) (bu : List Nat) (tu : List Tv) (hu : VRow w lo' Au cu bu tu) (hnu : bu.length ≤ 1000) (hA : Au ≠ none) (hpu : ∀ t ∈ tu, 0 ≤ t.x.pow ∧ t.x.pow ≤ 1152921504606846975) (R : Int) (hR : 0 ≤ R ∧ R ≤ 1152921504606846976)
    (T0 : Nat) (v0 : Value) (hG : w.cell? ⟨0, 0, none⟩ = some (.iface T0 v0)) (hg0 : g ≠ 0) (hw0 : 0 < w.heap.size) :
    Calls Tryz.prog 102 #[.slice Au bu.length cu, ptrTo g, .int .i64 R] w fun e w' => VSet w' lo g A c bs ts prop (totL (ts.map Tv.x)) same ∧ OnlyL [g] w w' ∧
      ((totL (ts.map Tv.x) - R + sumD (ts.map Tv.x) (tu.map Tv.x) ≤ 1152921504606846975 ∧ e = .returned (.tuple #[.int .i64 (totL (ts.map Tv.x) + sumD (ts.map Tv.x) (tu.map Tv.x)), .nilIface])) ∨
       (1152921504606846975 < totL (ts.map Tv.x) - R + sumD (ts.map Tv.x) (tu.map Tv.x) ∧ e = .returned (.tuple #[.int .i64 0, .iface T0 v0]))) := by
  have KC := Lib.hid (fun (W : World) (hW : Below w.heap.size w W) => vcopies_any lo' Au cu bu tu W (hu.keep (KeepV.of_below lo' hW (Nat.le_refl _))) (by omega) hA)
  have H := Lib.hid h; have HU := Lib.hid hu; have HP := Lib.hid hp; have HPU := Lib.hid hpu; have HT := Lib.hid ht; have HG := Lib.hid hG
  clear h hu hp hpu ht hA hG
  unfold ptrTo
  go_enter Tryz.func102, Tryz.ntmps102
  go_wp2_with fail
  have hb2 : Below w.heap.size w ((w.alloc (.cells #[.pointer (some ⟨g, 0, none⟩)] 75)).alloc (.cells #[.func (.func 132) #[] #[]] 215)) := ((Below.refl _ _).alloc (Nat.le_refl _) _).alloc (by simp) _
  have HB2 := Lib.hid hb2
  refine (KC.out _ hb2).mono ?_
  rintro e w3 ⟨A', c', bu', hl', rfl, hv3, hb3⟩
  have hlow := H.out.low
  have hbw3 := hb2.trans (hb3.mono hb2.size)
  have hbw4 := hbw3.alloc hbw3.size (.cells #[.slice A' bu'.length c'] 125)
  have hz3 : w.heap.size + 1 + 1 ≤ w3.heap.size := by have := hb3.size; simpa using this
  have hs4 : UpdS (w3.alloc (.cells #[.slice A' bu'.length c'] 125)) lo g A c bs ts prop tot same w.heap.size (w.heap.size + 1) w3.heap.size (w.heap.size + 1) A' c' bu' tu := by
    refine ⟨H.out.keep (KeepV.of_below lo hbw4 (Nat.le_refl _)), (hv3.keep (KeepV.of_below _ ((Below.refl w3.heap.size w3).alloc (Nat.le_refl _) _) (Nat.le_refl _))).mono (by simp), ?_, ?_, Blk.new _ _ _⟩
    · exact ((Blk.new w 75 #[.pointer (some ⟨g, 0, none⟩)]).alloc _ |>.belowS hb3).alloc _
    · have hk := ((Blk.new (w.alloc (.cells #[.pointer (some ⟨g, 0, none⟩)] 75)) 215 #[.func (.func 132) #[] #[]]).belowS hb3).alloc (.cells #[.slice A' bu'.length c'] 125)
      simpa using hk
  have HS4 := Lib.hid hs4; have HB4 := Lib.hid hbw4; have HLOW := Lib.hid hlow; have HL' := Lib.hid hl'; have HZ3 := Lib.hid hz3
  clear hv3 hb3 hbw3 hbw4 hs4 hlow hz3 hb2 hl'
  go_upto_region 3 with fail
  generalize hw3 : w3.heap.size = b3 at *
  generalize w3.alloc (.cells #[.slice A' bu'.length c'] 125) = w4 at *
  clear hw3 HB2
  have hnb : bu'.length ≤ 1000 := by have := HL'.out; omega
  have hlow4 := HLOW.out
  have hS := sliceV_any 134 #[.pointer (some ⟨w.heap.size + 1, 0, none⟩), .pointer (some ⟨b3, 0, none⟩), .pointer (some ⟨w.heap.size, 0, none⟩)] (enters_of Tryz.func134 (by kernel_rfl) rfl) (deltaL (ts.map Tv.x)) w4 HS4.out.row (by omega) (by
    intro r W i j b b' t t' hA' hW hi hj ci cj hb hb' ho ho' ht ht' hbb
    have hr : w.heap.size + 1 ≤ r := (own_base HS4.out.row.row r (by rw [hA']; rfl))
    have kb := keepB_grown hW (by have := HS4.out.row.row; rw [hA'] at this; exact this)
    have hv := HS4.out.set_.grown hlow4 hW (by omega) (by have := HB4.out.size; omega) kb
    have hne : ∀ {ty : TypeId} {x : Nat} {cs : Array Value}, Blk w4 x ty cs → ty ≠ 126 → some x ≠ some r := fun hx hty e => own_ne_blk HS4.out.row.row hx hty (by rw [e, hA']; rfl)
    have k1 := HS4.out.c1.grown hW (hne HS4.out.c1 (by decide))
    have k3 := HS4.out.c3.grown hW (hne HS4.out.c3 (by decide))
    have k2' := HS4.out.c2.grown hW (hne HS4.out.c2 (by decide))
    rw [hA'] at k3
    exact lessD_any lo g A c bs ts prop tot same W hv (by omega) (fun t ht => by have := HP.out t ht; omega) w.heap.size (w.heap.size + 1) b3 r bu'.length c' i j b b' t t' hi hj (by omega) (k1.cell 0) (k2'.cell 0) (k3.cell 0) ci cj hb hb' ho ho' (by have := HPU.out t ht; omega) (by have := HPU.out t' ht'; omega) hbb)
  have HSL := Lib.hid hS; clear hS hlow4
  have q3 : w4.cell? ⟨b3, 0, none⟩ = some (.slice A' bu'.length c') := HS4.out.c3.cell 0
  go_wp2_with fail
  refine HSL.out.mono ?_
  rintro e w5 ⟨rfl, bs5, ts5, hp5, hl5, hl5', hsort, hv5, hg5⟩
  have hs5 := HS4.out.grown HLOW.out (by have := HB4.out.size; omega) bs5 ts5 hv5 hg5 hl5
  have hz5 : w4.heap.size ≤ w5.heap.size := by obtain ⟨_, _, _, h4, _⟩ := hg5; exact h4
  have hpx : (ts5.map Tv.x).Perm (tu.map Tv.x) := by
    have h1 := hp5.map Prod.snd
    rw [List.map_snd_zip (by omega), List.map_snd_zip (by have := HS4.out.row.len; omega)] at h1
    exact h1.map _
  have KT := Lib.hid (totG_any lo g A c bs ts prop tot same w5 hs5.set_ hn HT.out HP.out)
  have HS5 := Lib.hid hs5; have HG5 := Lib.hid hg5; have HPX := Lib.hid hpx; have HSO := Lib.hid hsort; have HL5 := Lib.hid hl5
  have q1 : w5.cell? ⟨w.heap.size, 0, none⟩ = some (.pointer (some ⟨g, 0, none⟩)) := hs5.c1.cell 0
  clear hv5 hg5 hs5 hp5 hl5 hl5' hsort hpx q3
  go_wp2_with fail
  refine KT.out.mono ?_
  rintro e w6 ⟨rfl, hv6, ho6⟩
  have hs6 := HS5.out.only (by have := HLOW.out.head; omega) hv6 ho6
  have hz6 := ho6.size
  have honly : OnlyL [g] w w6 := ⟨ho6.os.trans (by obtain ⟨h1, _⟩ := HG5.out; exact h1.trans HB4.out.os), ho6.tape.trans (by obtain ⟨_, h1, _⟩ := HG5.out; exact h1.trans HB4.out.tape), ho6.output.trans (by obtain ⟨_, _, h1, _⟩ := HG5.out; exact h1.trans HB4.out.output), by have := HB4.out.size; omega, fun k hk hkg => by
    have := HB4.out.size
    rw [ho6.block k (by omega) hkg]
    obtain ⟨_, _, _, _, hh⟩ := HG5.out
    rw [hh k (by omega) (fun e => by have := own_base HS4.out.row.row k e.symm; omega)]
    exact HB4.out.block k hk, ((KeepB.of_below HB4.out).trans (keepB_grownA HG5.out HS4.out.row.row)).trans ho6.bytes⟩
  have hlt : ts.length ≤ 1000 := by have := hs6.set_.len; omega
  have hps : ∀ x ∈ ts.map Tv.x, 0 ≤ x.pow ∧ x.pow ≤ 1125899906842624 := fun x hx => by
    obtain ⟨t, ht, rfl⟩ := List.mem_map.1 hx
    exact HP.out t ht
  have htb : 0 ≤ totL (ts.map Tv.x) ∧ totL (ts.map Tv.x) ≤ 1125899906842624000 := by
    have h1 := sumI_bd (powsOf (ts.map Tv.x)) 0 1125899906842624 (fun x hx => by
      obtain ⟨s, hs, rfl⟩ := List.mem_map.1 hx
      exact hps s hs)
    have h2 : (powsOf (ts.map Tv.x)).length ≤ 1000 := by simp [powsOf]; omega
    unfold totL
    generalize (powsOf (ts.map Tv.x)).length = m at *
    omega
  have hpx5 : ∀ u ∈ ts5.map Tv.x, 0 ≤ u.pow ∧ u.pow ≤ 1152921504606846975 := fun u hu => by
    have := HPX.out.mem_iff.1 hu
    obtain ⟨t, ht, rfl⟩ := List.mem_map.1 this
    exact HPU.out t ht
  have hl5x : (ts5.map Tv.x).length = bs5.length := by rw [List.length_map]; exact hs6.row.len
  have hl5n : bs5.length ≤ 1000 := by have := HL5.out; omega
  have hsp := sumD_perm (ts.map Tv.x) HPX.out
  have q3 : w6.cell? ⟨b3, 0, none⟩ = some (.slice A' bs5.length c') := hs6.c3.cell 0
  have HS6 := Lib.hid hs6; have HON := Lib.hid honly; have HPS := Lib.hid hps; have HP5 := Lib.hid hpx5; have HLX := Lib.hid hl5x; have HSP := Lib.hid hsp
  clear hs6 honly hps hpx5 hl5x hsp hv6 ho6 q1
  generalize hTT : totL (ts.map Tv.x) = TT at *
  go_wp2
  go_loopw [10, 25] (fun v i wr => ∃ k : Nat, k ≤ bs5.length ∧ i = .int .i64 k ∧ v = .int .i64 (TT - R + sumD (ts.map Tv.x) ((ts5.map Tv.x).take k)) ∧ Hid (TT - R + sumD (ts.map Tv.x) ((ts5.map Tv.x).take k) ≤ 1152921504606846975) ∧ Hid (∃ q, wr = w6.drewN q)) (fun _ i _ => bs5.length - (intOf i).toNat)
  case atStart => exact ⟨0, Nat.zero_le _, rfl, by show Value.int .i64 _ = Value.int .i64 (TT - R + 0); rw [Int.add_zero], by show TT - R + 0 ≤ _; omega, ⟨0, rfl⟩⟩
  case round =>
    obtain ⟨k, hk, rfl, rfl, HM, HW⟩ := hrel
    obtain ⟨q, hq⟩ := HW.out
    subst hq
    have hs := HS6.out.drewN q
    have hlow := sumD_low HPS.out ((ts5.map Tv.x).take k) (fun u hu => HP5.out u (List.mem_of_mem_take hu))
    have hlk : ((ts5.map Tv.x).take k).length ≤ 1000 := by rw [List.length_take, HLX.out]; omega
    have hmx := HM.out
    by_cases hlt : k < bs5.length
    · obtain ⟨b, t, hb, ht⟩ := hs.row.at_ hlt
      obtain ⟨r, rfl, _, hp⟩ := hs.row.ptr hb
      obtain ⟨hbv, hok⟩ := hs.row.validator hb ht
      have hxk : (ts5.map Tv.x)[k]? = some t.x := by rw [List.getElem?_map, ht]; rfl
      have hk' := List.getElem?_eq_some_iff.1 hxk
      have hst : sumD (ts.map Tv.x) ((ts5.map Tv.x).take (k + 1)) = sumD (ts.map Tv.x) ((ts5.map Tv.x).take k) + deltaL (ts.map Tv.x) t.x := by
        rw [List.take_succ_eq_append_getElem hk'.1, hk'.2, sumD_append]; simp [sumD]
      have htp := HP5.out t.x (List.mem_of_getElem? hxk)
      have hdb := deltaL_bd HPS.out t.x htp
      have hov := sumD_over (P := TT - R) (M := 1152921504606846975) HSO.out hxk hmx
      have hD := delta_any lo g A c bs ts prop TT same _ hs.set_ (by omega) b t hbv hok (fun t ht => by have := HP.out t ht; omega) (by omega)
      have k1 : (w6.drewN q).cell? ⟨w.heap.size, 0, none⟩ = some (.pointer (some ⟨g, 0, none⟩)) := hs.c1.cell 0
      have k2 : (w6.drewN q).cell? ⟨w.heap.size + 1, 0, none⟩ = some (.func (.func 132) #[] #[]) := hs.c2.cell 0
      unfold ptrTo at hD
      generalize sumD (ts.map Tv.x) ((ts5.map Tv.x).take k) = S at *
      generalize deltaL (ts.map Tv.x) t.x = D at *
      have HD := Lib.hid hD; have HST := Lib.hid hst; have HOV := Lib.hid hov
      clear hD hst hov hb ht hbv hok hxk hk' hs htp
      have kg : ∀ m, (w6.drewN m).cell? ⟨0, 0, none⟩ = some (.iface T0 v0) := fun m => by
        have hb0 := HON.out.block 0 hw0 (by simp; omega)
        have : w6.cell? ⟨0, 0, none⟩ = w.cell? ⟨0, 0, none⟩ := World.cell?_of_block (w := w) hb0
        show w6.cell? ⟨0, 0, none⟩ = _
        rw [this]; exact HG.out
      have KG := Lib.hid kg; clear kg
      by_cases hov : 1152921504606846975 < TT - R + S + D
      · go_wp2_with fail
        refine HD.out.mono ?_
        rintro e w7 ⟨rfl, q2, rfl⟩
        have kg : w6.cell? ⟨0, 0, none⟩ = some (.iface T0 v0) := KG.out 0
        go_wp2
        go_quiet (fail)
        go_wp2
        go_returns
        refine ⟨?_, ?_, .inr ⟨by rw [hTT, ← HSP.out]; exact HOV.out hov, rfl⟩⟩
        · rw [hTT]; exact keepV_drew (keepV_drew HS6.out.set_ (q + q2)) _
        · exact (HON.out.drewN (q + q2)).drewN _
      · go_wp2_with fail
        refine HD.out.mono ?_
        rintro e w7 ⟨rfl, q2, rfl⟩
        go_wp2
        go_roundw
        case rel => exact ⟨k + 1, by omega, by go_num, by rw [HST.out]; congr 1; omega, by show _ ≤ _; rw [HST.out]; omega, ⟨q + q2, rfl⟩⟩
        case measure => simp [intOf]; omega
    · obtain rfl : k = bs5.length := by omega
      have he : sumD (ts.map Tv.x) ((ts5.map Tv.x).take bs5.length) = sumD (ts.map Tv.x) (tu.map Tv.x) := by
        rw [List.take_of_length_le (by rw [HLX.out]; exact Nat.le_refl _), HSP.out]
      rw [he] at hmx hlow
      have HE := Lib.hid he; have HMX := Lib.hid hmx
      rw [he]
      clear he HM hs
      generalize hSS : sumD (ts.map Tv.x) (tu.map Tv.x) = SS at *
      go_wp2
      go_returns
      refine ⟨?_, ?_, .inl ⟨?_, ?_⟩⟩
      · rw [hTT]; exact keepV_drew HS6.out.set_ q
      · exact HON.out.drewN q
      · rw [hTT, hSS]; exact HMX.out
      · have : TT - R + SS + R = TT + SS := by omega
        rw [hTT, hSS, ← this]
        rfl
end Go.Proofs.YtikikddkhikfkaaGreatDoor

set_option linter.all false
namespace Go.Proofs.YtikikddkhikfkaaGreatDoor
open Go.RowKit

theorem sumI_nn : ∀ (l : List Int), (∀ x ∈ l, 0 ≤ x) → 0 ≤ sumI l
  | [], _ => by simp [sumI]
  | x :: r, h => by rw [sumI_cons]; have := h x (List.mem_cons_self ..); have := sumI_nn r fun y hy => h y (List.mem_cons_of_mem _ hy); omega
theorem sumI_part : ∀ (l : List Int), (∀ x ∈ l, 0 ≤ x) → ∀ (k : Nat) (x : Int), l[k]? = some x → 0 ≤ sumI (l.take k) ∧ sumI (l.take k) + x ≤ sumI l
  | [], _, k, x, h => by simp at h
  | y :: r, h, 0, x, hx => by
    have h1 := sumI_nn r fun y hy => h y (List.mem_cons_of_mem _ hy)
    simp at hx; subst hx
    rw [List.take_zero, sumI_cons]
    simp only [sumI, List.foldl_nil] at *; omega
  | y :: r, h, k + 1, x, hx => by
    have h1 := sumI_part r (fun y hy => h y (List.mem_cons_of_mem _ hy)) k x (by simpa using hx)
    rw [List.take_succ_cons, sumI_cons, sumI_cons]
    have := h y (List.mem_cons_self ..)
    omega
theorem sumI_one : ∀ (l : List Int), (∀ x ∈ l, 1 ≤ x) → (l.length : Int) ≤ sumI l
  | [], _ => by simp [sumI]
  | x :: r, h => by rw [sumI_cons]; have := h x (List.mem_cons_self ..); have := sumI_one r fun y hy => h y (List.mem_cons_of_mem _ hy); simp only [List.length_cons]; omega
theorem totL_one (l : List Sd) (h : ∀ x ∈ l, 1 ≤ x.pow) : (l.length : Int) ≤ totL l := by
  have := sumI_one (powsOf l) (fun x hx => by obtain ⟨s, hs, rfl⟩ := List.mem_map.1 hx; exact h s hs)
  unfold totL
  simpa [powsOf] using this
theorem pow_tot (l : List Sd) (h : ∀ x ∈ l, 0 ≤ x.pow) : ∀ x ∈ l, x.pow ≤ totL l := fun x hx => by
  obtain ⟨k, hk⟩ := List.getElem?_of_mem hx
  have := sumI_part (powsOf l) (fun x hx => by obtain ⟨s, hs, rfl⟩ := List.mem_map.1 hx; exact h s hs) k x.pow (by rw [powsOf, List.getElem?_map, hk]; rfl)
  unfold totL; omega
set_option maxRecDepth 100000 in
set_option maxHeartbeats 6400000 in
theorem updTotalW_any (lo g : Nat) (A : Option Addr) (c : Nat) (bs : List Nat) (ts : List Tv) (prop : Value) (tot : Int) (same : Bool) (w : World) (h : VSet w lo g A c bs ts prop tot same) (hn : bs.length ≤ 1000)
    (hp : ∀ t ∈ ts, 0 ≤ t.x.pow) (hT : totL (ts.map Tv.x) ≤ 1152921504606846975) :
    Calls Tryz.prog 106 #[ptrTo g] w fun e w' => e = .returned (.tuple #[]) ∧ w' = w.setCell ⟨g, 2, none⟩ (.int .i64 (totL (ts.map Tv.x))) := by
  unfold ptrTo
  have h0 : w.cell? ⟨g, 0, none⟩ = some (.slice A bs.length c) := h.head.cell 0
  have h2 : w.cell? ⟨g, 2, none⟩ = some (.int .i64 tot) := h.head.cell 2
  have hf := h.head.free 2
  have H := Lib.hid h; have HP := Lib.hid hp; clear h hp
  go_enter Tryz.func106, Tryz.ntmps106
  go_wp2
  go_loop [2, 10] (fun s i => ∃ k : Nat, k ≤ bs.length ∧ i = .int .i64 k ∧ s = .int .i64 (sumI ((powsOf (ts.map Tv.x)).take k))) (fun _ i => bs.length - (intOf i).toNat)
  case atStart => exact ⟨0, Nat.zero_le _, rfl, rfl⟩
  case round =>
    obtain ⟨k, hk, rfl, rfl⟩ := hrel
    by_cases hlt : k < bs.length
    · obtain ⟨b, t, hb, ht⟩ := H.out.at_ hlt
      obtain ⟨r, rfl, _, hp⟩ := H.out.ptr hb
      obtain ⟨_, hbv, hok⟩ := H.out.vals k b t hb ht
      obtain ⟨c0, c1, c2, c3⟩ := t.val_cells hbv
      have hst : (powsOf (ts.map Tv.x)).take (k + 1) = (powsOf (ts.map Tv.x)).take k ++ [t.x.pow] := map_take_succ ht
      have hpt := HP.out t (List.mem_of_getElem? ht)
      have hbd := sumI_part (powsOf (ts.map Tv.x)) (fun x hx => by
        obtain ⟨s, hs, rfl⟩ := List.mem_map.1 hx
        obtain ⟨u, hu, rfl⟩ := List.mem_map.1 hs
        exact HP.out u hu) k t.x.pow (by rw [powsOf, List.getElem?_map, List.getElem?_map, ht]; rfl)
      rw [show sumI (powsOf (ts.map Tv.x)) = totL (ts.map Tv.x) from rfl] at hbd
      have hs := sumI_snoc ((powsOf (ts.map Tv.x)).take k) t.x.pow
      rw [← hst] at hs
      generalize sumI ((powsOf (ts.map Tv.x)).take k) = s at *
      have hcl : clip (s + t.x.pow) = s + t.x.pow := clip_of ⟨by omega, by omega⟩
      have kc := fun W => addClip_any s t.x.pow W ⟨by omega, by omega⟩ ⟨by omega, by omega⟩
      rw [hcl] at kc
      have HS := Lib.hid hs; have HBV := Lib.hid hbv; have HOK := Lib.hid hok
      have KC := Lib.hid kc; clear kc hcl hs hbv hok hst hb ht
      go_wp2_with fail
      refine (KC.out _).mono ?_
      rintro e w1 ⟨rfl, rfl⟩
      go_wp2
      go_round
      case rel => exact ⟨k + 1, by omega, by go_num, by rw [HS.out]⟩
      case measure => simp [intOf]; omega
    · have hkn : k = bs.length := by omega
      have hsum : sumI ((powsOf (ts.map Tv.x)).take k) = totL (ts.map Tv.x) := by
        unfold totL; rw [List.take_of_length_le (by simp [powsOf, H.out.len]; omega)]
      rw [hsum]
      clear hsum
      go_wp2
      go_end0
      exact ⟨rfl, rfl⟩
set_option maxRecDepth 100000 in
set_option maxHeartbeats 6400000 in
theorem incrW_any (lo g : Nat) (A : Option Addr) (c : Nat) (bs : List Nat) (ts : List Tv) (prop : Value) (tot : Int) (same : Bool) (times : Nat) (w : World) (h : VSet w lo g A c bs ts prop tot same) (hn : bs.length ≤ 1000) (hn0 : 0 < bs.length)
    (ht : tot = totL (ts.map Tv.x)) (hTT : totL (ts.map Tv.x) ≤ 1152921504606846975) (hd : distinct (ts.map Tv.x)) (hp : ∀ t ∈ ts, -1152921504606846976 < t.x.pri ∧ t.x.pri < 1152921504606846976) (hw : ∀ t ∈ ts, 1 ≤ t.x.pow)
    (htm : 0 < times) (htm2 : times ≤ 100000) :
    Calls Tryz.prog 70 #[ptrTo g, .int .i32 times] w fun e w' => e = .returned (.tuple #[]) ∧ ∃ ts', ts'.map Tv.x = turnsL (totL (ts.map Tv.x)) times (startL (ts.map Tv.x)) ∧
      VSet w' lo g A c bs ts' (pval bs (propOf ((turnsL (totL (ts.map Tv.x)) (times - 1) (startL (ts.map Tv.x))).map addP))) (totL (ts.map Tv.x)) same ∧ OnlyV g bs w w' := by
  have hne : ts.map Tv.x ≠ [] := fun e => by
    have h1 := congrArg List.length e
    have := h.len
    simp at h1; rw [h1] at this; simp at this; omega
  have hlen : ts.length = bs.length := h.len
  have hT := totL_one (ts.map Tv.x) (fun x hx => by obtain ⟨t, ht, rfl⟩ := List.mem_map.1 hx; exact hw t ht)
  rw [List.length_map, hlen] at hT
  have hpwt := pow_tot (ts.map Tv.x) (fun x hx => by obtain ⟨t, ht, rfl⟩ := List.mem_map.1 hx; have := hw t ht; omega)
  obtain ⟨hs1, hs2⟩ := setOf_span (ts.map Tv.x) hne (fun x hx => by obtain ⟨t, ht, rfl⟩ := List.mem_map.1 hx; exact hp t ht)
  have HT := Lib.hid (tot_any lo g A c bs ts prop tot same w h (by omega))
  have hstart : startL (ts.map Tv.x) = shiftL (scaleL (2 * totL (ts.map Tv.x)) (ts.map Tv.x)) := rfl
  have hscore := scaleL_core (2 * totL (ts.map Tv.x)) (ts.map Tv.x)
  have hspri := scaleL_pri (2 * totL (ts.map Tv.x)) (ts.map Tv.x) 1152921504606846976 (fun s hs => by obtain ⟨t, ht, rfl⟩ := List.mem_map.1 hs; have := hp t ht; omega)
  have hgood : ∀ k, (turnsL (totL (ts.map Tv.x)) k (startL (ts.map Tv.x))).map core = (ts.map Tv.x).map core := fun k => (turnsL_core _ _ k).trans (startL_core _)
  have hgin := turnsL_in (totL (ts.map Tv.x)) _ (startL_in (ts.map Tv.x))
  unfold ptrTo at *
  have h0 : w.cell? ⟨g, 0, none⟩ = some (.slice A bs.length c) := h.head.cell 0
  have H := Lib.hid h; have HP := Lib.hid hp; have HW := Lib.hid hw; have HD := Lib.hid hd; have HG := Lib.hid hgood; have HGI := Lib.hid hgin; have HSP := Lib.hid hspri
  have HS1 := Lib.hid hs1; have HS2 := Lib.hid hs2; have HST := Lib.hid hstart; have HSC := Lib.hid hscore
  have hpows := Lib.hid (show ∀ s ∈ ts.map Tv.x, in64 s.pow from fun s hs => by have h2 := hpwt s hs; obtain ⟨t, ht, rfl⟩ := List.mem_map.1 hs; have := hw t ht; unfold in64; omega)
  have HTQ := Lib.hid ht
  clear h hp hw hd hgood hgin hspri hs1 hs2 hstart hscore ht hlen hne hpwt
  have htq := HTQ.out
  clear HTQ
  rw [htq] at H HT
  generalize htt : totL (ts.map Tv.x) = T at *
  have htq2 := htq.symm
  clear htt
  subst htq2
  go_enter Tryz.func70, Tryz.ntmps70
  go_wp2_with (first | (go_at_call 110; refine (nil_any g bs.length c A w h0 hn0).mono ?_; rintro e w' ⟨rfl, rfl⟩) | (go_at_call 87; refine HT.out.mono ?_; rintro e w1 ⟨rfl, rfl⟩))
  have hC2 := rescale_any lo g A c bs ts prop T same (2 * T) w H.out (by omega) hn0 HS1.out (by have := HS2.out; omega) (by omega) (fun t ht => by have := HP.out t ht; omega)
  have HC2 := Lib.hid hC2; clear hC2
  refine HC2.out.mono ?_
  rintro e w2 ⟨rfl, ts2, hm2, hv2, ho2⟩
  have hC3 := shift_any lo g A c bs ts2 prop T same w2 hv2 hn hn0 (fun t ht => by have := HSP.out t.x (by rw [← hm2]; exact List.mem_map_of_mem ht); omega)
  rw [hm2, ← HST.out] at hC3
  have HC3 := Lib.hid hC3; have HO2 := Lib.hid (ho2); clear hC3 hm2 hv2 ho2
  go_wp2_with (go_at_call 108; refine HC3.out.mono ?_; rintro e w3 ⟨rfl, ts3, hm3, hv3, ho3⟩; have HM3 := Lib.hid hm3; have HV3 := Lib.hid hv3; have HO3 := Lib.hid (HO2.out.trans ho3); clear hm3 hv3 ho3)
  go_loopw [5, 6] (fun p i wr => ∃ k : Nat, k ≤ times ∧ i = .int .i32 k ∧ Hid (∃ ts', ts'.map Tv.x = turnsL T k (startL (ts.map Tv.x)) ∧ VSet wr lo g A c bs ts' prop T same) ∧ Hid (OnlyV g bs w wr) ∧ Hid (k ≠ 0 → p = pval bs (propOf ((turnsL T (k - 1) (startL (ts.map Tv.x))).map addP)))) (fun _ i _ => times - (intOf i).toNat)
  case atStart => exact ⟨0, Nat.zero_le _, rfl, ⟨ts3, HM3.out, HV3.out⟩, HO3.out, fun h => absurd rfl h⟩
  case round =>
    obtain ⟨k, hk, rfl, HV, HO, HPR⟩ := hrel
    by_cases hlt : k < times
    · obtain ⟨ts4, hm4, hv4⟩ := HV.out
      have hcore : (ts4.map Tv.x).map core = (ts.map Tv.x).map core := by rw [hm4]; exact HG.out k
      have hd4 : distinct (ts4.map Tv.x) := distinct_of_core hcore HD.out
      have hp4 := pow_of_core (p := in64) hcore hpows.out
      have hC4 := inc_any lo g A c bs ts4 prop T same wr hv4 hn hn0 hd4 (by omega) (by omega) (fun t ht => ⟨HGI.out k t.x (by rw [← hm4]; exact List.mem_map_of_mem ht), hp4 t.x (List.mem_map_of_mem ht)⟩)
      rw [hm4] at hC4
      have HC4 := Lib.hid hC4; clear hC4 hm4 hv4 hcore hd4 hp4
      have hwk : wrap32 ((k : Int) + 1) = (k : Int) + 1 := by unfold wrap32; omega
      go_wp2_with (go_at_call 111; refine HC4.out.mono ?_; rintro e w5 ⟨rfl, ts5, hm5, hv5, ho5⟩; have HM5 := Lib.hid hm5; have HV5 := Lib.hid hv5; have HO5 := Lib.hid (HO.out.trans ho5); clear hm5 hv5 ho5)
      go_roundw
      case rel => exact ⟨k + 1, by omega, by go_num, ⟨ts5, HM5.out, HV5.out⟩, HO5.out, fun _ => rfl⟩
      case measure => simp [intOf]; omega
    · obtain rfl : k = times := by omega
      obtain ⟨ts4, hm4, hv4⟩ := HV.out
      have hpr := HPR.out (by omega)
      have h30 := hv4.head.cell 1
      have hf := hv4.head.free 1
      have hset := hv4.setProp u5
      have HM4 := Lib.hid hm4; have HSET := Lib.hid hset; have HPR2 := Lib.hid hpr
      clear hm4 hset hpr hv4
      have hpv : ∃ u, u5 = Value.pointer u := by rw [HPR2.out]; cases propOf ((turnsL T (k - 1) (startL (ts.map Tv.x))).map addP) <;> exact ⟨_, rfl⟩
      obtain ⟨u, rfl⟩ := hpv
      go_wp2
      go_end0
      refine ⟨rfl, ts4, HM4.out, ?_, HO.out.trans (OnlyV.putHead _ _ _)⟩
      rw [← HPR2.out]
      exact HSET.out
end Go.Proofs.YtikikddkhikfkaaGreatDoor

set_option linter.all false
namespace Go.Proofs.YtikikddkhikfkaaGreatDoor
open Go.RowKit

def adrs (l : List Sd) : List (List UInt8) := l.map fun s => s.adr.toList
def sameS (x y : Sd) : Bool := x.adr.toList == y.adr.toList
def notIn (U : List Sd) (e : Sd) : Bool := !(U.any (sameS e))
def px (p : Nat × Tv) : Sd := p.2.x
abbrev Srt (l : List Sd) : Prop := l.Pairwise fun x y => adrB x y = true
def mergeS : List Sd → List Sd → List Sd
  | [], us => us
  | e :: es, [] => e :: es
  | e :: es, u :: us => if adrB e u then e :: mergeS es (u :: us) else if sameS e u then u :: mergeS es us else u :: mergeS (e :: es) us
termination_by es us => es.length + us.length
def remS : List Sd → List Sd → List Sd
  | [], _ => []
  | e :: es, [] => e :: es
  | e :: es, d :: ds => if sameS e d then remS es ds else e :: remS es (d :: ds)
def fitS : List Sd → List Sd → Bool
  | _, [] => true
  | [], _ :: _ => false
  | e :: es, d :: ds => if sameS e d then fitS es ds else fitS es (d :: ds)
theorem mergeS_nil (E : List Sd) : mergeS E [] = E := by cases E <;> simp [mergeS]
theorem mergeV_px (E U : List (Nat × Tv)) : (mergeV E U).map px = mergeS (E.map px) (U.map px) := by
  induction E, U using mergeV.induct with
  | case1 us => simp [mergeV, mergeS]
  | case2 e es => simp [mergeV, mergeS]
  | case3 e es u us h ih =>
    rw [mergeV, if_pos h]
    simp only [List.map_cons] at *
    rw [mergeS, if_pos (show adrB (px e) (px u) = true from h), ih]
  | case4 e es u us h h2 ih =>
    rw [mergeV, if_neg h, if_pos h2]
    simp only [List.map_cons] at *
    rw [mergeS, if_neg (show ¬ adrB (px e) (px u) = true from h), if_pos (show sameS (px e) (px u) = true from h2), ih]
  | case5 e es u us h h2 ih =>
    rw [mergeV, if_neg h, if_neg h2]
    simp only [List.map_cons] at *
    rw [mergeS, if_neg (show ¬ adrB (px e) (px u) = true from h), if_neg (show ¬ sameS (px e) (px u) = true from h2), ih]
theorem remV_px : ∀ (E D : List (Nat × Tv)), (remV E D).map px = remS (E.map px) (D.map px) ∧ fitV E D = fitS (E.map px) (D.map px)
  | [], [] => by simp [remV, remS, fitV, fitS]
  | [], d :: ds => by simp [remV, remS, fitV, fitS]
  | e :: es, [] => by simp [remV, remS, fitV, fitS]
  | e :: es, d :: ds => by
    have h1 := remV_px es ds
    have h2 := remV_px es (d :: ds)
    simp only [List.map_cons] at *
    rw [remV, remS, fitV, fitS]
    by_cases h : sameA e d = true
    · rw [if_pos h, if_pos h, if_pos (show sameS (px e) (px d) = true from h), if_pos (show sameS (px e) (px d) = true from h)]; exact h1
    · rw [if_neg h, if_neg h, if_neg (show ¬ sameS (px e) (px d) = true from h), if_neg (show ¬ sameS (px e) (px d) = true from h), List.map_cons, h2.1]; exact ⟨rfl, h2.2⟩

theorem same_iff (x y : Sd) : sameS x y = true ↔ x.adr.toList = y.adr.toList := by unfold sameS; simp
theorem notIn_iff (U : List Sd) (e : Sd) : notIn U e = true ↔ ∀ u ∈ U, e.adr.toList ≠ u.adr.toList := by
  unfold notIn sameS; simp
theorem adrB_ne {x y : Sd} (h : adrB x y = true) : x.adr.toList ≠ y.adr.toList := fun e => by
  unfold adrB at h; rw [e, less_irrefl] at h; cases h
theorem adrB_trans {x y z : Sd} (h : adrB x y = true) (h' : adrB y z = true) : adrB x z = true := less_trans h h'
theorem adrB_tri {x y : Sd} (h : ¬ adrB x y = true) (h' : ¬ sameS x y = true) : adrB y x = true := by
  cases hb : adrB y x with
  | true => rfl
  | false => exact absurd ((same_iff x y).2 (less_total (by unfold adrB at h; simpa using h) hb)) h'
theorem adrB_same {x y z : Sd} (h : sameS x y = true) (h' : adrB y z = true) : adrB x z = true := by
  rw [same_iff] at h; unfold adrB at *; rw [h]; exact h'
theorem Srt.ne {l : List Sd} (h : Srt l) : (adrs l).Nodup := by
  unfold adrs List.Nodup
  rw [List.pairwise_map]
  exact h.imp fun hx => adrB_ne hx
theorem srt_of {l : List Sd} (h : l.Pairwise fun x y => adrB y x = false) (hn : (adrs l).Nodup) : Srt l := by
  unfold adrs List.Nodup at hn
  rw [List.pairwise_map] at hn
  refine (List.Pairwise.and h hn).imp fun {x y} hx => ?_
  exact adrB_tri (x := y) (y := x) (by rw [hx.1]; simp) (fun e => hx.2 ((same_iff _ _).1 e).symm)
theorem filter_nil (E : List Sd) : E.filter (notIn []) = E := List.filter_eq_self.2 (fun a _ => rfl)
theorem mergeS_perm (E U : List Sd) (hE : Srt E) (hU : Srt U) : (mergeS E U).Perm (U ++ E.filter (notIn U)) := by
  induction E, U using mergeS.induct with
  | case1 us => simp [mergeS]
  | case2 e es =>
    rw [mergeS, List.nil_append, filter_nil]
  | case3 e es u us h ih =>
    rw [mergeS, if_pos h]
    have hk : notIn (u :: us) e = true := (notIn_iff _ _).2 fun v hv => by
      rcases List.mem_cons.1 hv with rfl | hv
      · exact adrB_ne h
      · exact adrB_ne (adrB_trans h ((List.pairwise_cons.1 hU).1 v hv))
    rw [List.filter_cons, if_pos hk]
    exact ((ih (List.pairwise_cons.1 hE).2 hU).cons e).trans List.perm_middle.symm
  | case4 e es u us h h2 ih =>
    rw [mergeS, if_neg h, if_pos h2]
    have hk : ¬ notIn (u :: us) e = true := fun hk => (notIn_iff _ _).1 hk u (List.mem_cons_self ..) ((same_iff _ _).1 h2)
    rw [List.filter_cons, if_neg hk]
    have hc : es.filter (notIn (u :: us)) = es.filter (notIn us) := List.filter_congr fun x hx => by
      have hxe := (List.pairwise_cons.1 hE).1 x hx
      have : sameS x u = false := by
        cases hs : sameS x u with
        | false => rfl
        | true => exact absurd (((same_iff _ _).1 h2).trans ((same_iff _ _).1 hs).symm) (adrB_ne hxe)
      unfold notIn; simp [this]
    rw [hc]
    exact (ih (List.pairwise_cons.1 hE).2 (List.pairwise_cons.1 hU).2).cons u
  | case5 e es u us h h2 ih =>
    rw [mergeS, if_neg h, if_neg h2]
    have hue := adrB_tri h h2
    have hc : (e :: es).filter (notIn (u :: us)) = (e :: es).filter (notIn us) := List.filter_congr fun x hx => by
      have hxu : adrB u x = true := by
        rcases List.mem_cons.1 hx with rfl | hx
        · exact hue
        · exact adrB_trans hue ((List.pairwise_cons.1 hE).1 x hx)
      have : sameS x u = false := by
        cases hs : sameS x u with
        | false => rfl
        | true => exact absurd ((same_iff _ _).1 hs).symm (adrB_ne hxu)
      unfold notIn; simp [this]
    rw [hc]
    exact (ih hE (List.pairwise_cons.1 hU).2).cons u
theorem mergeS_mem {E U : List Sd} {x : Sd} (hx : x ∈ mergeS E U) : x ∈ E ∨ x ∈ U := by
  induction E, U using mergeS.induct with
  | case1 us => right; simpa [mergeS] using hx
  | case2 e es => left; simpa [mergeS] using hx
  | case3 e es u us h ih =>
    rw [mergeS, if_pos h] at hx
    rcases List.mem_cons.1 hx with rfl | hx
    · exact .inl (List.mem_cons_self ..)
    · exact (ih hx).imp (List.mem_cons_of_mem _) id
  | case4 e es u us h h2 ih =>
    rw [mergeS, if_neg h, if_pos h2] at hx
    rcases List.mem_cons.1 hx with rfl | hx
    · exact .inr (List.mem_cons_self ..)
    · exact (ih hx).imp (List.mem_cons_of_mem _) (List.mem_cons_of_mem _)
  | case5 e es u us h h2 ih =>
    rw [mergeS, if_neg h, if_neg h2] at hx
    rcases List.mem_cons.1 hx with rfl | hx
    · exact .inr (List.mem_cons_self ..)
    · exact (ih hx).imp id (List.mem_cons_of_mem _)
theorem mergeS_srt (E U : List Sd) (hE : Srt E) (hU : Srt U) : Srt (mergeS E U) := by
  induction E, U using mergeS.induct with
  | case1 us => simpa [mergeS] using hU
  | case2 e es => simpa [mergeS] using hE
  | case3 e es u us h ih =>
    rw [mergeS, if_pos h]
    refine List.pairwise_cons.2 ⟨fun x hx => ?_, ih (List.pairwise_cons.1 hE).2 hU⟩
    rcases mergeS_mem hx with hx | hx
    · exact (List.pairwise_cons.1 hE).1 x hx
    · rcases List.mem_cons.1 hx with rfl | hx
      · exact h
      · exact adrB_trans h ((List.pairwise_cons.1 hU).1 x hx)
  | case4 e es u us h h2 ih =>
    rw [mergeS, if_neg h, if_pos h2]
    refine List.pairwise_cons.2 ⟨fun x hx => ?_, ih (List.pairwise_cons.1 hE).2 (List.pairwise_cons.1 hU).2⟩
    rcases mergeS_mem hx with hx | hx
    · exact adrB_same ((same_iff _ _).2 ((same_iff _ _).1 h2).symm) ((List.pairwise_cons.1 hE).1 x hx)
    · exact (List.pairwise_cons.1 hU).1 x hx
  | case5 e es u us h h2 ih =>
    rw [mergeS, if_neg h, if_neg h2]
    have hue := adrB_tri h h2
    refine List.pairwise_cons.2 ⟨fun x hx => ?_, ih hE (List.pairwise_cons.1 hU).2⟩
    rcases mergeS_mem hx with hx | hx
    · rcases List.mem_cons.1 hx with rfl | hx
      · exact hue
      · exact adrB_trans hue ((List.pairwise_cons.1 hE).1 x hx)
    · exact (List.pairwise_cons.1 hU).1 x hx
theorem remS_eq : ∀ (E D : List Sd), Srt E → Srt D → (∀ d ∈ D, ∃ e ∈ E, e.adr.toList = d.adr.toList) → fitS E D = true ∧ remS E D = E.filter (notIn D)
  | [], [] => fun _ _ _ => by simp [fitS, remS]
  | [], d :: ds => fun _ _ h => by
    obtain ⟨e, he, _⟩ := h d (List.mem_cons_self ..)
    simp at he
  | e :: es, [] => fun _ _ _ => by
    rw [fitS, remS, filter_nil]; exact ⟨rfl, rfl⟩
  | e :: es, d :: ds => fun hE hD h => by
    have hE' := List.pairwise_cons.1 hE
    have hD' := List.pairwise_cons.1 hD
    rw [fitS, remS]
    by_cases hs : sameS e d = true
    · rw [if_pos hs, if_pos hs]
      have hs' := (same_iff _ _).1 hs
      obtain ⟨h1, h2⟩ := remS_eq es ds hE'.2 hD'.2 (fun d' hd' => by
        obtain ⟨e', he', ha⟩ := h d' (List.mem_cons_of_mem _ hd')
        rcases List.mem_cons.1 he' with rfl | he'
        · exact absurd (hs'.symm.trans ha) (adrB_ne (hD'.1 d' hd'))
        · exact ⟨e', he', ha⟩)
      refine ⟨h1, ?_⟩
      rw [h2, List.filter_cons, if_neg (fun hk => (notIn_iff _ _).1 hk d (List.mem_cons_self ..) hs')]
      refine List.filter_congr fun x hx => ?_
      have : sameS x d = false := by
        cases hxd : sameS x d with
        | false => rfl
        | true => exact absurd (hs'.trans ((same_iff _ _).1 hxd).symm) (adrB_ne (hE'.1 x hx))
      unfold notIn; simp [this]
    · rw [if_neg hs, if_neg hs]
      have hs' : e.adr.toList ≠ d.adr.toList := fun e1 => hs ((same_iff _ _).2 e1)
      obtain ⟨f, hf, hfd⟩ : ∃ f ∈ es, f.adr.toList = d.adr.toList := by
        obtain ⟨f, hf, ha⟩ := h d (List.mem_cons_self ..)
        rcases List.mem_cons.1 hf with rfl | hf
        · exact absurd ha hs'
        · exact ⟨f, hf, ha⟩
      have hne : ∀ d' ∈ d :: ds, e.adr.toList ≠ d'.adr.toList := fun d' hd' => by
        rcases List.mem_cons.1 hd' with rfl | hd'
        · exact hs'
        · intro e1
          have h1 := hE'.1 f hf
          have h2 := hD'.1 d' hd'
          unfold adrB at h1 h2
          rw [e1, hfd, less_asymm h2] at h1
          cases h1
      obtain ⟨h1, h2⟩ := remS_eq es (d :: ds) hE'.2 hD (fun d' hd' => by
        obtain ⟨e', he', ha⟩ := h d' hd'
        rcases List.mem_cons.1 he' with rfl | he'
        · exact absurd ha (hne d' hd')
        · exact ⟨e', he', ha⟩)
      refine ⟨h1, ?_⟩
      rw [h2, List.filter_cons, if_pos ((notIn_iff _ _).2 hne)]

/-! the seat of an address -/
theorem seat_some {V : List Sd} {a : ByteArray} {v : Sd} (h : seatAt V a = some v) : v ∈ V ∧ v.adr.toList = a.toList := by
  rcases atL_cases a V with ⟨h1, _⟩ | ⟨i, x, h1, h2, h3⟩
  · rw [seatAt_none h1] at h; cases h
  · rw [seatAt_some h1 h2] at h; cases h
    exact ⟨List.mem_of_getElem? h2, by simpa [isA] using h3⟩
theorem seat_none {V : List Sd} {a : ByteArray} : seatAt V a = none ↔ ∀ v ∈ V, v.adr.toList ≠ a.toList := by
  rcases atL_cases a V with ⟨h1, h0⟩ | ⟨i, x, h1, h2, h3⟩
  · rw [seatAt_none h1]
    exact ⟨fun _ v hv e => (by have := h0 v hv; unfold isA at this; rw [e] at this; simp at this), fun _ => rfl⟩
  · rw [seatAt_some h1 h2]
    exact ⟨fun h => (by cases h), fun h => absurd (by simpa [isA] using h3) (h x (List.mem_of_getElem? h2))⟩
theorem nodup_same {V : List Sd} (hV : (adrs V).Nodup) {x y : Sd} (hx : x ∈ V) (hy : y ∈ V) (h : x.adr.toList = y.adr.toList) : x = y := by
  obtain ⟨i, hi⟩ := List.getElem?_of_mem hx
  obtain ⟨j, hj⟩ := List.getElem?_of_mem hy
  have h1 : (adrs V)[i]? = some x.adr.toList := by unfold adrs; rw [List.getElem?_map, hi]; rfl
  have h2 : (adrs V)[j]? = some y.adr.toList := by unfold adrs; rw [List.getElem?_map, hj]; rfl
  have hij : i = j := by
    have hi' := (List.getElem?_eq_some_iff.1 h1).1
    exact (List.getElem?_inj hi' hV).1 (h1.trans (by rw [h2, h]))
  subst hij
  rw [hi] at hj; cases hj; rfl
theorem seat_mem {V : List Sd} (hV : (adrs V).Nodup) {a : ByteArray} {v : Sd} (hv : v ∈ V) (h : v.adr.toList = a.toList) : seatAt V a = some v := by
  cases hs : seatAt V a with
  | none => exact absurd h (seat_none.1 hs v hv)
  | some x => obtain ⟨h1, h2⟩ := seat_some hs; rw [nodup_same hV h1 hv (h2.trans h.symm)]
theorem atL_neg {V : List Sd} {a : ByteArray} : atL a V < 0 ↔ seatAt V a = none := by
  rcases atL_cases a V with ⟨h1, _⟩ | ⟨i, x, h1, h2, _⟩
  · rw [seatAt_none h1]; simp; omega
  · rw [seatAt_some h1 h2]; simp; omega
theorem isNew_iff (V : List Sd) (u : Sd) : isNewB V u = true ↔ seatAt V u.adr = none := by
  rw [← atL_neg]; unfold isNewB; simp
theorem adrs_filter (V : List Sd) (p : Sd → Bool) (h : (adrs V).Nodup) : (adrs (V.filter p)).Nodup := ((List.filter_sublist (l := V) (p := p)).map _).nodup h
theorem seat_filter {V D : List Sd} (hV : (adrs V).Nodup) {a : ByteArray} (h : ∀ d ∈ D, d.adr.toList ≠ a.toList) : seatAt (V.filter (notIn D)) a = seatAt V a := by
  cases hs : seatAt V a with
  | none => exact seat_none.2 fun v hv => seat_none.1 hs v (List.mem_filter.1 hv).1
  | some x =>
    obtain ⟨h1, h2⟩ := seat_some hs
    exact seat_mem (adrs_filter V _ hV) (List.mem_filter.2 ⟨h1, (notIn_iff _ _).2 fun d hd e => h d hd (e.symm.trans h2)⟩) h2
/-! powers -/
theorem totL_nil : totL [] = 0 := rfl
theorem totL_cons (x : Sd) (r : List Sd) : totL (x :: r) = x.pow + totL r := sumI_cons _ _
theorem totL_append (l r : List Sd) : totL (l ++ r) = totL l + totL r := by
  induction l with
  | nil => simp [totL_nil]
  | cons x l ih => rw [List.cons_append, totL_cons, totL_cons, ih]; omega
theorem totL_perm {l r : List Sd} (h : l.Perm r) : totL l = totL r := by
  induction h with
  | nil => rfl
  | cons x _ ih => rw [totL_cons, totL_cons, ih]
  | swap x y l => rw [totL_cons, totL_cons, totL_cons, totL_cons]; omega
  | trans _ _ a b => exact a.trans b
theorem powAt_some {V : List Sd} {u v : Sd} (h : seatAt V u.adr = some v) : powAt V u = v.pow := by unfold powAt; rw [h]
theorem powAt_none {V : List Sd} {u : Sd} (h : seatAt V u.adr = none) : powAt V u = 0 := by unfold powAt; rw [h]
theorem tot_drop1 (d : Sd) : ∀ (W : List Sd), (adrs W).Nodup → totL (W.filter fun e => !sameS e d) = totL W - powAt W d
  | [], _ => by rw [powAt_none (seat_none.2 (fun v hv => by simp at hv))]; rfl
  | w :: r, hn => by
    have hn' := List.nodup_cons.1 (show (w.adr.toList :: adrs r).Nodup from hn)
    by_cases hs : sameS w d = true
    · have hs' := (same_iff _ _).1 hs
      rw [List.filter_cons, if_neg (by rw [hs]; simp), List.filter_eq_self.2 (fun x hx => by
        cases h1 : sameS x d with
        | false => rfl
        | true => exact absurd (List.mem_map.2 ⟨x, hx, ((same_iff _ _).1 h1).trans hs'.symm⟩) hn'.1), powAt_some (seat_mem hn (List.mem_cons_self ..) hs'), totL_cons]
      omega
    · have hs' : w.adr.toList ≠ d.adr.toList := fun e => hs ((same_iff _ _).2 e)
      rw [List.filter_cons, if_pos (by simpa using hs), totL_cons, totL_cons, tot_drop1 d r hn'.2]
      have : powAt (w :: r) d = powAt r d := by
        cases hq : seatAt r d.adr with
        | none => rw [powAt_none hq, powAt_none (seat_none.2 fun v hv => by
            rcases List.mem_cons.1 hv with rfl | hv
            · exact hs'
            · exact seat_none.1 hq v hv)]
        | some x =>
          obtain ⟨h1, h2⟩ := seat_some hq
          rw [powAt_some hq, powAt_some (seat_mem hn (List.mem_cons_of_mem _ h1) h2)]
      omega
theorem tot_drop (V : List Sd) (hV : (adrs V).Nodup) : ∀ (D : List Sd), (adrs D).Nodup → totL (V.filter (notIn D)) = totL V - remSum V D
  | [], _ => by rw [filter_nil]; simp [remSum]
  | d :: D, hD => by
    have hD' := List.nodup_cons.1 (show (d.adr.toList :: adrs D).Nodup from hD)
    have e : V.filter (notIn (d :: D)) = (V.filter (notIn D)).filter fun e => !sameS e d := by
      rw [List.filter_filter]
      refine List.filter_congr fun x _ => ?_
      unfold notIn; simp
    rw [e, tot_drop1 d _ (adrs_filter V _ hV), tot_drop V hV D hD'.2]
    have : powAt (V.filter (notIn D)) d = powAt V d := by
      unfold powAt; rw [seat_filter hV (fun d' hd' e => hD'.1 (List.mem_map.2 ⟨d', hd', e⟩))]
    simp only [remSum]
    omega
theorem sumD_eq (V : List Sd) : ∀ (U : List Sd), sumD V U = totL U - remSum V U
  | [] => by simp [sumD, remSum, totL_nil]
  | u :: U => by
    have : deltaL V u = u.pow - powAt V u := by unfold deltaL powAt; cases seatAt V u.adr <;> simp
    simp only [sumD, remSum, totL_cons, sumD_eq V U, this]; omega
theorem remSum_perm (V : List Sd) {l r : List Sd} (h : l.Perm r) : remSum V l = remSum V r := by
  induction h with
  | nil => rfl
  | cons x _ ih => simp only [remSum, ih]
  | swap x y l => simp only [remSum]; omega
  | trans _ _ a b => exact a.trans b
end Go.Proofs.YtikikddkhikfkaaGreatDoor

set_option linter.unusedSimpArgs false
namespace Go.Proofs.YtikikddkhikfkaaGreatDoor
open Go.RowKit

theorem insR_perm (acc : List Sd) (x : Sd) : (insR acc x).Perm (x :: acc) := by
  unfold insR
  exact List.perm_middle.trans (List.Perm.cons _ (by rw [List.take_append_drop]))
theorem rankedL_perm (l : List Sd) : (rankedL l).Perm l := by
  have : ∀ (l acc : List Sd), (l.foldl insR acc).Perm (acc ++ l) := by
    intro l
    induction l with
    | nil => intro acc; simp
    | cons x r ih =>
      intro acc
      rw [List.foldl_cons]
      exact (ih _).trans (((insR_perm acc x).append_right r).trans (List.perm_middle.symm))
  simpa [rankedL] using this l []
/-- a seat as the laws' set has it -/
structure Sd.good (s : Sd) : Prop where
  adr : s.adr.toList ≠ []
  key : s.key.toList ≠ []
  adrM : s.adr.size ≤ maxLen
  keyM : s.key.size ≤ maxLen
  pow : 1 ≤ s.pow ∧ s.pow ≤ 1125899906842624
  pri : -1152921504606846976 < s.pri ∧ s.pri < 1152921504606846976
def apartS (x y : Sd) : Prop := sameB x y = false
theorem norm_good {s : Sd} (h : s.fits) (ha : s.adr.toList ≠ []) (hk : s.key.toList ≠ []) : (norm s).good := by
  obtain ⟨h1, h2, h3, h4⟩ := h
  have hm : 0 ≤ mag s.pow := by unfold mag; split <;> omega
  refine ⟨ha, hk, h1, h2, ?_, ?_⟩
  · have a := Int.emod_nonneg (mag s.pow) (b := 1125899906842624) (by omega)
    have b := Int.emod_lt_of_pos (mag s.pow) (b := 1125899906842624) (by omega)
    simp only [norm]; omega
  · have a := Int.tmod_lt_of_pos s.pri (b := 1152921504606846976) (by omega)
    have b := Int.lt_tmod_of_pos s.pri (b := 1152921504606846976) (by omega)
    simp only [norm]; omega
theorem setAcc_good {acc : List Sd} {s : Sd} (h : ∀ x ∈ acc, x.good) (hs : s.fits) : ∀ x ∈ setAcc acc s, x.good := by
  intro x hx
  unfold setAcc at hx
  split at hx
  · exact h x hx
  · rename_i hsk
    rcases List.mem_append.1 hx with hx | hx
    · exact h x hx
    · obtain rfl := List.mem_singleton.1 hx
      simp only [skipB, Bool.or_eq_true, not_or, Bool.not_eq_true, List.isEmpty_iff, List.isEmpty_eq_false_iff] at hsk
      exact norm_good hs hsk.1.1 hsk.1.2
theorem setAcc_apart {acc : List Sd} {s : Sd} (h : acc.Pairwise apartS) : (setAcc acc s).Pairwise apartS := by
  unfold setAcc
  split
  · exact h
  · rename_i hsk
    rw [List.pairwise_append]
    refine ⟨h, by simp, fun a ha b hb => ?_⟩
    obtain rfl := List.mem_singleton.1 hb
    simp only [skipB, Bool.or_eq_true, not_or, Bool.not_eq_true] at hsk
    have := hsk.2
    rw [List.any_eq_false] at this
    have := this a ha
    unfold apartS
    simpa [norm, sameB] using this
theorem setL_good (l : List Sd) (h : ∀ s ∈ l, s.fits) : ∀ x ∈ setL l, x.good := by
  have : ∀ (l acc : List Sd), (∀ s ∈ l, s.fits) → (∀ x ∈ acc, x.good) → ∀ x ∈ l.foldl setAcc acc, x.good := by
    intro l
    induction l with
    | nil => intro acc _ h; exact h
    | cons s r ih =>
      intro acc h1 h2
      exact ih _ (fun x hx => h1 x (List.mem_cons_of_mem _ hx)) (setAcc_good h2 (h1 s (List.mem_cons_self ..)))
  exact this _ _ (fun s hs => h s (List.mem_of_mem_take hs)) (by simp)
theorem setL_apart (l : List Sd) : (setL l).Pairwise apartS := by
  have : ∀ (l acc : List Sd), acc.Pairwise apartS → (l.foldl setAcc acc).Pairwise apartS := by
    intro l
    induction l with
    | nil => intro acc h; exact h
    | cons s r ih => intro acc h; exact ih _ (setAcc_apart h)
  exact this _ _ List.Pairwise.nil
theorem setL_length (l : List Sd) : (setL l).length ≤ 60 := by
  have := foldl_setAcc_length (l.take 60) []
  simp only [List.length_nil, List.length_take] at this
  unfold setL; omega
/-- the set that a law is over -/
def theSet (l : List Sd) : List Sd := rankedL (setL l)
theorem theSet_length (l : List Sd) : (theSet l).length ≤ 60 := by unfold theSet; rw [rankedL_length]; exact setL_length l
theorem theSet_good (l : List Sd) (h : ∀ s ∈ l, s.fits) : ∀ x ∈ theSet l, x.good := fun x hx => setL_good l h x ((rankedL_perm _).mem_iff.1 hx)
theorem theSet_apart (l : List Sd) : (theSet l).Pairwise apartS :=
  (rankedL_perm (setL l)).symm.pairwise (setL_apart l) (fun {a b} h => by
    unfold apartS sameB at *
    rw [Bool.or_eq_false_iff] at *
    exact ⟨by rw [BEq.comm]; exact h.1, by rw [BEq.comm]; exact h.2⟩)
theorem fitsB_length {l : List Sd} (h : fitsB l = true) : l.length ≤ 2147483647 := by
  simp only [fitsB, Bool.and_eq_true, Bool.not_eq_true', decide_eq_false_iff_not] at h
  omega
end Go.Proofs.YtikikddkhikfkaaGreatDoor
