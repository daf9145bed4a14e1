/-
  processChanges: the walk. By the session.
-/
import Derived.Test.YtikikddkhikfkaaGreatDoorCh5
import Derived.Test.YtikikddkhikfkaaGreatDoorCh10
import Derived.Test.YtikikddkhikfkaaGreatDoorCh11
import Derived.OwnWalk
set_option linter.all false
namespace Go.Proofs.YtikikddkhikfkaaGreatDoor
open Go.RowKit

theorem conv_nil (W : World) : (convert 40 9 (.slice none 0 0)).run Tryz.prog W = .ok (.string ⟨#[]⟩) W := by
  rw [run_convert_bytes_string W 40 9 5 none 0 0 Tryz.underlying40 Tryz.underlying5 Tryz.underlying9]
  rfl
set_option maxHeartbeats 800000 in
theorem bequal_nil (a : ByteArray) (A : Option Addr) (c : Nat) (w : World) (ha : Byt w A a) (hz : 0 < a.size) :
    Calls Tryz.prog 95 #[.slice A a.size c, .slice none 0 0] w fun e w' => e = .returned (.bool false) ∧ w = w' := by
  have kc := ha.back (P := Tryz.prog) 40 9 c Tryz.underlying40 Tryz.underlying5 Tryz.underlying9
  have kd := conv_nil
  have hne : a.toList.isEmpty = false := by
    rw [toList_data]
    cases hd : a.data.toList with
    | nil =>
      exfalso
      have h3 : a.data.size = 0 := by rw [← Array.length_toList, hd]; rfl
      have h2 : a.size = a.data.size := rfl
      omega
    | cons x r => rfl
  clear ha
  go_enter Tryz.func95, Tryz.ntmps95
  go_wp2
  go_ret
  exact ⟨rfl, rfl⟩
/-- can the changes be read as changes? -/
def goodCh (us : List Sd) : Prop := (∀ u ∈ us, 0 ≤ u.pow ∧ u.pow ≤ 1152921504606846975) ∧ (us.map (fun u => u.adr.toList)).Nodup
theorem goodCh_perm {l l' : List Sd} (h : l.Perm l') : goodCh l ↔ goodCh l' :=
  ⟨fun g => ⟨fun u hu => g.1 u (h.mem_iff.2 hu), (h.map _).nodup_iff.1 g.2⟩, fun g => ⟨fun u hu => g.1 u (h.mem_iff.1 hu), (h.map _).nodup_iff.2 g.2⟩⟩
theorem sorted_fresh {S : List Sd} (hs : S.Pairwise fun x y => adrB y x = false) {k : Nat} {y z : Sd} (hy : S[k]? = some y) (hz : S[k + 1]? = some z) (hne : y.adr.toList ≠ z.adr.toList) : ∀ x ∈ S.take (k + 1), x.adr.toList ≠ z.adr.toList := by
  intro x hx he
  have hyk := List.getElem?_eq_some_iff.1 hy
  have hzk := List.getElem?_eq_some_iff.1 hz
  rw [List.pairwise_iff_getElem] at hs
  have h1 := hs k (k + 1) hyk.1 hzk.1 (by omega)
  rw [hyk.2, hzk.2] at h1
  have h2 : adrB y z = true := by
    cases h : adrB y z with
    | true => rfl
    | false => exact absurd (less_total h h1) hne
  obtain ⟨j, hj⟩ := List.getElem?_of_mem hx
  have hj1 := List.getElem?_eq_some_iff.1 hj
  have hjl : j < k + 1 := by have := hj1.1; rw [List.length_take] at this; omega
  rw [List.getElem?_take, if_pos hjl] at hj
  have hj2 := List.getElem?_eq_some_iff.1 hj
  by_cases e : j = k
  · subst e
    have h5 : y = x := hyk.2.symm.trans hj2.2
    subst h5
    exact hne he
  · have h3 := hs j k hj2.1 hyk.1 (by omega)
    rw [hj2.2, hyk.2] at h3
    unfold adrB at h2 h3
    rw [he] at h3
    rw [h3] at h2; cases h2
/-- a part of a slice of validators in a row of its own -/
theorem VRow.part {w : World} {lo : Nat} {A A' : Option Addr} {c c' : Nat} {bs : List Nat} {ts : List Tv} (h : VRow w lo A c bs ts) (p : Nat × Tv → Bool) (hr : w.ownsRow lo 126 1 (.slice A' (((bs.zip ts).filter p).map Prod.fst).length c') (((bs.zip ts).filter p).map Prod.fst).length ((((bs.zip ts).filter p).map Prod.fst).map ptrTo)) :
    VRow w lo A' c' (((bs.zip ts).filter p).map Prod.fst) (((bs.zip ts).filter p).map Prod.snd) := by
  refine ⟨hr, by simp, ?_, fun j b t hb ht => ?_⟩
  · have h1 : (((bs.zip ts).filter p).map Prod.fst).Sublist ((bs.zip ts).map Prod.fst) := (List.filter_sublist).map _
    rw [List.map_fst_zip (by have := h.len; omega)] at h1
    exact h1.nodup h.nodup
  · rw [List.getElem?_map] at hb ht
    cases hq : ((bs.zip ts).filter p)[j]? with
    | none => rw [hq] at hb; cases hb
    | some q =>
      rw [hq] at hb ht
      cases hb; cases ht
      have hm := (List.mem_filter.1 (List.mem_of_getElem? hq)).1
      obtain ⟨i, hi⟩ := List.getElem?_of_mem hm
      rw [List.getElem?_zip_eq_some] at hi
      exact h.vals i _ _ hi.1 hi.2
def posB (p : Nat × Tv) : Bool := !(p.2.x.pow == 0)
def zerB (p : Nat × Tv) : Bool := p.2.x.pow == 0
/-- the pointers of those of a list of places -/
def ptrs (L : List (Nat × Tv)) : List Value := L.map fun p => .pointer (some ⟨p.1, 0, none⟩)
theorem ptrs_snoc (L : List (Nat × Tv)) (p : Nat × Tv) : ptrs (L ++ [p]) = ptrs L ++ [.pointer (some ⟨p.1, 0, none⟩)] := by simp [ptrs]
theorem ptrs_eq (L : List (Nat × Tv)) : ptrs L = (L.map Prod.fst).map ptrTo := by simp [ptrs, ptrTo]
theorem goodCh_take {S : List Sd} (h : goodCh S) (k : Nat) : goodCh (S.take k) :=
  ⟨fun u hu => h.1 u (List.mem_of_mem_take hu), by rw [List.map_take]; exact (List.take_sublist _ _).nodup h.2⟩
theorem goodCh_snoc {l : List Sd} {x : Sd} (h : goodCh l) (hp : 0 ≤ x.pow ∧ x.pow ≤ 1152921504606846975) (hf : ∀ y ∈ l, y.adr.toList ≠ x.adr.toList) : goodCh (l ++ [x]) := by
  refine ⟨fun u hu => ?_, ?_⟩
  · rcases List.mem_append.1 hu with hu | hu
    · exact h.1 u hu
    · rw [List.mem_singleton.1 hu]; exact hp
  · rw [List.map_append, List.nodup_append]
    refine ⟨h.2, by simp, fun a ha b hb => ?_⟩
    obtain ⟨y, hy, rfl⟩ := List.mem_map.1 ha
    simp at hb
    rw [hb]; exact hf y hy
/-- a row of validators behind a growth of another row -/
theorem VRow.grownO {w w' : World} {lo b n : Nat} {A : Option Addr} {c : Nat} {bs : List Nat} {ts : List Tv} {v : Value} {xs : List Value} (h : VRow w lo A c bs ts) (hv : w.ownsRow b 126 1 v n xs) (hg : w.grownBy w' v.ownBlock) (hne : (Value.slice A bs.length c).ownBlock ≠ v.ownBlock) : VRow w' lo A c bs ts := by
  have kb : KeepB w w' := by
    obtain ⟨A', c', rfl⟩ := own_shape hv
    exact KeepB.of_grown hg (fun g' cs m e hh => by
      rcases hv.2 with ⟨e2, _⟩ | ⟨g2, cap, cur, hv2, _, hh', _⟩
      · rw [e2] at e; cases e
      · rw [hv2] at e
        have e3 : g2 = g' := by injection e
        subst e3
        rw [hh] at hh'
        injection hh' with hh'; injection hh' with _ ht
        exact absurd ht (by decide))
  refine ⟨h.row.kept hg (.inr hne), h.len, h.nodup, fun j b t hb ht => ?_⟩
  obtain ⟨h1, h2, h3⟩ := h.vals j b t hb ht
  exact ⟨h1, h2.grown hg (own_ne_blk hv h2 (by decide)), h3.keep kb⟩
/-- what was said before -/
def prevOf (ts : List Tv) (k : Nat) (v : Value) : Prop := (k = 0 ∧ v = .slice none 0 0) ∨ ∃ j t, k = j + 1 ∧ ts[j]? = some t ∧ v = .slice t.A t.x.adr.size t.c
set_option maxRecDepth 100000 in
set_option maxHeartbeats 6400000 in
theorem proc_any (lo : Nat) (A : Option Addr) (c : Nat) (bs : List Nat) (ts : List Tv) (w : World) (h : VRow w lo A c bs ts) (hn : bs.length ≤ 1000) (hA : A ≠ none) (hne : ∀ t ∈ ts, 0 < t.x.adr.size) :
    Calls Tryz.prog 98 #[.slice A bs.length c] w fun e w' => Below w.heap.size w w' ∧
      ((goodCh (ts.map Tv.x) ∧ ∃ Au cu bu tu Ar cr br tr, ∃ S : List Sd, e = .returned (.tuple #[.slice Au bu.length cu, .slice Ar br.length cr, .nilIface]) ∧ Au ≠ none ∧ VRow w' w.heap.size Au cu bu tu ∧ VRow w' w.heap.size Ar cr br tr ∧ S.Perm (ts.map Tv.x) ∧ (S.Pairwise fun x y => adrB y x = false) ∧
        tu.map Tv.x = S.filter (fun u => !(u.pow == 0)) ∧ tr.map Tv.x = S.filter (fun u => u.pow == 0)) ∨
       (¬ goodCh (ts.map Tv.x) ∧ ∃ v, e = .returned (.tuple #[.slice none 0 0, .slice none 0 0, .iface 211 v]))) := by
  obtain ⟨i0, hi0, hz0, hz1, hz2⟩ := info_parts infoPVal
  have HI := Lib.hid hi0; have HZ0 := Lib.hid hz0; have HZ1 := Lib.hid hz1; have HZ2 := Lib.hid hz2
  clear hi0 hz0 hz1 hz2
  have KC := Lib.hid (vcopies_any lo A c bs ts w h (by omega) hA)
  have KE := Lib.hid (fun s W => errnew_any s W)
  have HNE := Lib.hid hne; have HV := Lib.hid h
  clear h hne hA
  go_enter Tryz.func98, Tryz.ntmps98
  go_wp2_with fail
  refine KC.out.mono ?_
  rintro e w1 ⟨A1, c1, bs1, hl1, rfl, hv1, hb1⟩
  have KS := Lib.hid (sortA_any w1 hv1 (by omega))
  have HV1 := Lib.hid hv1; have HB1 := Lib.hid hb1; have HL1 := Lib.hid hl1
  clear hv1 hb1 hl1
  go_wp2_with fail
  refine KS.out.mono ?_
  rintro e w2 ⟨rfl, bs2, ts2, hp2, hl2, hl2', hs2, hv2, hg2⟩
  have hb2 : Below w.heap.size w w2 := HB1.out.grown hg2 HB1.out.size (fun k hk => (own_base HV1.out.row k hk))
  have hn2 : bs2.length ≤ 1000 := by have := HL1.out; omega
  have e2 : bs1.length = bs2.length := hl2.symm
  rw [e2]
  have HV2 := Lib.hid hv2; have HB2 := Lib.hid hb2; have HP2 := Lib.hid hp2; have HS2 := Lib.hid hs2; have HL2 := Lib.hid hl2'; have HE2 := Lib.hid e2
  clear hp2 hl2 hl2' hs2 hv2 hg2 hb2 e2
  go_wp2_with (first
    | (refine wpList_make_own _ rfl (.const (.int .i64 0)) (.tmp 15) 125 rfl w.heap.size 126 i0 _ 1 Tryz.underlying125 HI.out HZ0.out HZ1.out .i64 .i64 (bs2.length : Int) bs2.length rfl rfl rfl ?b2 ?b3 HB2.out.size ?_; (case b2 => rw [HZ2.out]; omega); (case b3 => simp only [maxLen]; omega); intro w3 ho3 hg3; have HO3 := Lib.hid ho3; have HG3 := Lib.hid hg3; clear ho3 hg3)
    | (refine wpList_make_own _ rfl (.const (.int .i64 0)) (.tmp 18) 125 rfl w.heap.size 126 i0 _ 1 Tryz.underlying125 HI.out HZ0.out HZ1.out .i64 .i64 (bs2.length : Int) bs2.length rfl rfl rfl ?b2 ?b3 ?b4 ?_; (case b2 => rw [HZ2.out]; omega); (case b3 => simp only [maxLen]; omega); (case b4 => exact Nat.le_trans HB2.out.size (by obtain ⟨_, _, _, h4, _⟩ := HG3.out; exact h4)); intro w4 ho4 hg4; have HO4 := Lib.hid ho4; have HG4 := Lib.hid hg4; clear ho4 hg4))
  have z3 : w2.heap.size < w3.heap.size := (World.ownsRow.lt HO3.out w2.heap.size rfl).2
  have z4 : w3.heap.size < w4.heap.size := (World.ownsRow.lt HO4.out w3.heap.size rfl).2
  have hg34 : Below w2.heap.size w2 w4 := ((Below.refl w2.heap.size w2).grown HG3.out (Nat.le_refl _) (by simp)).grown HG4.out (by omega) (by simp)
  have hv4 : VRow w4 w.heap.size A1 c1 bs2 ts2 := HV2.out.keep (KeepV.of_below _ hg34 (Nat.le_refl _))
  have ho3' : w4.ownsRow w.heap.size 126 1 (.slice (some ⟨w2.heap.size, 0, none⟩) 0 bs2.length) 0 [] := HO3.out.kept HG4.out (.inr (by simp [Value.ownBlock]))
  have hb4 : Below w.heap.size w w4 := HB2.out.trans (hg34.mono HB2.out.size)
  have hA1 : ∀ k, (Value.slice A1 bs2.length c1).ownBlock = some k → k < w2.heap.size := fun k hk => (HV2.out.row.lt k hk).2
  have HV4 := Lib.hid hv4; have HO3' := Lib.hid ho3'; have HB4 := Lib.hid hb4; have HA1 := Lib.hid hA1
  obtain ⟨L, hL⟩ : ∃ L, L = bs2.zip ts2 := ⟨_, rfl⟩
  have HLL := Lib.hid hL
  clear hg34 hv4 ho3' hb4 hA1 hL
  go_loopw [2, 3, 4, 6, 22] (fun v2 v3 v4 v6 i wr => ∃ (k : Nat) (Au : Option Addr) (cu : Nat) (Ar : Option Addr) (cr : Nat), k ≤ bs2.length ∧ i = .int .i64 k ∧ v4 = .nilIface ∧ v2 = .slice Au ((L.take k).filter posB).length cu ∧ v3 = .slice Ar ((L.take k).filter zerB).length cr ∧
      Hid (prevOf ts2 k v6) ∧ Hid (goodCh ((ts2.map Tv.x).take k)) ∧ Hid (wr.ownsRow w.heap.size 126 1 (.slice Au ((L.take k).filter posB).length cu) ((L.take k).filter posB).length (ptrs ((L.take k).filter posB))) ∧
      Hid (wr.ownsRow w.heap.size 126 1 (.slice Ar ((L.take k).filter zerB).length cr) ((L.take k).filter zerB).length (ptrs ((L.take k).filter zerB))) ∧ Hid (Au ≠ none) ∧
      Hid ((∃ x, Au = some ⟨x, 0, none⟩ ∧ w2.heap.size ≤ x ∧ Ar.map (·.block) ≠ some x) ∧ (∃ x, Ar = some ⟨x, 0, none⟩ ∧ w2.heap.size ≤ x)) ∧ Hid (VRow wr w.heap.size A1 c1 bs2 ts2) ∧ Hid (Below w.heap.size w wr)) (fun _ _ _ _ i _ => bs2.length - (intOf i).toNat)
  case atStart => exact ⟨0, _, _, _, _, Nat.zero_le _, rfl, rfl, rfl, rfl, .inl ⟨rfl, rfl⟩, ⟨by simp, by simp⟩, HO4.out, HO3'.out, (fun e => by cases e), ⟨⟨_, rfl, by omega, by simp; omega⟩, ⟨_, rfl, Nat.le_refl _⟩⟩, HV4.out, HB4.out⟩
  case round =>
    obtain ⟨k, Au, cu, Ar, cr, hk, rfl, rfl, rfl, rfl, HPV, HGD, HOU, HOR, HAN, HDJ, HVR, HBB⟩ := hrel
    have hbz := HBB.out.size
    have hlu : ((L.take k).filter posB).length ≤ 1000 := Nat.le_trans (List.length_filter_le _ _) (by rw [List.length_take]; omega)
    have hlr : ((L.take k).filter zerB).length ≤ 1000 := Nat.le_trans (List.length_filter_le _ _) (by rw [List.length_take]; omega)
    by_cases hlt : k < bs2.length
    · obtain ⟨b, t, hb, ht⟩ := HVR.out.at_ hlt
      obtain ⟨r, rfl, hrl, hp⟩ := HVR.out.ptr hb
      obtain ⟨hbv, hok⟩ := HVR.out.validator hb ht
      obtain ⟨c0, c1', c2, c3⟩ := t.val_cells hbv
      have hxk : (ts2.map Tv.x)[k]? = some t.x := by rw [List.getElem?_map, ht]; rfl
      have hk' := List.getElem?_eq_some_iff.1 hxk
      have hst : (ts2.map Tv.x).take (k + 1) = (ts2.map Tv.x).take k ++ [t.x] := by rw [List.take_succ_eq_append_getElem hk'.1, hk'.2]
      have hLk : L[k]? = some (b, t) := by rw [HLL.out, List.getElem?_zip_eq_some]; exact ⟨hb, ht⟩
      have hLk' := List.getElem?_eq_some_iff.1 hLk
      have hLst : L.take (k + 1) = L.take k ++ [(b, t)] := by rw [List.take_succ_eq_append_getElem hLk'.1, hLk'.2]
      have hpx : (ts2.map Tv.x).Perm (ts.map Tv.x) := by
        have h1 := HP2.out.map Prod.snd
        rw [List.map_snd_zip (by have := HL2.out; have := HE2.out; omega), List.map_snd_zip (by have := HV1.out.len; omega)] at h1
        exact h1.map _
      have hbad : ¬ goodCh ((ts2.map Tv.x).take (k + 1)) → ¬ goodCh (ts.map Tv.x) := fun hbd hgd => hbd (goodCh_take ((goodCh_perm hpx).2 hgd) _)
      have hsz : 0 < t.x.adr.size := by
        have hm : t.x ∈ ts.map Tv.x := hpx.mem_iff.1 (List.mem_of_getElem? hxk)
        obtain ⟨t0, h0, e0⟩ := List.mem_map.1 hm
        rw [← e0]; exact HNE.out t0 h0
      obtain ⟨d, hE, hd1, hd2⟩ : ∃ d : Bool, (Calls Tryz.prog 95 #[.slice t.A t.x.adr.size t.c, u6] wr fun e w' => e = .returned (.bool d) ∧ wr = w') ∧ (d = true → ¬ goodCh ((ts2.map Tv.x).take (k + 1))) ∧ (d = false → ∀ y ∈ (ts2.map Tv.x).take k, y.adr.toList ≠ t.x.adr.toList) := by
        rcases HPV.out with ⟨rfl, rfl⟩ | ⟨j, t0, rfl, ht0, rfl⟩
        · exact ⟨false, bequal_nil _ _ _ _ hok.1 hsz, (fun h => by cases h), (fun _ y hy => by simp at hy)⟩
        · have hj : j < bs2.length := by omega
          have hok0 := (HVR.out.validator (List.getElem?_eq_getElem hj) ht0).2
          have hy : (ts2.map Tv.x)[j]? = some t0.x := by rw [List.getElem?_map, ht0]; rfl
          refine ⟨t.x.adr.toList == t0.x.adr.toList, bequal_any _ _ _ _ _ _ _ hok.1 hok0.1, fun he hgd => ?_, fun he => ?_⟩
          · have he2 := eq_of_beq he
            have hnd := hgd.2
            rw [hst, List.map_append, List.nodup_append] at hnd
            refine hnd.2.2 t0.x.adr.toList (List.mem_map.2 ⟨t0.x, List.mem_of_getElem? (i := j) (by rw [List.getElem?_take, if_pos (by omega)]; exact hy), rfl⟩) t.x.adr.toList (by simp) he2.symm
          · exact sorted_fresh HS2.out hy hxk (fun e => by rw [e] at he; simp at he)
      have HE := Lib.hid hE; have HD1 := Lib.hid hd1; have HD2 := Lib.hid hd2; have HBAD := Lib.hid hbad; have HST := Lib.hid hst; have HLST := Lib.hid hLst; have HTK := Lib.hid ht; have HB := Lib.hid hb; have HBV := Lib.hid hbv
      clear hE hd1 hd2 hbad hst hLst hLk hLk' hxk hk' hpx hsz hok ht hb c1' c3 hbv
      cases d with
      | true =>
        go_wp2_with fail
        refine HE.out.mono ?_
        rintro e w5 ⟨rfl, rfl⟩
        go_wp2_with fail
        refine (KE.out _ _).mono ?_
        rintro e w6 ⟨rfl, hb6⟩
        have HB6 := Lib.hid hb6; clear hb6
        go_wp2
        go_returns
        exact ⟨HBB.out.trans (HB6.out.mono hbz), .inr ⟨HBAD.out (HD1.out (by simp)), _, rfl⟩⟩
      | false =>
        by_cases hN : t.x.pow < 0
        · go_wp2_with fail
          refine HE.out.mono ?_
          rintro e w5 ⟨rfl, rfl⟩
          go_wp2_with fail
          refine (KE.out _ _).mono ?_
          rintro e w6 ⟨rfl, hb6⟩
          have HB6 := Lib.hid hb6; clear hb6
          go_wp2
          go_returns
          exact ⟨HBB.out.trans (HB6.out.mono hbz), .inr ⟨HBAD.out (fun hg => by have := hg.1 t.x (by rw [HST.out]; simp); omega), _, rfl⟩⟩
        · by_cases hG : 1152921504606846975 < t.x.pow
          · go_wp2_with fail
            refine HE.out.mono ?_
            rintro e w5 ⟨rfl, rfl⟩
            go_wp2_with fail
            refine (KE.out _ _).mono ?_
            rintro e w6 ⟨rfl, hb6⟩
            have HB6 := Lib.hid hb6; clear hb6
            go_wp2
            go_returns
            exact ⟨HBB.out.trans (HB6.out.mono hbz), .inr ⟨HBAD.out (fun hg => by have := hg.1 t.x (by rw [HST.out]; simp); omega), _, rfl⟩⟩
          · have hgd : goodCh ((ts2.map Tv.x).take (k + 1)) := by rw [HST.out]; exact goodCh_snoc HGD.out (by omega) (HD2.out (by simp))
            have HGN := Lib.hid hgd; clear hgd
            obtain ⟨⟨xu, rfl, hxu2, hxu3⟩, ⟨xr, rfl, hxr2⟩⟩ := HDJ.out
            have hxx : xr ≠ xu := fun e => hxu3 (by rw [e]; rfl)
            clear hxu3
            have hr2 : r < w2.heap.size := HA1.out r rfl
            by_cases hZ : t.x.pow = 0
            · have hz1 : (t.x.pow == 0) = true := by simpa using hZ
              have hfz : (L.take (k + 1)).filter zerB = (L.take k).filter zerB ++ [(b, t)] := by rw [HLST.out, List.filter_append]; simp [zerB, hz1]
              have hfp : (L.take (k + 1)).filter posB = (L.take k).filter posB := by rw [HLST.out, List.filter_append]; simp [posB, hz1]
              have HFZ := Lib.hid hfz; have HFP := Lib.hid hfp; clear hfz hfp
              go_wp2_with fail
              refine HE.out.mono ?_
              rintro e w5 ⟨rfl, rfl⟩
              go_wp2_with (at_builtin; refine wpList_app _ rfl (.tmp 60) (.tmp 62) 125 rfl w.heap.size 126 i0 _ 1 8 Tryz.underlying125 HI.out HZ0.out HZ1.out HZ2.out rfl (by decide) (.slice (some ⟨xr, 0, none⟩) ((L.take k).filter zerB).length cr) ((L.take k).filter zerB).length (ptrs ((L.take k).filter zerB)) rfl (World.ownsRow.alloc HOR.out _) (wr.heap.size + 1) (some ⟨wr.heap.size, 0, none⟩) 1 1 [.pointer (some ⟨b, 0, none⟩)] rfl (Rd.new wr #[.pointer (some ⟨b, 0, none⟩)] 126 1 1 wr.heap.size rfl rfl) (by intro u hu; simp at hu; subst hu; rfl) ?q1 ?q2 ?hb ?_; (case q1 => simp only [maxLen]; omega); (case q2 => omega); (case hb => simp; omega); intro A9 c9 w9 ho9 hg9 hk9; have c9' : w9.cell? ⟨b, 0, none⟩ = some (.slice t.A t.x.adr.size t.c) := ((HBV.out.alloc (.cells #[.pointer (some ⟨b, 0, none⟩)] 126)).grown hg9 (own_ne_blk (World.ownsRow.alloc HOR.out (.cells #[.pointer (some ⟨b, 0, none⟩)] 126)) (HBV.out.alloc (.cells #[.pointer (some ⟨b, 0, none⟩)] 126)) (by decide))).cell 0; have HO9 := Lib.hid ho9; have HG9 := Lib.hid hg9; have HK9 := Lib.hid hk9; clear ho9 hg9 hk9)
              go_roundw
              case measure => simp [intOf]; omega
              case rel =>
                have hvr9 := (HVR.out.keep (KeepV.of_below w.heap.size ((Below.refl wr.heap.size wr).alloc (Nat.le_refl _) (.cells #[.pointer (some ⟨b, 0, none⟩)] 126)) (Nat.le_refl _))).grownO (World.ownsRow.alloc HOR.out _) HG9.out (by simp [Value.ownBlock]; omega)
                have hbb9 : Below w.heap.size w w9 := (HBB.out.alloc hbz _).grown HG9.out (by simp; omega) (fun q hq => own_base HOR.out q hq)
                have hot9 := (World.ownsRow.alloc HOU.out (.cells #[.pointer (some ⟨b, 0, none⟩)] 126)).kept HG9.out (.inr (by simp [Value.ownBlock]; omega))
                obtain ⟨x9, hx9, hx92, hx93⟩ : ∃ x9, A9 = some ⟨x9, 0, none⟩ ∧ w2.heap.size ≤ x9 ∧ x9 ≠ xu := by
                  obtain ⟨x9, cap9, hv9, _, _⟩ := World.ownsRow.form HO9.out (by omega)
                  have e9 : A9 = some ⟨x9, 0, none⟩ := by injection hv9
                  subst e9
                  refine ⟨x9, rfl, ?_⟩
                  have hyy : xu < wr.heap.size := (World.ownsRow.lt HOU.out xu rfl).2
                  have hz24 : w2.heap.size ≤ wr.heap.size := by have := (World.ownsRow.lt HOU.out xu rfl).2; omega
                  rcases HK9.out with e | e
                  · simp [Value.ownBlock] at e; omega
                  · simp [Value.ownBlock] at e; omega
                subst hx9
                refine ⟨k + 1, some ⟨xu, 0, none⟩, cu, some ⟨x9, 0, none⟩, c9, by omega, by go_num, rfl, by rw [HFP.out], by rw [HFZ.out]; simp, .inr ⟨k, t, rfl, HTK.out, rfl⟩, HGN.out, ?_, ?_, HAN.out, ⟨⟨xu, rfl, hxu2, by simp; omega⟩, ⟨x9, rfl, hx92⟩⟩, hvr9, hbb9⟩
                · rw [HFP.out]; exact hot9
                · rw [HFZ.out, ptrs_snoc, List.length_append]; exact HO9.out
            · have hz1 : (t.x.pow == 0) = false := by simpa using hZ
              have hfz : (L.take (k + 1)).filter zerB = (L.take k).filter zerB := by rw [HLST.out, List.filter_append]; simp [zerB, hz1]
              have hfp : (L.take (k + 1)).filter posB = (L.take k).filter posB ++ [(b, t)] := by rw [HLST.out, List.filter_append]; simp [posB, hz1]
              have HFZ := Lib.hid hfz; have HFP := Lib.hid hfp; clear hfz hfp
              go_wp2_with fail
              refine HE.out.mono ?_
              rintro e w5 ⟨rfl, rfl⟩
              go_wp2_with (at_builtin; refine wpList_app _ rfl (.tmp 34) (.tmp 36) 125 rfl w.heap.size 126 i0 _ 1 8 Tryz.underlying125 HI.out HZ0.out HZ1.out HZ2.out rfl (by decide) (.slice (some ⟨xu, 0, none⟩) ((L.take k).filter posB).length cu) ((L.take k).filter posB).length (ptrs ((L.take k).filter posB)) rfl (World.ownsRow.alloc HOU.out _) (wr.heap.size + 1) (some ⟨wr.heap.size, 0, none⟩) 1 1 [.pointer (some ⟨b, 0, none⟩)] rfl (Rd.new wr #[.pointer (some ⟨b, 0, none⟩)] 126 1 1 wr.heap.size rfl rfl) (by intro u hu; simp at hu; subst hu; rfl) ?q1 ?q2 ?hb ?_; (case q1 => simp only [maxLen]; omega); (case q2 => omega); (case hb => simp; omega); intro A9 c9 w9 ho9 hg9 hk9; have c9' : w9.cell? ⟨b, 0, none⟩ = some (.slice t.A t.x.adr.size t.c) := ((HBV.out.alloc (.cells #[.pointer (some ⟨b, 0, none⟩)] 126)).grown hg9 (own_ne_blk (World.ownsRow.alloc HOU.out (.cells #[.pointer (some ⟨b, 0, none⟩)] 126)) (HBV.out.alloc (.cells #[.pointer (some ⟨b, 0, none⟩)] 126)) (by decide))).cell 0; have HO9 := Lib.hid ho9; have HG9 := Lib.hid hg9; have HK9 := Lib.hid hk9; clear ho9 hg9 hk9)
              go_roundw
              case measure => simp [intOf]; omega
              case rel =>
                have hvr9 := (HVR.out.keep (KeepV.of_below w.heap.size ((Below.refl wr.heap.size wr).alloc (Nat.le_refl _) (.cells #[.pointer (some ⟨b, 0, none⟩)] 126)) (Nat.le_refl _))).grownO (World.ownsRow.alloc HOU.out _) HG9.out (by simp [Value.ownBlock]; omega)
                have hbb9 : Below w.heap.size w w9 := (HBB.out.alloc hbz _).grown HG9.out (by simp; omega) (fun q hq => own_base HOU.out q hq)
                have hot9 := (World.ownsRow.alloc HOR.out (.cells #[.pointer (some ⟨b, 0, none⟩)] 126)).kept HG9.out (.inr (by simp [Value.ownBlock]; omega))
                obtain ⟨x9, hx9, hx92, hx93⟩ : ∃ x9, A9 = some ⟨x9, 0, none⟩ ∧ w2.heap.size ≤ x9 ∧ x9 ≠ xr := by
                  obtain ⟨x9, cap9, hv9, _, _⟩ := World.ownsRow.form HO9.out (by omega)
                  have e9 : A9 = some ⟨x9, 0, none⟩ := by injection hv9
                  subst e9
                  refine ⟨x9, rfl, ?_⟩
                  have hyy : xr < wr.heap.size := (World.ownsRow.lt HOR.out xr rfl).2
                  have hz24 : w2.heap.size ≤ wr.heap.size := by have := (World.ownsRow.lt HOR.out xr rfl).2; omega
                  rcases HK9.out with e | e
                  · simp [Value.ownBlock] at e; omega
                  · simp [Value.ownBlock] at e; omega
                subst hx9
                refine ⟨k + 1, some ⟨x9, 0, none⟩, c9, some ⟨xr, 0, none⟩, cr, by omega, by go_num, rfl, by rw [HFP.out]; simp, by rw [HFZ.out], .inr ⟨k, t, rfl, HTK.out, rfl⟩, HGN.out, ?_, ?_, (fun e => by cases e), ⟨⟨x9, rfl, hx92, by simp; omega⟩, ⟨xr, rfl, hxr2⟩⟩, hvr9, hbb9⟩
                · rw [HFP.out, ptrs_snoc, List.length_append]; exact HO9.out
                · rw [HFZ.out]; exact hot9
    · obtain rfl : k = bs2.length := by omega
      have hll : L.length = bs2.length := by rw [HLL.out, List.length_zip, HVR.out.len, Nat.min_self]
      have hLt : L.take bs2.length = L := List.take_of_length_le (by omega)
      have hSt : (ts2.map Tv.x).take bs2.length = ts2.map Tv.x := List.take_of_length_le (by rw [List.length_map, HVR.out.len]; exact Nat.le_refl _)
      have hgd := HGD.out
      rw [hSt] at hgd
      have hou := HOU.out; have hor := HOR.out
      rw [hLt] at hou hor
      rw [hLt]
      have hpx : (ts2.map Tv.x).Perm (ts.map Tv.x) := by
        have h1 := HP2.out.map Prod.snd
        rw [List.map_snd_zip (by have := HL2.out; have := HE2.out; omega), List.map_snd_zip (by have := HV1.out.len; omega)] at h1
        exact h1.map _
      have hLs : L.map (fun p => p.2.x) = ts2.map Tv.x := by
        have : L.map Prod.snd = ts2 := by rw [HLL.out, List.map_snd_zip (by have := HVR.out.len; omega)]
        rw [← this, List.map_map]; rfl
      have hres : ∀ p : Sd → Bool, ((L.filter fun q => p q.2.x).map Prod.snd).map Tv.x = (ts2.map Tv.x).filter p := fun p => by
        rw [← hLs, List.filter_map, List.map_map]; rfl
      have HOU2 := Lib.hid hou; have HOR2 := Lib.hid hor; have HGD2 := Lib.hid hgd; have HPX := Lib.hid hpx; have HRES := Lib.hid hres
      clear hou hor hgd hpx hLs hres hll hLt hSt HOU HOR HGD
      go_wp2
      go_returns
      have r1 := HOU2.out; have r2 := HOR2.out
      rw [ptrs_eq] at r1 r2
      have el := HLL.out
      subst el
      refine ⟨HBB.out, .inl ⟨(goodCh_perm HPX.out).1 HGD2.out, Au, cu, _, _, Ar, cr, _, _, ts2.map Tv.x, ?_, HAN.out, HVR.out.part posB (by rw [List.length_map]; exact r1), HVR.out.part zerB (by rw [List.length_map]; exact r2), HPX.out, HS2.out, HRES.out (fun u => !(u.pow == 0)), HRES.out (fun u => u.pow == 0)⟩⟩
      rw [List.length_map, List.length_map]
      rfl
end Go.Proofs.YtikikddkhikfkaaGreatDoor
