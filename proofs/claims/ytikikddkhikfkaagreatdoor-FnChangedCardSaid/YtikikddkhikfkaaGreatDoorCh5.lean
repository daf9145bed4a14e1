/-
  processChanges: the walk. By the session. computeNewPriorities: the walk. By the session. Words for the rows: a law of plain data that answers true and leaves what it read, and the opening of a slice of seats. By the session. applyUpdates: the walk (under way). By the session.
-/
import Derived.Test.YtikikddkhikfkaaGreatDoorCh2
import Derived.Test.YtikikddkhikfkaaGreatDoorCh4
import Derived.OwnWalk
import Derived.Test.YtikikddkhikfkaaGreatDoorRows
import Derived.Test.YtikikddkhikfkaaGreatDoorCh1
import Derived.ProofKit
import Derived.Deep.Slices
import Derived.Deep.Fields
set_option linter.all false
namespace Go.Proofs.YtikikddkhikfkaaGreatDoor
open Go.RowKit

theorem conv_nil (W : World) : (convert 40 9 (.slice none 0 0)).run Tryz.prog W = .ok (.string ⟨#[]⟩) W := by
  rw [run_convert_bytes_string W 40 9 5 none 0 0 Tryz.underlying40 Tryz.underlying5 Tryz.underlying9]
  rfl
set_option maxHeartbeats 800000 in
theorem bequal_nil (a : ByteArray) (A : Option Addr) (c : Nat) (w : World) (ha : Byt w A a) (hz : 0 < a.size) :
    Calls Tryz.prog 95 #[.slice A a.size c, .slice none 0 0] w fun e w' => e = .returned (.bool false) ∧ w = w' := by
  have kc := ha.back (P := Tryz.prog) 40 9 c Tryz.underlying40 Tryz.underlying5 Tryz.underlying9
  have kd := conv_nil
  have hne : a.toList.isEmpty = false := by
    rw [toList_data]
    cases hd : a.data.toList with
    | nil =>
      exfalso
      have h3 : a.data.size = 0 := by rw [← Array.length_toList, hd]; rfl
      have h2 : a.size = a.data.size := rfl
      omega
    | cons x r => rfl
  clear ha
  go_enter Tryz.func95, Tryz.ntmps95
  go_wp2
  go_ret
  exact ⟨rfl, rfl⟩
/-- can the changes be read as changes? -/
def goodCh (us : List Sd) : Prop := (∀ u ∈ us, 0 ≤ u.pow ∧ u.pow ≤ 1152921504606846975) ∧ (us.map (fun u => u.adr.toList)).Nodup
theorem goodCh_perm {l l' : List Sd} (h : l.Perm l') : goodCh l ↔ goodCh l' :=
  ⟨fun g => ⟨fun u hu => g.1 u (h.mem_iff.2 hu), (h.map _).nodup_iff.1 g.2⟩, fun g => ⟨fun u hu => g.1 u (h.mem_iff.1 hu), (h.map _).nodup_iff.2 g.2⟩⟩
theorem sorted_fresh {S : List Sd} (hs : S.Pairwise fun x y => adrB y x = false) {k : Nat} {y z : Sd} (hy : S[k]? = some y) (hz : S[k + 1]? = some z) (hne : y.adr.toList ≠ z.adr.toList) : ∀ x ∈ S.take (k + 1), x.adr.toList ≠ z.adr.toList := by
  intro x hx he
  have hyk := List.getElem?_eq_some_iff.1 hy
  have hzk := List.getElem?_eq_some_iff.1 hz
  rw [List.pairwise_iff_getElem] at hs
  have h1 := hs k (k + 1) hyk.1 hzk.1 (by omega)
  rw [hyk.2, hzk.2] at h1
  have h2 : adrB y z = true := by
    cases h : adrB y z with
    | true => rfl
    | false => exact absurd (less_total h h1) hne
  obtain ⟨j, hj⟩ := List.getElem?_of_mem hx
  have hj1 := List.getElem?_eq_some_iff.1 hj
  have hjl : j < k + 1 := by have := hj1.1; rw [List.length_take] at this; omega
  rw [List.getElem?_take, if_pos hjl] at hj
  have hj2 := List.getElem?_eq_some_iff.1 hj
  by_cases e : j = k
  · subst e
    have h5 : y = x := hyk.2.symm.trans hj2.2
    subst h5
    exact hne he
  · have h3 := hs j k hj2.1 hyk.1 (by omega)
    rw [hj2.2, hyk.2] at h3
    unfold adrB at h2 h3
    rw [he] at h3
    rw [h3] at h2; cases h2
/-- a part of a slice of validators in a row of its own -/
theorem VRow.part {w : World} {lo : Nat} {A A' : Option Addr} {c c' : Nat} {bs : List Nat} {ts : List Tv} (h : VRow w lo A c bs ts) (p : Nat × Tv → Bool) (hr : w.ownsRow lo 126 1 (.slice A' (((bs.zip ts).filter p).map Prod.fst).length c') (((bs.zip ts).filter p).map Prod.fst).length ((((bs.zip ts).filter p).map Prod.fst).map ptrTo)) :
    VRow w lo A' c' (((bs.zip ts).filter p).map Prod.fst) (((bs.zip ts).filter p).map Prod.snd) := by
  refine ⟨hr, by simp, ?_, fun j b t hb ht => ?_⟩
  · have h1 : (((bs.zip ts).filter p).map Prod.fst).Sublist ((bs.zip ts).map Prod.fst) := (List.filter_sublist).map _
    rw [List.map_fst_zip (by have := h.len; omega)] at h1
    exact h1.nodup h.nodup
  · rw [List.getElem?_map] at hb ht
    cases hq : ((bs.zip ts).filter p)[j]? with
    | none => rw [hq] at hb; cases hb
    | some q =>
      rw [hq] at hb ht
      cases hb; cases ht
      have hm := (List.mem_filter.1 (List.mem_of_getElem? hq)).1
      obtain ⟨i, hi⟩ := List.getElem?_of_mem hm
      rw [List.getElem?_zip_eq_some] at hi
      exact h.vals i _ _ hi.1 hi.2
def posB (p : Nat × Tv) : Bool := !(p.2.x.pow == 0)
def zerB (p : Nat × Tv) : Bool := p.2.x.pow == 0
/-- the pointers of those of a list of places -/
def ptrs (L : List (Nat × Tv)) : List Value := L.map fun p => .pointer (some ⟨p.1, 0, none⟩)
theorem ptrs_snoc (L : List (Nat × Tv)) (p : Nat × Tv) : ptrs (L ++ [p]) = ptrs L ++ [.pointer (some ⟨p.1, 0, none⟩)] := by simp [ptrs]
theorem ptrs_eq (L : List (Nat × Tv)) : ptrs L = (L.map Prod.fst).map ptrTo := by simp [ptrs, ptrTo]
theorem goodCh_take {S : List Sd} (h : goodCh S) (k : Nat) : goodCh (S.take k) :=
  ⟨fun u hu => h.1 u (List.mem_of_mem_take hu), by rw [List.map_take]; exact (List.take_sublist _ _).nodup h.2⟩
theorem goodCh_snoc {l : List Sd} {x : Sd} (h : goodCh l) (hp : 0 ≤ x.pow ∧ x.pow ≤ 1152921504606846975) (hf : ∀ y ∈ l, y.adr.toList ≠ x.adr.toList) : goodCh (l ++ [x]) := by
  refine ⟨fun u hu => ?_, ?_⟩
  · rcases List.mem_append.1 hu with hu | hu
    · exact h.1 u hu
    · rw [List.mem_singleton.1 hu]; exact hp
  · rw [List.map_append, List.nodup_append]
    refine ⟨h.2, by simp, fun a ha b hb => ?_⟩
    obtain ⟨y, hy, rfl⟩ := List.mem_map.1 ha
    simp at hb
    rw [hb]; exact hf y hy
/-- a row of validators behind a growth of another row -/
theorem VRow.grownO {w w' : World} {lo b n : Nat} {A : Option Addr} {c : Nat} {bs : List Nat} {ts : List Tv} {v : Value} {xs : List Value} (h : VRow w lo A c bs ts) (hv : w.ownsRow b 126 1 v n xs) (hg : w.grownBy w' v.ownBlock) (hne : (Value.slice A bs.length c).ownBlock ≠ v.ownBlock) : VRow w' lo A c bs ts := by
  have kb : KeepB w w' := by
    obtain ⟨A', c', rfl⟩ := own_shape hv
    exact KeepB.of_grown hg (fun g' cs m e hh => by
      rcases hv.2 with ⟨e2, _⟩ | ⟨g2, cap, cur, hv2, _, hh', _⟩
      · rw [e2] at e; cases e
      · rw [hv2] at e
        have e3 : g2 = g' := by injection e
        subst e3
        rw [hh] at hh'
        injection hh' with hh'; injection hh' with _ ht
        exact absurd ht (by decide))
  refine ⟨h.row.kept hg (.inr hne), h.len, h.nodup, fun j b t hb ht => ?_⟩
  obtain ⟨h1, h2, h3⟩ := h.vals j b t hb ht
  exact ⟨h1, h2.grown hg (own_ne_blk hv h2 (by decide)), h3.keep kb⟩
/-- what was said before -/
def prevOf (ts : List Tv) (k : Nat) (v : Value) : Prop := (k = 0 ∧ v = .slice none 0 0) ∨ ∃ j t, k = j + 1 ∧ ts[j]? = some t ∧ v = .slice t.A t.x.adr.size t.c
set_option maxRecDepth 100000 in
set_option maxHeartbeats 6400000 in
theorem proc_any (lo : Nat) (A : Option Addr) (c : Nat) (bs : List Nat) (ts : List Tv) (w : World) (h : VRow w lo A c bs ts) (hn : bs.length ≤ 1000) (hA : A ≠ none) (hne : ∀ t ∈ ts, 0 < t.x.adr.size) :
    Calls Tryz.prog 98 #[.slice A bs.length c] w fun e w' => Below w.heap.size w w' ∧
      ((goodCh (ts.map Tv.x) ∧ ∃ Au cu bu tu Ar cr br tr, ∃ S : List Sd, e = .returned (.tuple #[.slice Au bu.length cu, .slice Ar br.length cr, .nilIface]) ∧ Au ≠ none ∧ VRow w' w.heap.size Au cu bu tu ∧ VRow w' w.heap.size Ar cr br tr ∧ S.Perm (ts.map Tv.x) ∧ (S.Pairwise fun x y => adrB y x = false) ∧
        tu.map Tv.x = S.filter (fun u => !(u.pow == 0)) ∧ tr.map Tv.x = S.filter (fun u => u.pow == 0)) ∨
       (¬ goodCh (ts.map Tv.x) ∧ ∃ v, e = .returned (.tuple #[.slice none 0 0, .slice none 0 0, .iface 211 v]))) := by
  obtain ⟨i0, hi0, hz0, hz1, hz2⟩ := info_parts infoPVal
  have HI := Lib.hid hi0; have HZ0 := Lib.hid hz0; have HZ1 := Lib.hid hz1; have HZ2 := Lib.hid hz2
  clear hi0 hz0 hz1 hz2
  have KC := Lib.hid (vcopies_any lo A c bs ts w h (by omega) hA)
  have KE := Lib.hid (fun s W => errnew_any s W)
  have HNE := Lib.hid hne; have HV := Lib.hid h
  clear h hne hA
  go_enter Tryz.func98, Tryz.ntmps98
  go_wp2_with fail
  refine KC.out.mono ?_
  rintro e w1 ⟨A1, c1, bs1, hl1, rfl, hv1, hb1⟩
  have KS := Lib.hid (sortA_any w1 hv1 (by omega))
  have HV1 := Lib.hid hv1; have HB1 := Lib.hid hb1; have HL1 := Lib.hid hl1
  clear hv1 hb1 hl1
  go_wp2_with fail
  refine KS.out.mono ?_
  rintro e w2 ⟨rfl, bs2, ts2, hp2, hl2, hl2', hs2, hv2, hg2⟩
  have hb2 : Below w.heap.size w w2 := HB1.out.grown hg2 HB1.out.size (fun k hk => (own_base HV1.out.row k hk))
  have hn2 : bs2.length ≤ 1000 := by have := HL1.out; omega
  have e2 : bs1.length = bs2.length := hl2.symm
  rw [e2]
  have HV2 := Lib.hid hv2; have HB2 := Lib.hid hb2; have HP2 := Lib.hid hp2; have HS2 := Lib.hid hs2; have HL2 := Lib.hid hl2'; have HE2 := Lib.hid e2
  clear hp2 hl2 hl2' hs2 hv2 hg2 hb2 e2
  go_wp2_with (first
    | (refine wpList_make_own _ rfl (.const (.int .i64 0)) (.tmp 15) 125 rfl w.heap.size 126 i0 _ 1 Tryz.underlying125 HI.out HZ0.out HZ1.out .i64 .i64 (bs2.length : Int) bs2.length rfl rfl rfl ?b2 ?b3 HB2.out.size ?_; (case b2 => rw [HZ2.out]; omega); (case b3 => simp only [maxLen]; omega); intro w3 ho3 hg3; have HO3 := Lib.hid ho3; have HG3 := Lib.hid hg3; clear ho3 hg3)
    | (refine wpList_make_own _ rfl (.const (.int .i64 0)) (.tmp 18) 125 rfl w.heap.size 126 i0 _ 1 Tryz.underlying125 HI.out HZ0.out HZ1.out .i64 .i64 (bs2.length : Int) bs2.length rfl rfl rfl ?b2 ?b3 ?b4 ?_; (case b2 => rw [HZ2.out]; omega); (case b3 => simp only [maxLen]; omega); (case b4 => exact Nat.le_trans HB2.out.size (by obtain ⟨_, _, _, h4, _⟩ := HG3.out; exact h4)); intro w4 ho4 hg4; have HO4 := Lib.hid ho4; have HG4 := Lib.hid hg4; clear ho4 hg4))
  have z3 : w2.heap.size < w3.heap.size := (World.ownsRow.lt HO3.out w2.heap.size rfl).2
  have z4 : w3.heap.size < w4.heap.size := (World.ownsRow.lt HO4.out w3.heap.size rfl).2
  have hg34 : Below w2.heap.size w2 w4 := ((Below.refl w2.heap.size w2).grown HG3.out (Nat.le_refl _) (by simp)).grown HG4.out (by omega) (by simp)
  have hv4 : VRow w4 w.heap.size A1 c1 bs2 ts2 := HV2.out.keep (KeepV.of_below _ hg34 (Nat.le_refl _))
  have ho3' : w4.ownsRow w.heap.size 126 1 (.slice (some ⟨w2.heap.size, 0, none⟩) 0 bs2.length) 0 [] := HO3.out.kept HG4.out (.inr (by simp [Value.ownBlock]))
  have hb4 : Below w.heap.size w w4 := HB2.out.trans (hg34.mono HB2.out.size)
  have hA1 : ∀ k, (Value.slice A1 bs2.length c1).ownBlock = some k → k < w2.heap.size := fun k hk => (HV2.out.row.lt k hk).2
  have HV4 := Lib.hid hv4; have HO3' := Lib.hid ho3'; have HB4 := Lib.hid hb4; have HA1 := Lib.hid hA1
  obtain ⟨L, hL⟩ : ∃ L, L = bs2.zip ts2 := ⟨_, rfl⟩
  have HLL := Lib.hid hL
  clear hg34 hv4 ho3' hb4 hA1 hL
  go_loopw [2, 3, 4, 6, 22] (fun v2 v3 v4 v6 i wr => ∃ (k : Nat) (Au : Option Addr) (cu : Nat) (Ar : Option Addr) (cr : Nat), k ≤ bs2.length ∧ i = .int .i64 k ∧ v4 = .nilIface ∧ v2 = .slice Au ((L.take k).filter posB).length cu ∧ v3 = .slice Ar ((L.take k).filter zerB).length cr ∧
      Hid (prevOf ts2 k v6) ∧ Hid (goodCh ((ts2.map Tv.x).take k)) ∧ Hid (wr.ownsRow w.heap.size 126 1 (.slice Au ((L.take k).filter posB).length cu) ((L.take k).filter posB).length (ptrs ((L.take k).filter posB))) ∧
      Hid (wr.ownsRow w.heap.size 126 1 (.slice Ar ((L.take k).filter zerB).length cr) ((L.take k).filter zerB).length (ptrs ((L.take k).filter zerB))) ∧ Hid (Au ≠ none) ∧
      Hid ((∃ x, Au = some ⟨x, 0, none⟩ ∧ w2.heap.size ≤ x ∧ Ar.map (·.block) ≠ some x) ∧ (∃ x, Ar = some ⟨x, 0, none⟩ ∧ w2.heap.size ≤ x)) ∧ Hid (VRow wr w.heap.size A1 c1 bs2 ts2) ∧ Hid (Below w.heap.size w wr)) (fun _ _ _ _ i _ => bs2.length - (intOf i).toNat)
  case atStart => exact ⟨0, _, _, _, _, Nat.zero_le _, rfl, rfl, rfl, rfl, .inl ⟨rfl, rfl⟩, ⟨by simp, by simp⟩, HO4.out, HO3'.out, (fun e => by cases e), ⟨⟨_, rfl, by omega, by simp; omega⟩, ⟨_, rfl, Nat.le_refl _⟩⟩, HV4.out, HB4.out⟩
  case round =>
    obtain ⟨k, Au, cu, Ar, cr, hk, rfl, rfl, rfl, rfl, HPV, HGD, HOU, HOR, HAN, HDJ, HVR, HBB⟩ := hrel
    have hbz := HBB.out.size
    have hlu : ((L.take k).filter posB).length ≤ 1000 := Nat.le_trans (List.length_filter_le _ _) (by rw [List.length_take]; omega)
    have hlr : ((L.take k).filter zerB).length ≤ 1000 := Nat.le_trans (List.length_filter_le _ _) (by rw [List.length_take]; omega)
    by_cases hlt : k < bs2.length
    · obtain ⟨b, t, hb, ht⟩ := HVR.out.at_ hlt
      obtain ⟨r, rfl, hrl, hp⟩ := HVR.out.ptr hb
      obtain ⟨hbv, hok⟩ := HVR.out.validator hb ht
      obtain ⟨c0, c1', c2, c3⟩ := t.val_cells hbv
      have hxk : (ts2.map Tv.x)[k]? = some t.x := by rw [List.getElem?_map, ht]; rfl
      have hk' := List.getElem?_eq_some_iff.1 hxk
      have hst : (ts2.map Tv.x).take (k + 1) = (ts2.map Tv.x).take k ++ [t.x] := by rw [List.take_succ_eq_append_getElem hk'.1, hk'.2]
      have hLk : L[k]? = some (b, t) := by rw [HLL.out, List.getElem?_zip_eq_some]; exact ⟨hb, ht⟩
      have hLk' := List.getElem?_eq_some_iff.1 hLk
      have hLst : L.take (k + 1) = L.take k ++ [(b, t)] := by rw [List.take_succ_eq_append_getElem hLk'.1, hLk'.2]
      have hpx : (ts2.map Tv.x).Perm (ts.map Tv.x) := by
        have h1 := HP2.out.map Prod.snd
        rw [List.map_snd_zip (by have := HL2.out; have := HE2.out; omega), List.map_snd_zip (by have := HV1.out.len; omega)] at h1
        exact h1.map _
      have hbad : ¬ goodCh ((ts2.map Tv.x).take (k + 1)) → ¬ goodCh (ts.map Tv.x) := fun hbd hgd => hbd (goodCh_take ((goodCh_perm hpx).2 hgd) _)
      have hsz : 0 < t.x.adr.size := by
        have hm : t.x ∈ ts.map Tv.x := hpx.mem_iff.1 (List.mem_of_getElem? hxk)
        obtain ⟨t0, h0, e0⟩ := List.mem_map.1 hm
        rw [← e0]; exact HNE.out t0 h0
      obtain ⟨d, hE, hd1, hd2⟩ : ∃ d : Bool, (Calls Tryz.prog 95 #[.slice t.A t.x.adr.size t.c, u6] wr fun e w' => e = .returned (.bool d) ∧ wr = w') ∧ (d = true → ¬ goodCh ((ts2.map Tv.x).take (k + 1))) ∧ (d = false → ∀ y ∈ (ts2.map Tv.x).take k, y.adr.toList ≠ t.x.adr.toList) := by
        rcases HPV.out with ⟨rfl, rfl⟩ | ⟨j, t0, rfl, ht0, rfl⟩
        · exact ⟨false, bequal_nil _ _ _ _ hok.1 hsz, (fun h => by cases h), (fun _ y hy => by simp at hy)⟩
        · have hj : j < bs2.length := by omega
          have hok0 := (HVR.out.validator (List.getElem?_eq_getElem hj) ht0).2
          have hy : (ts2.map Tv.x)[j]? = some t0.x := by rw [List.getElem?_map, ht0]; rfl
          refine ⟨t.x.adr.toList == t0.x.adr.toList, bequal_any _ _ _ _ _ _ _ hok.1 hok0.1, fun he hgd => ?_, fun he => ?_⟩
          · have he2 := eq_of_beq he
            have hnd := hgd.2
            rw [hst, List.map_append, List.nodup_append] at hnd
            refine hnd.2.2 t0.x.adr.toList (List.mem_map.2 ⟨t0.x, List.mem_of_getElem? (i := j) (by rw [List.getElem?_take, if_pos (by omega)]; exact hy), rfl⟩) t.x.adr.toList (by simp) he2.symm
          · exact sorted_fresh HS2.out hy hxk (fun e => by rw [e] at he; simp at he)
      have HE := Lib.hid hE; have HD1 := Lib.hid hd1; have HD2 := Lib.hid hd2; have HBAD := Lib.hid hbad; have HST := Lib.hid hst; have HLST := Lib.hid hLst; have HTK := Lib.hid ht; have HB := Lib.hid hb; have HBV := Lib.hid hbv
      clear hE hd1 hd2 hbad hst hLst hLk hLk' hxk hk' hpx hsz hok ht hb c1' c3 hbv
      cases d with
      | true =>
        go_wp2_with fail
        refine HE.out.mono ?_
        rintro e w5 ⟨rfl, rfl⟩
        go_wp2_with fail
        refine (KE.out _ _).mono ?_
        rintro e w6 ⟨rfl, hb6⟩
        have HB6 := Lib.hid hb6; clear hb6
        go_wp2
        go_returns
        exact ⟨HBB.out.trans (HB6.out.mono hbz), .inr ⟨HBAD.out (HD1.out (by simp)), _, rfl⟩⟩
      | false =>
        by_cases hN : t.x.pow < 0
        · go_wp2_with fail
          refine HE.out.mono ?_
          rintro e w5 ⟨rfl, rfl⟩
          go_wp2_with fail
          refine (KE.out _ _).mono ?_
          rintro e w6 ⟨rfl, hb6⟩
          have HB6 := Lib.hid hb6; clear hb6
          go_wp2
          go_returns
          exact ⟨HBB.out.trans (HB6.out.mono hbz), .inr ⟨HBAD.out (fun hg => by have := hg.1 t.x (by rw [HST.out]; simp); omega), _, rfl⟩⟩
        · by_cases hG : 1152921504606846975 < t.x.pow
          · go_wp2_with fail
            refine HE.out.mono ?_
            rintro e w5 ⟨rfl, rfl⟩
            go_wp2_with fail
            refine (KE.out _ _).mono ?_
            rintro e w6 ⟨rfl, hb6⟩
            have HB6 := Lib.hid hb6; clear hb6
            go_wp2
            go_returns
            exact ⟨HBB.out.trans (HB6.out.mono hbz), .inr ⟨HBAD.out (fun hg => by have := hg.1 t.x (by rw [HST.out]; simp); omega), _, rfl⟩⟩
          · have hgd : goodCh ((ts2.map Tv.x).take (k + 1)) := by rw [HST.out]; exact goodCh_snoc HGD.out (by omega) (HD2.out (by simp))
            have HGN := Lib.hid hgd; clear hgd
            obtain ⟨⟨xu, rfl, hxu2, hxu3⟩, ⟨xr, rfl, hxr2⟩⟩ := HDJ.out
            have hxx : xr ≠ xu := fun e => hxu3 (by rw [e]; rfl)
            clear hxu3
            have hr2 : r < w2.heap.size := HA1.out r rfl
            by_cases hZ : t.x.pow = 0
            · have hz1 : (t.x.pow == 0) = true := by simpa using hZ
              have hfz : (L.take (k + 1)).filter zerB = (L.take k).filter zerB ++ [(b, t)] := by rw [HLST.out, List.filter_append]; simp [zerB, hz1]
              have hfp : (L.take (k + 1)).filter posB = (L.take k).filter posB := by rw [HLST.out, List.filter_append]; simp [posB, hz1]
              have HFZ := Lib.hid hfz; have HFP := Lib.hid hfp; clear hfz hfp
              go_wp2_with fail
              refine HE.out.mono ?_
              rintro e w5 ⟨rfl, rfl⟩
              go_wp2_with (at_builtin; refine wpList_app _ rfl (.tmp 60) (.tmp 62) 125 rfl w.heap.size 126 i0 _ 1 8 Tryz.underlying125 HI.out HZ0.out HZ1.out HZ2.out rfl (by decide) (.slice (some ⟨xr, 0, none⟩) ((L.take k).filter zerB).length cr) ((L.take k).filter zerB).length (ptrs ((L.take k).filter zerB)) rfl (World.ownsRow.alloc HOR.out _) (wr.heap.size + 1) (some ⟨wr.heap.size, 0, none⟩) 1 1 [.pointer (some ⟨b, 0, none⟩)] rfl (Rd.new wr #[.pointer (some ⟨b, 0, none⟩)] 126 1 1 wr.heap.size rfl rfl) (by intro u hu; simp at hu; subst hu; rfl) ?q1 ?q2 ?hb ?_; (case q1 => simp only [maxLen]; omega); (case q2 => omega); (case hb => simp; omega); intro A9 c9 w9 ho9 hg9 hk9; have c9' : w9.cell? ⟨b, 0, none⟩ = some (.slice t.A t.x.adr.size t.c) := ((HBV.out.alloc (.cells #[.pointer (some ⟨b, 0, none⟩)] 126)).grown hg9 (own_ne_blk (World.ownsRow.alloc HOR.out (.cells #[.pointer (some ⟨b, 0, none⟩)] 126)) (HBV.out.alloc (.cells #[.pointer (some ⟨b, 0, none⟩)] 126)) (by decide))).cell 0; have HO9 := Lib.hid ho9; have HG9 := Lib.hid hg9; have HK9 := Lib.hid hk9; clear ho9 hg9 hk9)
              go_roundw
              case measure => simp [intOf]; omega
              case rel =>
                have hvr9 := (HVR.out.keep (KeepV.of_below w.heap.size ((Below.refl wr.heap.size wr).alloc (Nat.le_refl _) (.cells #[.pointer (some ⟨b, 0, none⟩)] 126)) (Nat.le_refl _))).grownO (World.ownsRow.alloc HOR.out _) HG9.out (by simp [Value.ownBlock]; omega)
                have hbb9 : Below w.heap.size w w9 := (HBB.out.alloc hbz _).grown HG9.out (by simp; omega) (fun q hq => own_base HOR.out q hq)
                have hot9 := (World.ownsRow.alloc HOU.out (.cells #[.pointer (some ⟨b, 0, none⟩)] 126)).kept HG9.out (.inr (by simp [Value.ownBlock]; omega))
                obtain ⟨x9, hx9, hx92, hx93⟩ : ∃ x9, A9 = some ⟨x9, 0, none⟩ ∧ w2.heap.size ≤ x9 ∧ x9 ≠ xu := by
                  obtain ⟨x9, cap9, hv9, _, _⟩ := World.ownsRow.form HO9.out (by omega)
                  have e9 : A9 = some ⟨x9, 0, none⟩ := by injection hv9
                  subst e9
                  refine ⟨x9, rfl, ?_⟩
                  have hyy : xu < wr.heap.size := (World.ownsRow.lt HOU.out xu rfl).2
                  have hz24 : w2.heap.size ≤ wr.heap.size := by have := (World.ownsRow.lt HOU.out xu rfl).2; omega
                  rcases HK9.out with e | e
                  · simp [Value.ownBlock] at e; omega
                  · simp [Value.ownBlock] at e; omega
                subst hx9
                refine ⟨k + 1, some ⟨xu, 0, none⟩, cu, some ⟨x9, 0, none⟩, c9, by omega, by go_num, rfl, by rw [HFP.out], by rw [HFZ.out]; simp, .inr ⟨k, t, rfl, HTK.out, rfl⟩, HGN.out, ?_, ?_, HAN.out, ⟨⟨xu, rfl, hxu2, by simp; omega⟩, ⟨x9, rfl, hx92⟩⟩, hvr9, hbb9⟩
                · rw [HFP.out]; exact hot9
                · rw [HFZ.out, ptrs_snoc, List.length_append]; exact HO9.out
            · have hz1 : (t.x.pow == 0) = false := by simpa using hZ
              have hfz : (L.take (k + 1)).filter zerB = (L.take k).filter zerB := by rw [HLST.out, List.filter_append]; simp [zerB, hz1]
              have hfp : (L.take (k + 1)).filter posB = (L.take k).filter posB ++ [(b, t)] := by rw [HLST.out, List.filter_append]; simp [posB, hz1]
              have HFZ := Lib.hid hfz; have HFP := Lib.hid hfp; clear hfz hfp
              go_wp2_with fail
              refine HE.out.mono ?_
              rintro e w5 ⟨rfl, rfl⟩
              go_wp2_with (at_builtin; refine wpList_app _ rfl (.tmp 34) (.tmp 36) 125 rfl w.heap.size 126 i0 _ 1 8 Tryz.underlying125 HI.out HZ0.out HZ1.out HZ2.out rfl (by decide) (.slice (some ⟨xu, 0, none⟩) ((L.take k).filter posB).length cu) ((L.take k).filter posB).length (ptrs ((L.take k).filter posB)) rfl (World.ownsRow.alloc HOU.out _) (wr.heap.size + 1) (some ⟨wr.heap.size, 0, none⟩) 1 1 [.pointer (some ⟨b, 0, none⟩)] rfl (Rd.new wr #[.pointer (some ⟨b, 0, none⟩)] 126 1 1 wr.heap.size rfl rfl) (by intro u hu; simp at hu; subst hu; rfl) ?q1 ?q2 ?hb ?_; (case q1 => simp only [maxLen]; omega); (case q2 => omega); (case hb => simp; omega); intro A9 c9 w9 ho9 hg9 hk9; have c9' : w9.cell? ⟨b, 0, none⟩ = some (.slice t.A t.x.adr.size t.c) := ((HBV.out.alloc (.cells #[.pointer (some ⟨b, 0, none⟩)] 126)).grown hg9 (own_ne_blk (World.ownsRow.alloc HOU.out (.cells #[.pointer (some ⟨b, 0, none⟩)] 126)) (HBV.out.alloc (.cells #[.pointer (some ⟨b, 0, none⟩)] 126)) (by decide))).cell 0; have HO9 := Lib.hid ho9; have HG9 := Lib.hid hg9; have HK9 := Lib.hid hk9; clear ho9 hg9 hk9)
              go_roundw
              case measure => simp [intOf]; omega
              case rel =>
                have hvr9 := (HVR.out.keep (KeepV.of_below w.heap.size ((Below.refl wr.heap.size wr).alloc (Nat.le_refl _) (.cells #[.pointer (some ⟨b, 0, none⟩)] 126)) (Nat.le_refl _))).grownO (World.ownsRow.alloc HOU.out _) HG9.out (by simp [Value.ownBlock]; omega)
                have hbb9 : Below w.heap.size w w9 := (HBB.out.alloc hbz _).grown HG9.out (by simp; omega) (fun q hq => own_base HOU.out q hq)
                have hot9 := (World.ownsRow.alloc HOR.out (.cells #[.pointer (some ⟨b, 0, none⟩)] 126)).kept HG9.out (.inr (by simp [Value.ownBlock]; omega))
                obtain ⟨x9, hx9, hx92, hx93⟩ : ∃ x9, A9 = some ⟨x9, 0, none⟩ ∧ w2.heap.size ≤ x9 ∧ x9 ≠ xr := by
                  obtain ⟨x9, cap9, hv9, _, _⟩ := World.ownsRow.form HO9.out (by omega)
                  have e9 : A9 = some ⟨x9, 0, none⟩ := by injection hv9
                  subst e9
                  refine ⟨x9, rfl, ?_⟩
                  have hyy : xr < wr.heap.size := (World.ownsRow.lt HOR.out xr rfl).2
                  have hz24 : w2.heap.size ≤ wr.heap.size := by have := (World.ownsRow.lt HOR.out xr rfl).2; omega
                  rcases HK9.out with e | e
                  · simp [Value.ownBlock] at e; omega
                  · simp [Value.ownBlock] at e; omega
                subst hx9
                refine ⟨k + 1, some ⟨x9, 0, none⟩, c9, some ⟨xr, 0, none⟩, cr, by omega, by go_num, rfl, by rw [HFP.out]; simp, by rw [HFZ.out], .inr ⟨k, t, rfl, HTK.out, rfl⟩, HGN.out, ?_, ?_, (fun e => by cases e), ⟨⟨x9, rfl, hx92, by simp; omega⟩, ⟨xr, rfl, hxr2⟩⟩, hvr9, hbb9⟩
                · rw [HFP.out, ptrs_snoc, List.length_append]; exact HO9.out
                · rw [HFZ.out]; exact hot9
    · obtain rfl : k = bs2.length := by omega
      have hll : L.length = bs2.length := by rw [HLL.out, List.length_zip, HVR.out.len, Nat.min_self]
      have hLt : L.take bs2.length = L := List.take_of_length_le (by omega)
      have hSt : (ts2.map Tv.x).take bs2.length = ts2.map Tv.x := List.take_of_length_le (by rw [List.length_map, HVR.out.len]; exact Nat.le_refl _)
      have hgd := HGD.out
      rw [hSt] at hgd
      have hou := HOU.out; have hor := HOR.out
      rw [hLt] at hou hor
      rw [hLt]
      have hpx : (ts2.map Tv.x).Perm (ts.map Tv.x) := by
        have h1 := HP2.out.map Prod.snd
        rw [List.map_snd_zip (by have := HL2.out; have := HE2.out; omega), List.map_snd_zip (by have := HV1.out.len; omega)] at h1
        exact h1.map _
      have hLs : L.map (fun p => p.2.x) = ts2.map Tv.x := by
        have : L.map Prod.snd = ts2 := by rw [HLL.out, List.map_snd_zip (by have := HVR.out.len; omega)]
        rw [← this, List.map_map]; rfl
      have hres : ∀ p : Sd → Bool, ((L.filter fun q => p q.2.x).map Prod.snd).map Tv.x = (ts2.map Tv.x).filter p := fun p => by
        rw [← hLs, List.filter_map, List.map_map]; rfl
      have HOU2 := Lib.hid hou; have HOR2 := Lib.hid hor; have HGD2 := Lib.hid hgd; have HPX := Lib.hid hpx; have HRES := Lib.hid hres
      clear hou hor hgd hpx hLs hres hll hLt hSt HOU HOR HGD
      go_wp2
      go_returns
      have r1 := HOU2.out; have r2 := HOR2.out
      rw [ptrs_eq] at r1 r2
      have el := HLL.out
      subst el
      refine ⟨HBB.out, .inl ⟨(goodCh_perm HPX.out).1 HGD2.out, Au, cu, _, _, Ar, cr, _, _, ts2.map Tv.x, ?_, HAN.out, HVR.out.part posB (by rw [List.length_map]; exact r1), HVR.out.part zerB (by rw [List.length_map]; exact r2), HPX.out, HS2.out, HRES.out (fun u => !(u.pow == 0)), HRES.out (fun u => u.pow == 0)⟩⟩
      rw [List.length_map, List.length_map]
      rfl
end Go.Proofs.YtikikddkhikfkaaGreatDoor

set_option linter.all false
namespace Go.Proofs.YtikikddkhikfkaaGreatDoor
open Go.RowKit

/-- the set lies below block N -/
structure VLow (N g : Nat) (A : Option Addr) (bs : List Nat) : Prop where
  head : g < N
  row : ∀ a, A = some a → a.block < N
  vals : ∀ b ∈ bs, b < N
theorem VSet.keepLow {w w' : World} {lo g N : Nat} {A : Option Addr} {c : Nat} {bs : List Nat} {ts : List Tv} {prop : Value} {tot : Int} {same : Bool} (h : VSet w lo g A c bs ts prop tot same) (hl : VLow N g A bs) (kb : KeepB w w') (k : ∀ i, i < N → w'.heap[i]? = w.heap[i]?) : VSet w' lo g A c bs ts prop tot same := by
  refine ⟨(k g hl.head).trans h.head, ?_, h.len, h.nodup, fun j b t hb ht => ?_, h.log⟩
  · refine ⟨h.row.1, ?_⟩
    rcases h.row.2 with h2 | ⟨g', cap, cur, hv, hg, hh, r⟩
    · exact Or.inl h2
    · have hA : A = some ⟨g', 0, none⟩ := by injection hv
      exact Or.inr ⟨g', cap, cur, hv, hg, (k g' (hl.row _ hA)).trans hh, r⟩
  · obtain ⟨h1, h2, h3⟩ := h.vals j b t hb ht
    exact ⟨h1, (k b (hl.vals b (List.mem_of_getElem? hb))).trans h2, h3.keep kb⟩
/-- only these validators, and what is new, have turned -/
structure OnlyL (bs : List Nat) (w w' : World) : Prop where
  os : w'.os = w.os
  tape : w'.tape = w.tape
  output : w'.output = w.output
  size : w.heap.size ≤ w'.heap.size
  block : ∀ k, k < w.heap.size → k ∉ bs → w'.heap[k]? = w.heap[k]?
  bytes : KeepB w w'
theorem OnlyL.refl (bs : List Nat) (w : World) : OnlyL bs w w := ⟨rfl, rfl, rfl, Nat.le_refl _, fun _ _ _ => rfl, KeepB.refl w⟩
theorem OnlyL.trans {bs : List Nat} {a b c : World} (h : OnlyL bs a b) (k : OnlyL bs b c) : OnlyL bs a c :=
  ⟨k.os.trans h.os, k.tape.trans h.tape, k.output.trans h.output, Nat.le_trans h.size k.size, fun i hi hb => (k.block i (Nat.lt_of_lt_of_le hi h.size) hb).trans (h.block i hi hb), h.bytes.trans k.bytes⟩
theorem OnlyL.drew {bs : List Nat} {a b : World} (h : OnlyL bs a b) : OnlyL bs a b.drew := ⟨h.os, h.tape, h.output, h.size, h.block, h.bytes⟩
theorem OnlyL.set {bs : List Nat} {a w : World} (h : OnlyL bs a w) {b : Nat} (hb : b ∈ bs) {cs : Array Value} (hblk : Blk w b 136 cs) (i : Nat) (v : Value) : OnlyL bs a (w.setCell ⟨b, i, none⟩ v) :=
  h.trans ⟨rfl, rfl, rfl, by simp [World.setCell], fun k _ hk => Below.heap_setCell w ⟨b, i, none⟩ v k (fun e => hk (by rw [e]; exact hb)), KeepB.setCell (p := ⟨b, i, none⟩) hblk (by decide) v⟩
theorem VRow.setPri {w : World} {lo : Nat} {A : Option Addr} {c : Nat} {bs : List Nat} {ts : List Tv} (h : VRow w lo A c bs ts) {j b : Nat} {t : Tv} (hb : bs[j]? = some b) (ht : ts[j]? = some t) (q : Int) :
    VRow (w.setCell ⟨b, 3, none⟩ (.int .i64 q)) lo A c bs (ts.set j { t with x := { t.x with pri := q } }) := by
  obtain ⟨h1, h2, h3⟩ := h.vals j b t hb ht
  have hj := (List.getElem?_eq_some_iff.1 ht).1
  refine ⟨own_far h.row (p := ⟨b, 3, none⟩) (own_ne_blk h.row h2 (by decide)) _, by rw [List.length_set]; exact h.len, h.nodup, fun j' b' t' hb' ht' => ?_⟩
  have kb : KeepB w (w.setCell ⟨b, 3, none⟩ (.int .i64 q)) := KeepB.setCell (p := ⟨b, 3, none⟩) h2 (by decide) _
  rw [List.getElem?_set] at ht'
  by_cases e : j = j'
  · subst e
    rw [if_pos rfl, if_pos hj] at ht'
    cases ht'
    rw [hb] at hb'; cases hb'
    exact ⟨h1, h2.put 3 _, h3.keep kb⟩
  · rw [if_neg e] at ht'
    obtain ⟨g1, g2, g3⟩ := h.vals j' b' t' hb' ht'
    have hne : b' ≠ b := by
      rintro rfl
      have hj1 := List.getElem?_eq_some_iff.1 hb
      have hj2 := List.getElem?_eq_some_iff.1 hb'
      exact e ((List.getElem_inj h.nodup).1 (hj1.2.trans hj2.2.symm))
    exact ⟨g1, g2.far (p := ⟨b, 3, none⟩) hne _, g3.keep kb⟩
/-- the priority of one that comes, or that stays -/
def newPri (vals : List Sd) (T : Int) (u : Sd) : Sd := { u with pri := match seatAt vals u.adr with
  | some v => v.pri
  | none => -(T + T / 8) }
set_option maxRecDepth 100000 in
set_option maxHeartbeats 3200000 in
theorem pris_any (lo g : Nat) (A : Option Addr) (c : Nat) (bs : List Nat) (ts : List Tv) (prop : Value) (tot : Int) (same : Bool) (w : World) (h : VSet w lo g A c bs ts prop tot same) (hn : bs.length ≤ 1000000) (lo' : Nat) (hlow : VLow lo' g A bs) (Au : Option Addr) (cu : Nat) (bu : List Nat) (tu : List Tv) (hu : VRow w lo' Au cu bu tu) (hnu : bu.length ≤ 1000000)
    (T : Int) (hT : 0 ≤ T ∧ T ≤ 4611686018427387904) :
    Calls Tryz.prog 103 #[.slice Au bu.length cu, ptrTo g, .int .i64 T] w fun e w' => e = .returned (.tuple #[]) ∧ ∃ tu', tu'.map Tv.x = (tu.map Tv.x).map (newPri (ts.map Tv.x) T) ∧ VRow w' lo' Au cu bu tu' ∧ VSet w' lo g A c bs ts prop tot same ∧ OnlyL bu w w' := by
  have HLL : Hid (tu.length = bu.length) := hu.len
  have H := Lib.hid h; have HU := Lib.hid hu; have HLO := Lib.hid hlow; clear h hu hlow
  have KG := Lib.hid (fun (W : World) (hW : VSet W lo g A c bs ts prop tot same) (a : ByteArray) (Aa : Option Addr) (ca : Nat) (ha : Byt W Aa a) => getMut_any lo g A c bs ts prop tot same W hW hn a Aa ca ha)
  unfold ptrTo at KG ⊢
  go_enter Tryz.func103, Tryz.ntmps103
  go_wp2
  go_loopw [13] (fun i wr => ∃ k : Nat, k ≤ bu.length ∧ i = .int .i64 k ∧ Hid (∃ tk, tk.map Tv.x = mapTo (newPri (ts.map Tv.x) T) (tu.map Tv.x) k ∧ VRow wr lo' Au cu bu tk) ∧ Hid (VSet wr lo g A c bs ts prop tot same) ∧ Hid (OnlyL bu w wr)) (fun i _ => bu.length - (intOf i).toNat)
  case atStart => exact ⟨0, Nat.zero_le _, rfl, ⟨tu, by rw [mapTo_zero], HU.out⟩, H.out, OnlyL.refl _ _⟩
  case round =>
    obtain ⟨k, hk, rfl, HT, HV, HO⟩ := hrel
    obtain ⟨tk, htk, hvr⟩ := HT.out
    have htl : (tk.map Tv.x).length = bu.length := by rw [List.length_map]; exact hvr.len
    by_cases hlt : k < bu.length
    · obtain ⟨b, t, hb, ht⟩ := hvr.at_ hlt
      obtain ⟨r, rfl, _, hp⟩ := hvr.ptr hb
      obtain ⟨hbv, hok⟩ := hvr.validator hb ht
      obtain ⟨c0, c1, c2, c3⟩ := t.val_cells hbv
      have hf3 : wr.frozen? ⟨b, 3, none⟩ = false := hbv.free 3
      obtain ⟨x, hx⟩ : ∃ x, (tu.map Tv.x)[k]? = some x := ⟨_, List.getElem?_eq_getElem (by rw [List.length_map, HLL.out]; exact hlt)⟩
      have hxt : t.x = x := by
        have h1 : (tk.map Tv.x)[k]? = some t.x := by rw [List.getElem?_map, ht]; rfl
        rw [htk, mapTo_get _ _ _ _ hx] at h1
        exact (Option.some.inj h1).symm
      have hE := KG.out wr HV.out t.x.adr t.A t.c hok.1
      have hset : ∀ q, (newPri (ts.map Tv.x) T t.x).pri = q → VRow (wr.setCell ⟨b, 3, none⟩ (.int .i64 q)) lo' (some ⟨r, 0, none⟩) cu bu (tk.set k { t with x := { t.x with pri := q } }) ∧ (tk.set k { t with x := { t.x with pri := q } }).map Tv.x = mapTo (newPri (ts.map Tv.x) T) (tu.map Tv.x) (k + 1) := fun q hq => by
        refine ⟨hvr.setPri hb ht q, ?_⟩
        rw [List.map_set, htk, ← mapTo_succ _ _ _ _ hx]
        congr 1
        rw [← hxt, ← hq]; rfl
      have hvs : ∀ q, VSet (wr.setCell ⟨b, 3, none⟩ (.int .i64 q)) lo g A c bs ts prop tot same := fun q =>
        HV.out.keepLow HLO.out (KeepB.setCell (p := ⟨b, 3, none⟩) hbv (by decide) _) (fun i hi => Below.heap_setCell wr ⟨b, 3, none⟩ _ i (by have := (hvr.vals k b t hb ht).1; show i ≠ b; omega))
      have hon : ∀ q, OnlyL bu w (wr.setCell ⟨b, 3, none⟩ (.int .i64 q)) := fun q => HO.out.set (List.mem_of_getElem? hb) hbv 3 _
      rcases atL_cases t.x.adr (ts.map Tv.x) with ⟨h1, _⟩ | ⟨i, y, h1, h2, _⟩
      · have hq : (newPri (ts.map Tv.x) T t.x).pri = -(T + T / 8) := by unfold newPri; simp only [seatAt_none h1]
        have S1 := hset _ hq
        rw [h1, show ptrAt bs (-1) = .pointer none from rfl] at hE
        have HE := Lib.hid hE; have HS1 := Lib.hid S1; have HVS := Lib.hid hvs; have HON := Lib.hid hon
        clear hb ht hbv hok hE c1 c2 h1 hset hvs hon hq S1 hx hxt htk hvr HT HV HO
        go_wp2_with fail
        refine HE.out.mono ?_
        rintro e w1 ⟨rfl, rfl⟩
        go_wp2
        go_roundw
        case rel => exact ⟨k + 1, by omega, by go_num, ⟨_, HS1.out.2, HS1.out.1⟩, HVS.out _, HON.out _⟩
        case measure => simp [intOf]; omega
      · obtain ⟨t', ht', rfl⟩ : ∃ t', ts[i]? = some t' ∧ t'.x = y := by
          rw [List.getElem?_map] at h2
          cases hti : ts[i]? with
          | none => rw [hti] at h2; cases h2
          | some t' => rw [hti] at h2; exact ⟨t', rfl, Option.some.inj h2⟩
        have hi : i < bs.length := by rw [← HV.out.len]; exact (List.getElem?_eq_some_iff.1 ht').1
        have hb' : bs[i]? = some bs[i] := List.getElem?_eq_getElem hi
        obtain ⟨_, hbv', _⟩ := HV.out.vals i _ t' hb' ht'
        obtain ⟨d0, d1, d2, d3⟩ := t'.val_cells hbv'
        have hq : (newPri (ts.map Tv.x) T t.x).pri = t'.x.pri := by unfold newPri; simp only [seatAt_some h1 h2]
        have S1 := hset _ hq
        rw [h1, ptrAt_some hb'] at hE
        generalize bs[i] = b' at *
        have HE := Lib.hid hE; have HS1 := Lib.hid S1; have HVS := Lib.hid hvs; have HON := Lib.hid hon
        clear hb ht hbv hok hE c1 c2 h1 h2 hset hvs hon hq S1 hx hxt htk hvr HT HV HO ht' hb' hbv' d0 d1 d2
        go_wp2_with fail
        refine HE.out.mono ?_
        rintro e w1 ⟨rfl, rfl⟩
        go_wp2
        go_roundw
        case rel => exact ⟨k + 1, by omega, by go_num, ⟨_, HS1.out.2, HS1.out.1⟩, HVS.out _, HON.out _⟩
        case measure => simp [intOf]; omega
    · obtain rfl : k = bu.length := by omega
      go_wp2
      go_end0
      refine ⟨rfl, tk, ?_, hvr, HV.out, HO.out⟩
      rw [htk, mapTo_full _ _ _ (by rw [List.length_map, HLL.out]; exact Nat.le_refl _)]
end Go.Proofs.YtikikddkhikfkaaGreatDoor

set_option linter.unusedSimpArgs false
namespace Go.Proofs.YtikikddkhikfkaaGreatDoor
open Go.ChangeShapes Go.WideShapes Go.ChangeAt Go.RowKit

theorem Tryz.own : ownKnob Tryz.prog.godebug = none := by kernel_rfl
theorem Tryz.laidOut : laidOutB Tryz.prog = true := by kernel_rfl

section
variable {H : Type} {enc : TypeId × Value → H} {P : Program}
def rowsReadable (P : Program) (ts : List TypeId) : Bool := ts.all fun t => P.readableRec t && decide (t < P.types.size)
theorem trodAll_stays (hl : laidOutB P = true) {W W' : World} (hb : Below W.heap.size W W') : ∀ {ts : List TypeId} {vs : List Value} {ds : List (DataW H)} {ps : List MemPlace}, rowsReadable P ts = true → (∀ x ∈ ps, x.block < W.heap.size) →
    DataW.TrodAll enc P W 0 (fun _ => true) true ts vs ds ps → DataW.TrodAll enc P W' 0 (fun b => decide (b < W.heap.size)) true ts vs ds ps
  | [], [], [], _, _, _, h => h
  | t :: ts, v :: vs, d :: ds, ps, hr, hlt, h => by
    obtain ⟨p, q, h1, h2, rfl⟩ := h
    simp only [rowsReadable, List.all_cons, Bool.and_eq_true, decide_eq_true_eq] at hr
    exact ⟨p, q, Below.trod hl hr.1.1 hr.1.2 h1 hb (fun x hx => hlt x (List.mem_append_left _ hx)),
      trodAll_stays hl hb (by simpa [rowsReadable] using hr.2) (fun x hx => hlt x (List.mem_append_right _ hx)) h2, rfl⟩
/-- what a law of plain data leaves: true, and every argument reads as it did -/
theorem post_true {f : Func} {s : ChangeSpec} {tb : TypeId} {W W' : World} {args : Array Value} {ds : List (DataW H)} {p : List MemPlace} (hl : laidOutB P = true) (hf : f.resultTypes = #[tb]) (htb : P.underlying tb = some .bool) (hv : s.vars = [])
    (hs : s.fn H (ds ++ []) = { results := [.lit (.bool true)], args := ds }) (hr : rowsReadable P f.params.toList = true) (hW : DataW.Whole enc P f.params.toList s.vars false W args.toList ds [] p)
    (hA : DataW.TrodAll enc P W 0 (fun _ => true) true f.params.toList args.toList ds p) (hb : Below W.heap.size W W') : s.post enc P f false true false false W args (.bool true) W' := by
  refine ⟨ds, [], p, [], p, [], hW, ?_, ?_, ?_, hb.frame _, fun h => by cases h⟩
  · rw [hs, hf]
    exact trodAll_mk1 (p := []) ⟨1, by simp [DataW.trod, htb, Value.cells]⟩
  · rw [hs]
    exact trodAll_stays hl hb hr (fun x hx => by simpa using hW.lt x hx) hA
  · rw [hs, hv]
    rfl

/-- a reading's cells of one seat -/
theorem seat_reads {w : World} {base : Nat} {spare : Nat → Bool} {held : Bool} {t : TypeId} {f0 f1 f2 f3 : Field} (he : P.underlying t = some (.struct #[f0, f1, f2, f3])) (hc : P.cellsOf t = 4)
    (k0 : f0.offset = 0 ∧ P.cellsOf f0.type = 1 ∧ P.underlying f0.type = some .string) (k1 : f1.offset = 1 ∧ P.cellsOf f1.type = 1 ∧ P.underlying f1.type = some .string)
    (k2 : f2.offset = 2 ∧ P.cellsOf f2.type = 1 ∧ P.underlying f2.type = some (.int .i64)) (k3 : f3.offset = 3 ∧ P.cellsOf f3.type = 1 ∧ P.underlying f3.type = some (.int .i64))
    {n : Nat} {cs : List Value} {x : DataW H × List MemPlace} (h : DataW.trod enc P w base spare held n t cs = some x) :
    ∃ s : Sd, cs = s.cells ∧ s.adr.size ≤ maxLen ∧ s.key.size ≤ maxLen ∧ (Lit.int .i64 s.pow).wf = true ∧ (Lit.int .i64 s.pri).wf = true := by
  obtain ⟨xs, m, _, _, hlen, hxs, hf⟩ := DataW.trod_struct he h
  rw [hc] at hlen
  match cs, hlen with
  | [c0, c1, c2, c3], _ =>
    match xs, hxs with
    | [y0, y1, y2, y3], _ =>
      have g0 := hf 0 f0 rfl
      have g1 := hf 1 f1 rfl
      have g2 := hf 2 f2 rfl
      have g3 := hf 3 f3 rfl
      simp only [k0.1, k0.2.1, List.drop_zero, List.take_succ_cons, List.take_zero, List.getElem?_cons_zero] at g0
      simp only [k1.1, k1.2.1, List.drop_succ_cons, List.drop_zero, List.take_succ_cons, List.take_zero, List.getElem?_cons_succ, List.getElem?_cons_zero] at g1
      simp only [k2.1, k2.2.1, List.drop_succ_cons, List.drop_zero, List.take_succ_cons, List.take_zero, List.getElem?_cons_succ, List.getElem?_cons_zero] at g2
      simp only [k3.1, k3.2.1, List.drop_succ_cons, List.drop_zero, List.take_succ_cons, List.take_zero, List.getElem?_cons_succ, List.getElem?_cons_zero] at g3
      obtain ⟨a, ha, _, ha2⟩ := DataW.trod_string k0.2.2 g0
      obtain ⟨b, hb, _, hb2⟩ := DataW.trod_string k1.2.2 g1
      obtain ⟨c, hc', _, hc2⟩ := DataW.trod_int k2.2.2 g2
      obtain ⟨d, hd, _, hd2⟩ := DataW.trod_int k3.2.2 g3
      cases ha; cases hb; cases hc'; cases hd
      exact ⟨⟨a, b, c, d⟩, rfl, ha2, hb2, hc2, hd2⟩
end

/-- the numbers of a seat are what Go's kinds hold -/
def Sd.fits (s : Sd) : Prop := s.adr.size ≤ maxLen ∧ s.key.size ≤ maxLen ∧ (-9223372036854775808 ≤ s.pow ∧ s.pow ≤ 9223372036854775807) ∧ (-9223372036854775808 ≤ s.pri ∧ s.pri ≤ 9223372036854775807)
theorem wf64 {n : Int} (h : (Lit.int .i64 n).wf = true) : -9223372036854775808 ≤ n ∧ n ≤ 9223372036854775807 := by
  simp only [Lit.wf, Bool.and_eq_true, decide_eq_true_eq] at h
  exact h
theorem Rd.of_seats {w : World} {a : Addr} {n : Nat} (h : ∀ i, i < n → ∃ s : Sd, s.fits ∧ ∀ j, j < 4 → w.cell? (a.add (i * 4 + j)) = s.cells[j]?) (hb : a.block < w.heap.size) :
    ∃ l : List Sd, Rd w w.heap.size 4 (some a) n (cellsOf l) ∧ ∀ s ∈ l, s.fits := by
  have h' : ∀ i, ∃ s : Sd, i < n → s.fits ∧ ∀ j, j < 4 → w.cell? (a.add (i * 4 + j)) = s.cells[j]? := fun i => by
    by_cases hi : i < n
    · obtain ⟨s, hs⟩ := h i hi
      exact ⟨s, fun _ => hs⟩
    · exact ⟨⟨.empty, .empty, 0, 0⟩, fun h => absurd h hi⟩
  obtain ⟨f, hf⟩ := Classical.axiomOfChoice h'
  refine ⟨(List.range n).map f, ⟨by rw [cellsOf_length]; simp, fun j u hu => ⟨a, rfl, hb, ?_⟩⟩, fun s hs => ?_⟩
  · have hj : j < n * 4 := by
      have := (List.getElem?_eq_some_iff.1 hu).1
      rw [cellsOf_length] at this; simpa using this
    have hx : ((List.range n).map f)[j / 4]? = some (f (j / 4)) := by
      rw [List.getElem?_map, List.getElem?_range (by omega)]; rfl
    have e := cellsOf_get ((List.range n).map f) (j / 4) (j % 4) (f (j / 4)) hx (Nat.mod_lt _ (by omega))
    have ej : j / 4 * 4 + j % 4 = j := by omega
    rw [ej] at e
    have := (hf (j / 4) (by omega)).2 (j % 4) (Nat.mod_lt _ (by omega))
    rw [ej] at this
    rw [this, ← e, hu]
  · simp only [List.mem_map, List.mem_range] at hs
    obtain ⟨i, hi, rfl⟩ := hs
    exact (hf i hi).1
section
variable {H : Type} {enc : TypeId × Value → H}
/-- an argument that is a slice of seats -/
theorem open_seats {W : World} {v : Value} {d : DataW H} {p : List MemPlace} (hv : ∃ A n c, v = .slice A n c) (h : DataW.Trod enc Tryz.prog W 0 (fun _ => true) true 22 v d p) :
    ∃ (A : Option Addr) (n c : Nat) (l : List Sd), v = .slice A n c ∧ n ≤ c ∧ c ≤ maxLen ∧ Rd W W.heap.size 4 A n (cellsOf l) ∧ ∀ s ∈ l, s.fits := by
  obtain ⟨A, n, c, rfl⟩ := hv
  obtain ⟨fuel, h⟩ := h
  rcases Go.Deep.open_slice Tryz.underlying22 h with ⟨h0, _⟩ | ⟨a, len, cap, m, k, D, Pl, hcs, _, hl, hm, hmm, hx, hi⟩
  · cases h0
    exact ⟨none, 0, 0, [], rfl, Nat.le_refl _, by decide, Rd.nil _ _ _ _, by simp⟩
  · cases hcs
    refine ⟨some a, n, c, ?_⟩
    have hC : Tryz.prog.cellsOf 28 = 4 := by kernel_rfl
    rw [hC] at hx hi
    by_cases hn : n = 0
    · subst hn
      exact ⟨[], rfl, hl, hm, Rd.nil _ _ _ _, by simp⟩
    · have hb : a.block < W.heap.size := by
        obtain ⟨cs', hc, ht'⟩ := hi 0 (by rw [hmm]; simp; omega)
        obtain ⟨_, hcl, hat⟩ := World.cells?_some hc
        have h0 := hat 0 (by omega)
        have hlt0 := World.block_lt_of_cell? W _ (h0.trans (List.getElem?_eq_getElem (by omega)))
        rwa [add_block, add_block] at hlt0
      obtain ⟨l, h1, h2⟩ := Rd.of_seats (w := W) (a := a) (n := n) (fun i hin => by
        obtain ⟨cs', hc, ht'⟩ := hi i (by rw [hmm]; simp; omega)
        obtain ⟨s, rfl, g1, g2, g3, g4⟩ := seat_reads Tryz.underlying28 hC ⟨rfl, by kernel_rfl, Tryz.underlying9⟩ ⟨rfl, by kernel_rfl, Tryz.underlying9⟩ ⟨rfl, by kernel_rfl, Tryz.underlying3⟩ ⟨rfl, by kernel_rfl, Tryz.underlying3⟩ ht'
        obtain ⟨_, hcl, hat⟩ := World.cells?_some hc
        exact ⟨s, ⟨g1, g2, wf64 g3, wf64 g4⟩, fun j hj => by rw [← Go.Deep.add_add]; exact hat j hj⟩) hb
      exact ⟨l, rfl, hl, hm, h1, h2⟩
end
end Go.Proofs.YtikikddkhikfkaaGreatDoor

set_option linter.all false
namespace Go.Proofs.YtikikddkhikfkaaGreatDoor
open Go.RowKit

/-- the set's validators and the updates, both by address, in one list: of one address the update -/
def mergeV : List (Nat × Tv) → List (Nat × Tv) → List (Nat × Tv)
  | [], us => us
  | e :: es, [] => e :: es
  | e :: es, u :: us => if adrB e.2.x u.2.x then e :: mergeV es (u :: us) else if e.2.x.adr.toList == u.2.x.adr.toList then u :: mergeV es us else u :: mergeV (e :: es) us
termination_by es us => es.length + us.length
theorem mergeV_nil (E : List (Nat × Tv)) : mergeV E [] = E := by cases E <;> simp [mergeV]
theorem mergeV_length (E U : List (Nat × Tv)) : (mergeV E U).length ≤ E.length + U.length := by
  induction E, U using mergeV.induct with
  | case1 us => simp [mergeV]
  | case2 e es => simp [mergeV]
  | case3 e es u us h ih => rw [mergeV, if_pos h]; simp only [List.length_cons] at *; omega
  | case4 e es u us h h2 ih => rw [mergeV, if_neg h, if_pos h2]; simp only [List.length_cons] at *; omega
  | case5 e es u us h h2 ih => rw [mergeV, if_neg h, if_neg h2]; simp only [List.length_cons] at *; omega
/-- the rest of a row behind its first -/
theorem Rd.tail {w : World} {B m c : Nat} {X : Option Addr} {x : Value} {r : List Value} (h : Rd w B 1 X (m + 1) (x :: r)) (hc : m + 1 ≤ c) :
    ∃ a, X = some a ∧ w.cell? a = some x ∧ a.block < B ∧ Rd w B 1 (if c = 1 then some a else some ⟨a.block, a.off + 1, none⟩) m r := by
  obtain ⟨a, rfl, hb, h0⟩ := h.2 0 x rfl
  have e0 : a.add 0 = a := by unfold Addr.add; rw [if_pos rfl]
  have e1 : a.add 1 = ⟨a.block, a.off + 1, none⟩ := by unfold Addr.add; rw [if_neg (by omega)]
  rw [e0] at h0
  refine ⟨a, rfl, h0, hb, ?_, fun j u hu => ?_⟩
  · have := h.1; simp only [List.length_cons] at this; omega
  · have hm : 0 < r.length := by have := (List.getElem?_eq_some_iff.1 hu).1; omega
    have hml := h.1
    simp only [List.length_cons] at hml
    rw [if_neg (by omega)]
    obtain ⟨a', e', hb', hc'⟩ := h.2 (j + 1) u (by simpa using hu)
    obtain rfl := Option.some.inj e'
    refine ⟨_, rfl, hb, ?_⟩
    rw [← e1, Go.Deep.add_add, Nat.add_comm 1 j]; exact hc'
/-- only the set's head, its row, and what is new have turned -/
structure OnlyR (g : Nat) (r : Option Nat) (w w' : World) : Prop where
  os : w'.os = w.os
  tape : w'.tape = w.tape
  output : w'.output = w.output
  size : w.heap.size ≤ w'.heap.size
  block : ∀ k, k < w.heap.size → k ≠ g → some k ≠ r → w'.heap[k]? = w.heap[k]?
  bytes : KeepB w w'
theorem keepB_grownR {w w' : World} {lo c n : Nat} {A : Option Addr} {xs : List Value} (hg : w.grownBy w' (Value.slice A n c).ownBlock) (h : w.ownsRow lo 126 1 (.slice A n c) n xs) : KeepB w w' :=
  KeepB.of_grown hg (fun g' cs m e hh => by
    rcases h.2 with ⟨e2, _⟩ | ⟨g2, cap, cur, hv, _, hh', _⟩
    · rw [e2] at e; cases e
    · rw [hv] at e
      have e3 : g2 = g' := by injection e
      subst e3
      rw [hh] at hh'
      injection hh' with hh'; injection hh' with _ ht
      exact absurd ht (by decide))
def lenOf : Value → Nat
  | .slice _ n _ => n
  | _ => 0
theorem mergeV_perm (E U : List (Nat × Tv)) : ∃ l, (mergeV E U ++ l).Perm (E ++ U) := by
  induction E, U using mergeV.induct with
  | case1 us => exact ⟨[], by simp [mergeV]⟩
  | case2 e es => exact ⟨[], by simp [mergeV]⟩
  | case3 e es u us h ih =>
    obtain ⟨l, hl⟩ := ih
    rw [mergeV, if_pos h]
    exact ⟨l, by simpa using hl.cons e⟩
  | case4 e es u us h h2 ih =>
    obtain ⟨l, hl⟩ := ih
    rw [mergeV, if_neg h, if_pos h2]
    refine ⟨e :: l, ?_⟩
    have h1 : (u :: mergeV es us ++ e :: l).Perm (u :: e :: (mergeV es us ++ l)) := by
      simp only [List.cons_append]
      exact List.Perm.cons u List.perm_middle
    have h3 : (e :: es ++ u :: us).Perm (e :: u :: (es ++ us)) := by
      simp only [List.cons_append]
      exact List.Perm.cons e List.perm_middle
    exact h1.trans (((hl.cons e).cons u).trans ((List.Perm.swap e u _).trans h3.symm))
  | case5 e es u us h h2 ih =>
    obtain ⟨l, hl⟩ := ih
    rw [mergeV, if_neg h, if_neg h2]
    refine ⟨l, ?_⟩
    have h3 : (e :: es ++ u :: us).Perm (u :: (e :: es ++ us)) := List.perm_middle
    exact (by simpa using hl.cons u : (u :: mergeV (e :: es) us ++ l).Perm (u :: (e :: es ++ us))).trans h3.symm
theorem own_cut {w : World} {base e n m c : Nat} {a : Addr} {xs : List Value} (h : w.ownsRow base e 1 (.slice (some a) n c) n xs) (hm : m ≤ n) : w.ownsRow base e 1 (.slice (some a) m c) m (xs.take m) := by
  refine ⟨by rw [List.length_take, h.1]; omega, ?_⟩
  rcases h.2 with ⟨e1, _⟩ | ⟨g, cap, cur, hv, h1, h2, h3, h4, h5, h6⟩
  · cases e1
  · injection hv with hv1 _ hv3
    subst hv3
    refine .inr ⟨g, c, cur, by rw [hv1], h1, h2, by omega, h4, h5, ?_⟩
    rw [← h6, List.take_take]
    congr 1; omega
theorem own_monoE {w : World} {base base' e size : Nat} {v : Value} {n : Nat} {xs : List Value} (h : w.ownsRow base e size v n xs) (hb : base' ≤ base) : w.ownsRow base' e size v n xs :=
  ⟨h.1, h.2.imp id fun ⟨g, cap, cur, h1, h2, h3⟩ => ⟨g, cap, cur, h1, Nat.le_trans hb h2, h3⟩⟩
theorem own_capE {w : World} {base e size n c : Nat} {A : Option Addr} {xs : List Value} (h : w.ownsRow base e size (.slice A n c) n xs) : n ≤ c := by
  rcases h.2 with ⟨e1, h0⟩ | ⟨g, cap, cur, hv, _, _, h3, _⟩
  · omega
  · injection hv with _ _ hv3; omega
theorem app_fin {w2 wr : World} {lo g N c cu base m n0 : Nat} {A Au : Option Addr} {bs2 bu : List Nat} {ts2 tu : List Tv} {prop : Value} {tot : Int} {same : Bool} {old : List Value}
    (hv2 : VRow w2 lo A c bs2 ts2) (hu2 : VRow w2 lo Au cu bu tu) (hdj : ∀ b ∈ bs2, b ∉ bu) (hb : Below w2.heap.size w2 wr) (hhd : Blk wr g 128 #[.slice A n0 c, prop, .int .i64 tot, .bool same]) (hlog : lo ≤ g) (hlo : lo ≤ base)
    (P : List (Nat × Tv)) (hP : P = mergeV (bs2.zip ts2) (bu.zip tu)) (hPN : P.length ≤ N) (ho : wr.ownsRow base 126 1 (.slice (some ⟨m, 0, none⟩) N N) N (overL (ptrs P) old)) :
    VSet (wr.setCell ⟨g, 0, none⟩ (.slice (some ⟨m, 0, none⟩) P.length N)) lo g (some ⟨m, 0, none⟩) N (P.map Prod.fst) (P.map Prod.snd) prop tot same := by
  obtain ⟨l, hl⟩ := mergeV_perm (bs2.zip ts2) (bu.zip tu)
  rw [← hP] at hl
  have hmem : ∀ p ∈ P, p ∈ bs2.zip ts2 ∨ p ∈ bu.zip tu := fun p hp => List.mem_append.1 (hl.mem_iff.1 (List.mem_append_left _ hp))
  have hval : ∀ p ∈ P, lo ≤ p.1 ∧ Blk w2 p.1 136 p.2.val ∧ p.2.ok w2 := fun p hp => by
    rcases hmem p hp with h | h
    · obtain ⟨j, hj⟩ := List.getElem?_of_mem h
      rw [List.getElem?_zip_eq_some] at hj
      exact hv2.vals j _ _ hj.1 hj.2
    · obtain ⟨j, hj⟩ := List.getElem?_of_mem h
      rw [List.getElem?_zip_eq_some] at hj
      exact hu2.vals j _ _ hj.1 hj.2
  have hne : some g ≠ (Value.slice (some ⟨m, 0, none⟩) N N).ownBlock := own_ne_blk ho hhd (by decide)
  refine ⟨?_, ?_, by simp, ?_, fun j b t hb' ht => ?_, hlog⟩
  · have := hhd.put 0 (.slice (some ⟨m, 0, none⟩) P.length N)
    simpa using this
  · have h1 := own_cut (own_monoE (own_far ho (p := ⟨g, 0, none⟩) hne (.slice (some ⟨m, 0, none⟩) P.length N)) hlo) hPN
    have h2 : (overL (ptrs P) old).take P.length = (P.map Prod.fst).map ptrTo := by
      unfold overL
      rw [List.take_left' (by simp [ptrs]), ptrs_eq]
    rw [h2] at h1
    rw [List.length_map]; exact h1
  · have h1 : ((P ++ l).map Prod.fst).Nodup := by
      refine (hl.map Prod.fst).nodup_iff.2 ?_
      rw [List.map_append, List.map_fst_zip (by have := hv2.len; omega), List.map_fst_zip (by have := hu2.len; omega), List.nodup_append]
      exact ⟨hv2.nodup, hu2.nodup, fun a ha b hb e => hdj a ha (by rw [e]; exact hb)⟩
    rw [List.map_append] at h1
    exact (List.nodup_append.1 h1).1
  · rw [List.getElem?_map] at hb' ht
    cases hq : P[j]? with
    | none => rw [hq] at hb'; cases hb'
    | some q =>
      rw [hq] at hb' ht
      cases hb'; cases ht
      obtain ⟨h1, h2, h3⟩ := hval q (List.mem_of_getElem? hq)
      have hw := h2.belowS hb
      have hqg : q.1 ≠ g := Blk.ne hw hhd (by decide)
      exact ⟨h1, hw.far (p := ⟨g, 0, none⟩) hqg _, (h3.keep (KeepB.of_below hb)).keep (KeepB.setCell (p := ⟨g, 0, none⟩) hhd (by decide) _)⟩
set_option maxRecDepth 100000 in
set_option maxHeartbeats 6400000 in
theorem appUpd_any (lo g : Nat) (A : Option Addr) (c : Nat) (bs : List Nat) (ts : List Tv) (prop : Value) (tot : Int) (same : Bool) (w : World) (h : VSet w lo g A c bs ts prop tot same) (hn : bs.length ≤ 1000) (Au : Option Addr) (cu : Nat) (bu : List Nat) (tu : List Tv) (hu : VRow w lo Au cu bu tu) (hnu : bu.length ≤ 1000) (hdj : ∀ b ∈ bs, b ∉ bu) (hAA : (Value.slice Au bu.length cu).ownBlock ≠ (Value.slice A bs.length c).ownBlock) :
    Calls Tryz.prog 104 #[ptrTo g, .slice Au bu.length cu] w fun e w' => e = .returned (.tuple #[]) ∧ ∃ (A' : Option Addr) (c' : Nat) (P : List (Nat × Tv)) (bs2 : List Nat) (ts2 : List Tv), (bs2.zip ts2).Perm (bs.zip ts) ∧ bs2.length = bs.length ∧ ts2.length = bs.length ∧ ((ts2.map Tv.x).Pairwise fun x y => adrB y x = false) ∧
      P = mergeV (bs2.zip ts2) (bu.zip tu) ∧ VSet w' lo g A' c' (P.map Prod.fst) (P.map Prod.snd) prop tot same ∧ OnlyR g (Value.slice A bs.length c).ownBlock w w' := by
  obtain ⟨i0, hi0, hz0, hz1, hz2⟩ := info_parts infoPVal
  have HI := Lib.hid hi0; have HZ0 := Lib.hid hz0; have HZ1 := Lib.hid hz1; have HZ2 := Lib.hid hz2
  clear hi0 hz0 hz1 hz2
  have h0 : w.cell? ⟨g, 0, none⟩ = some (.slice A bs.length c) := h.head.cell 0
  have KS := Lib.hid (sortA_any w h.vrow (by omega))
  have H := Lib.hid h; have HU := Lib.hid hu; have HDJ := Lib.hid hdj; have HAA := Lib.hid hAA
  clear h hu hdj hAA
  unfold ptrTo
  go_enter Tryz.func104, Tryz.ntmps104
  go_wp2_with fail
  refine KS.out.mono ?_
  rintro e w2 ⟨rfl, bs2, ts2, hp2, hl2, hl2', hs2, hv2, hg2⟩
  have hz2 : w.heap.size ≤ w2.heap.size := by obtain ⟨_, _, _, h4, _⟩ := hg2; exact h4
  have hu2 : VRow w2 lo Au cu bu tu := HU.out.grownO H.out.row hg2 HAA.out
  have HG2 := Lib.hid hg2
  have hhd := H.out.head.grown hg2 (own_ne_blk H.out.row H.out.head (by decide))
  have HHD := Lib.hid hhd; clear hhd
  have HV2 := Lib.hid hv2; have HU2 := Lib.hid hu2; have HP2 := Lib.hid hp2; have HS2 := Lib.hid hs2; have HL2 := Lib.hid hl2
  clear hu2 hp2 hs2 hv2 hg2
  go_wp2_with (refine wpList_make_full _ rfl (.tmp 20) (.tmp 20) 125 rfl w.heap.size 126 i0 _ 1 Tryz.underlying125 HI.out HZ0.out HZ1.out .i64 .i64 (bs.length + bu.length) (bs.length + bu.length) (bs.length + bu.length) rfl rfl rfl rfl ?b2 ?b3 ?b4 ?_; (case b2 => rw [HZ2.out]; omega); (case b3 => simp only [maxLen]; omega); (case b4 => exact hz2); intro w3 ho3 hg3; have HO3 := Lib.hid ho3; have HG3 := Lib.hid hg3; clear ho3 hg3)
  generalize (madeCells (Value.pointer none).cells ((bs.length + bu.length) * 1)).toList = old at *
  have hold : old.length = bs.length + bu.length := by have := HO3.out.1; simpa using this
  obtain ⟨N, hN⟩ : ∃ N, N = bs.length + bu.length := ⟨_, rfl⟩
  rw [← hN] at hold HO3 ⊢
  have hN2 : N ≤ 2000 := by omega
  have HNN := Lib.hid hN; clear hN
  obtain ⟨E0, hE0⟩ : ∃ E0, E0 = bs2.zip ts2 := ⟨_, rfl⟩
  obtain ⟨U0, hU0⟩ : ∃ U0, U0 = bu.zip tu := ⟨_, rfl⟩
  have hEl : E0.length = bs.length := by rw [hE0, List.length_zip, hl2, hl2', Nat.min_self]
  have hUl : U0.length = bu.length := by rw [hU0, List.length_zip, HU.out.len, Nat.min_self]
  have hrE : Rd w2 w2.heap.size 1 A E0.length (ptrs E0) := by
    have h1 := Rd.of_own HV2.out.row
    rw [hl2] at h1
    rw [hEl, ptrs_eq, hE0, List.map_fst_zip (by omega)]; exact h1
  have hrU : Rd w2 w2.heap.size 1 Au U0.length (ptrs U0) := by
    have h1 := Rd.of_own HU2.out.row
    rw [hUl, ptrs_eq, hU0, List.map_fst_zip (by have := HU.out.len; omega)]; exact h1
  have hval : ∀ p, p ∈ E0 ∨ p ∈ U0 → Blk w2 p.1 136 p.2.val ∧ p.2.ok w2 := fun p hp => by
    rcases hp with hp | hp
    · obtain ⟨j, hj⟩ := List.getElem?_of_mem hp
      rw [hE0, List.getElem?_zip_eq_some] at hj
      exact HV2.out.validator hj.1 hj.2
    · obtain ⟨j, hj⟩ := List.getElem?_of_mem hp
      rw [hU0, List.getElem?_zip_eq_some] at hj
      exact HU2.out.validator hj.1 hj.2
  have hb3 : Below w2.heap.size w2 w3 := (Below.refl w2.heap.size w2).grown HG3.out (Nat.le_refl _) (by simp)
  have HVAL := Lib.hid hval; have HB3 := Lib.hid hb3; have HRE := Lib.hid hrE; have HRU := Lib.hid hrU; have HOLD := Lib.hid hold; have HEL := Lib.hid hEl; have HUL := Lib.hid hUl
  have hcE : E0.length ≤ c := by have := own_capE HV2.out.row; omega
  have hcU : U0.length ≤ cu := by have := own_capE HU2.out.row; omega
  have HE0 := Lib.hid hE0; have HU0 := Lib.hid hU0; have HLE := Lib.hid (And.intro hl2 hl2')
  clear hval hb3 hrE hrU hold hE0 hU0 hl2 hl2'
  rw [← hEl, ← hUl]
  clear hEl hUl
  go_loopw [1, 4, 6] (fun v1 v4 v6 wr => ∃ (E U M : List (Nat × Tv)) (X Y : Option Addr) (cx cy : Nat), v4 = .slice X E.length cx ∧ v1 = .slice Y U.length cy ∧ v6 = .int .i64 M.length ∧ E.length ≤ cx ∧ U.length ≤ cy ∧ M.length + E.length + U.length ≤ N ∧ Hid (M ++ mergeV E U = mergeV E0 U0) ∧
      Hid (∀ p, (p ∈ E → p ∈ E0) ∧ (p ∈ U → p ∈ U0)) ∧ Hid (Rd w2 w2.heap.size 1 X E.length (ptrs E)) ∧ Hid (Rd w2 w2.heap.size 1 Y U.length (ptrs U)) ∧ Hid (wr.ownsRow w.heap.size 126 1 (.slice (some ⟨w2.heap.size, 0, none⟩) N N) N (overL (ptrs M) old)) ∧ Hid (Below w2.heap.size w2 wr)) (fun v1 v4 _ _ => (lenOf v1) + (lenOf v4))
  case atStart => exact ⟨E0, U0, [], A, Au, c, cu, rfl, rfl, rfl, hcE, hcU, by simp; have := HEL.out; have := HUL.out; have := HNN.out; omega, rfl, (fun p => ⟨id, id⟩), HRE.out, HRU.out, by show World.ownsRow _ _ _ _ _ _ _; simpa [overL, ptrs] using HO3.out, HB3.out⟩
  case round =>
    obtain ⟨E, U, M, X, Y, cx, cy, rfl, rfl, rfl, hcx, hcy, hMN, HMG, HMEM, HRX, HRY, HOM, HBL⟩ := hrel
    have hml : (ptrs M).length = M.length := by simp [ptrs]
    by_cases hex : E = [] ∨ U = []
    · have hmu : mergeV E U = E ++ U := by
        rcases hex with rfl | rfl
        · simp [mergeV]
        · simp [mergeV_nil]
      have hmg := HMG.out
      rw [hmu] at hmg
      have hg12 : E.length = 0 ∨ U.length = 0 := by
        rcases hex with rfl | rfl
        · exact .inl rfl
        · exact .inr rfl
      have HMG2 := Lib.hid hmg
      clear hmu hmg hex HMG
      generalize hl1 : E.length = n1 at *
      generalize hl2 : U.length = n2 at *
      have hl1' := Lib.hid hl1; have hl2' := Lib.hid hl2
      have hAB : (¬ 0 < n1) ∨ (0 < n1 ∧ ¬ 0 < n2) := by omega
      clear hg12
      rcases hAB with hA0 | ⟨hA0, hB0⟩
      all_goals
        obtain ⟨w9, rfl⟩ : ∃ x : World, x = wr := ⟨_, rfl⟩
        go_wp2
        go_loopw [6, 7] (fun v6 v7 wq => ∃ (j k6 : Nat), j ≤ n1 ∧ v7 = .int .i64 j ∧ v6 = .int .i64 k6 ∧ Hid (k6 = (M).length + j) ∧ Hid (wq.ownsRow w.heap.size 126 1 (.slice (some ⟨w2.heap.size, 0, none⟩) N N) N (overL (ptrs ((M) ++ (E).take j)) old)) ∧ Hid (Below w2.heap.size w2 wq)) (fun _ v7 _ => n1 - (intOf v7).toNat)
        case atStart => exact ⟨0, _, Nat.zero_le _, rfl, rfl, rfl, by show World.ownsRow _ _ _ _ _ _ _; rw [List.take_zero, List.append_nil]; exact HOM.out, HBL.out⟩
        case round =>
          obtain ⟨j, k6, hj, rfl, rfl, HK6, HOJ, HBJ⟩ := hrel
          have hk6 := HK6.out
          by_cases hjl : j < n1
          · (try (exfalso; omega))
            all_goals
              obtain ⟨⟨x1, t1⟩, hx1⟩ : ∃ p, (E)[j]? = some p := ⟨_, List.getElem?_eq_getElem (by omega)⟩
              obtain ⟨ax, hXe, bx, cx0⟩ := HRX.out.2 j (.pointer (some ⟨x1, 0, none⟩)) (by simp [ptrs, hx1])
              have c1 : wr.cell? (ax.add j) = some (.pointer (some ⟨x1, 0, none⟩)) := (HBJ.out.cell (by rw [show (ax.add j).block = ax.block from by unfold Addr.add; split <;> rfl]; exact bx)).trans cx0
              have hfz : ∀ i, wr.frozen? ⟨w2.heap.size, i, none⟩ = false := own_free HOJ.out
              have hjx := List.getElem?_eq_some_iff.1 hx1
              have hst : ((M) ++ (E).take (j + 1)) = ((M) ++ (E).take j) ++ [(x1, t1)] := by (rw [List.take_succ_eq_append_getElem hjx.1, hjx.2]; simp only [List.append_assoc])
              have hlp : (ptrs ((M) ++ (E).take j)).length = k6 := by (have hq := HK6.out; (try simp only [List.length_append] at hq); simp [ptrs]; omega)
              have hkN : k6 < N := by
                have hq := HK6.out
                (try simp only [List.length_append] at hq)
                omega
              have hov := overL_set (ptrs ((M) ++ (E).take j)) old (.pointer (some ⟨x1, 0, none⟩)) (by rw [hlp, HOLD.out]; exact hkN)
              rw [hlp] at hov
              obtain ⟨ov, hovv⟩ : ∃ ov, wr.cell? ⟨w2.heap.size, k6, none⟩ = some ov := by
                have := HOJ.out.cellAt k6 (by omega)
                exact ⟨_, this.trans (List.getElem?_eq_getElem (by have := HOJ.out.1; omega))⟩
              have hs6 := (HOJ.out.stored k6 (.pointer (some ⟨x1, 0, none⟩))).1
              rw [hov, ← ptrs_snoc _ (x1, t1), ← hst] at hs6
              have HS6 := Lib.hid hs6; have hb6 := HBJ.out.setCell (p := ⟨w2.heap.size, k6, none⟩) (Nat.le_refl _) (.pointer (some ⟨x1, 0, none⟩))
              have HB6 := Lib.hid hb6
              clear hs6 hb6 hov hst hlp hjx cx0 bx hx1 hk6
              subst hXe
              go_wp2
              go_roundw
              case rel => exact ⟨j + 1, k6 + 1, by omega, by go_num, by go_num, by have := HK6.out; show _ = _; omega, HS6.out, HB6.out⟩
              case measure => simp [intOf]; omega
          · obtain rfl : n1 = j := by omega
            have hte : E.take n1 = E := List.take_of_length_le (by have := hl1'.out; omega)
            have hoj := HOJ.out
            rw [hte] at hoj
            have HOE := Lib.hid hoj
            have hk6' : k6 = (M ++ E).length := by have := HK6.out; have := hl1'.out; simp; omega
            subst hk6'
            clear hoj hte HOJ HK6 hk6
            obtain ⟨w10, rfl⟩ : ∃ x : World, x = wr := ⟨_, rfl⟩
            go_wp2
            go_loopw [6, 8] (fun v6 v7 wq => ∃ (j k6 : Nat), j ≤ n2 ∧ v7 = .int .i64 j ∧ v6 = .int .i64 k6 ∧ Hid (k6 = (M ++ E).length + j) ∧ Hid (wq.ownsRow w.heap.size 126 1 (.slice (some ⟨w2.heap.size, 0, none⟩) N N) N (overL (ptrs ((M ++ E) ++ (U).take j)) old)) ∧ Hid (Below w2.heap.size w2 wq)) (fun _ v7 _ => n2 - (intOf v7).toNat)
            case atStart => exact ⟨0, _, Nat.zero_le _, rfl, rfl, rfl, by show World.ownsRow _ _ _ _ _ _ _; rw [List.take_zero, List.append_nil]; exact HOE.out, HBJ.out⟩
            case round =>
              obtain ⟨j, k6, hj, rfl, rfl, HK6, HOJ, HBJ⟩ := hrel
              have hk6 := HK6.out
              by_cases hjl : j < n2
              · (try (exfalso; omega))
                all_goals
                  obtain ⟨⟨x1, t1⟩, hx1⟩ : ∃ p, (U)[j]? = some p := ⟨_, List.getElem?_eq_getElem (by omega)⟩
                  obtain ⟨ax, hXe, bx, cx0⟩ := HRY.out.2 j (.pointer (some ⟨x1, 0, none⟩)) (by simp [ptrs, hx1])
                  have c1 : wr.cell? (ax.add j) = some (.pointer (some ⟨x1, 0, none⟩)) := (HBJ.out.cell (by rw [show (ax.add j).block = ax.block from by unfold Addr.add; split <;> rfl]; exact bx)).trans cx0
                  have hfz : ∀ i, wr.frozen? ⟨w2.heap.size, i, none⟩ = false := own_free HOJ.out
                  have hjx := List.getElem?_eq_some_iff.1 hx1
                  have hst : ((M ++ E) ++ (U).take (j + 1)) = ((M ++ E) ++ (U).take j) ++ [(x1, t1)] := by (rw [List.take_succ_eq_append_getElem hjx.1, hjx.2]; simp only [List.append_assoc])
                  have hlp : (ptrs ((M ++ E) ++ (U).take j)).length = k6 := by (have hq := HK6.out; (try simp only [List.length_append] at hq); simp [ptrs]; omega)
                  have hkN : k6 < N := by
                    have hq := HK6.out
                    (try simp only [List.length_append] at hq)
                    omega
                  have hov := overL_set (ptrs ((M ++ E) ++ (U).take j)) old (.pointer (some ⟨x1, 0, none⟩)) (by rw [hlp, HOLD.out]; exact hkN)
                  rw [hlp] at hov
                  obtain ⟨ov, hovv⟩ : ∃ ov, wr.cell? ⟨w2.heap.size, k6, none⟩ = some ov := by
                    have := HOJ.out.cellAt k6 (by omega)
                    exact ⟨_, this.trans (List.getElem?_eq_getElem (by have := HOJ.out.1; omega))⟩
                  have hs6 := (HOJ.out.stored k6 (.pointer (some ⟨x1, 0, none⟩))).1
                  rw [hov, ← ptrs_snoc _ (x1, t1), ← hst] at hs6
                  have HS6 := Lib.hid hs6; have hb6 := HBJ.out.setCell (p := ⟨w2.heap.size, k6, none⟩) (Nat.le_refl _) (.pointer (some ⟨x1, 0, none⟩))
                  have HB6 := Lib.hid hb6
                  clear hs6 hb6 hov hst hlp hjx cx0 bx hx1 hk6
                  subst hXe
                  go_wp2
                  go_roundw
                  case rel => exact ⟨j + 1, k6 + 1, by omega, by go_num, by go_num, by have := HK6.out; show _ = _; omega, HS6.out, HB6.out⟩
                  case measure => simp [intOf]; omega
              · obtain rfl : n2 = j := by omega
                have hhd := HHD.out.belowS HBJ.out
                have q0 : wr.cell? ⟨g, 0, none⟩ = some (.slice A bs.length c) := hhd.cell 0
                have f0 : wr.frozen? ⟨g, 0, none⟩ = false := hhd.free 0
                have hkN : k6 ≤ N := by (have hq := HK6.out; (try simp only [List.length_append] at hq); omega)
                go_wp2
                go_end0
                have hK : k6 = (mergeV E0 U0).length := by have hq := HK6.out; rw [← HMG2.out]; simp only [List.length_append] at hq ⊢; have := hl1'.out; have := hl2'.out; omega
                have hoF := HOJ.out
                rw [List.take_of_length_le (by have := hl2'.out; omega), List.append_assoc, HMG2.out] at hoF
                have hbs : ∀ b ∈ bs2, b ∉ bu := fun b hb => HDJ.out b (by
                  have h1 := HP2.out.map Prod.fst
                  rw [List.map_fst_zip (by have := HLE.out; omega), List.map_fst_zip (by have := H.out.len; omega)] at h1
                  exact h1.mem_iff.1 hb)
                have hlo : lo ≤ w.heap.size := by have := H.out.log; have := H.out.head.lt; omega
                have hPe : mergeV E0 U0 = mergeV (bs2.zip ts2) (bu.zip tu) := by rw [HE0.out, HU0.out]
                have hfin := app_fin HV2.out HU2.out hbs HBJ.out hhd H.out.log hlo (mergeV E0 U0) hPe (by omega) hoF
                rw [← hK] at hfin
                have hk7 : k6 = M.length + n1 + n2 := by have hq := HK6.out; simp only [List.length_append] at hq; have := hl1'.out; omega
                rw [hk7] at hfin
                refine ⟨rfl, _, _, mergeV E0 U0, bs2, ts2, HP2.out, HLE.out.1, HLE.out.2, HS2.out, hPe, hfin, ?_⟩
                obtain ⟨o1, o2, o3, o4, o5⟩ := HG2.out
                refine ⟨HBJ.out.os.trans o1, HBJ.out.tape.trans o2, HBJ.out.output.trans o3, by have := HBJ.out.size; simp [World.setCell]; omega, fun k hk hkg hkr => ?_, ((keepB_grownR HG2.out H.out.row).trans (KeepB.of_below HBJ.out)).trans (KeepB.setCell (p := ⟨g, 0, none⟩) hhd (by decide) _)⟩
                rw [Below.heap_setCell wr ⟨g, 0, none⟩ _ k hkg, HBJ.out.block k (by omega)]
                exact o5 k hk hkr
    have hEne : E ≠ [] := fun e => hex (.inl e)
    have hUne : U ≠ [] := fun e => hex (.inr e)
    clear hex
    cases E with
    | nil => exact absurd rfl hEne
    | cons e es =>
      cases U with
      | nil => exact absurd rfl hUne
      | cons u us =>
        obtain ⟨e1, t⟩ := e
        obtain ⟨u1, t'⟩ := u
        obtain ⟨ax, rfl, cx0, bx, htx⟩ := Rd.tail (r := ptrs es) HRX.out hcx
        obtain ⟨ay, rfl, cy0, by_, hty⟩ := Rd.tail (r := ptrs us) HRY.out hcy
        have hE1 := (HMEM.out (e1, t)).1 (by simp)
        have hU1 := (HMEM.out (u1, t')).2 (by simp)
        obtain ⟨hv1, hk1⟩ := HVAL.out _ (.inl hE1)
        obtain ⟨hv2, hk2⟩ := HVAL.out _ (.inr hU1)
        have hw1 := hv1.belowS HBL.out; have hw2 := hv2.belowS HBL.out
        have ho1 := hk1.keep (KeepB.of_below HBL.out); have ho2 := hk2.keep (KeepB.of_below HBL.out)
        have d0 : wr.cell? ⟨e1, 0, none⟩ = some (.slice t.A t.x.adr.size t.c) := hw1.cell 0
        have d1 : wr.cell? ⟨u1, 0, none⟩ = some (.slice t'.A t'.x.adr.size t'.c) := hw2.cell 0
        have c1 : wr.cell? ax = some (.pointer (some ⟨e1, 0, none⟩)) := (HBL.out.cell bx).trans cx0
        have c2 : wr.cell? ay = some (.pointer (some ⟨u1, 0, none⟩)) := (HBL.out.cell by_).trans cy0
        have KC := fun q => bcompare_any t.x.adr t'.x.adr t.A t'.A t.c t'.c (wr.drewN q) ho1.1 ho2.1
        have hmg := HMG.out
        have hst := HOM.out.stored M.length (.pointer (some ⟨e1, 0, none⟩))
        have hlm : M.length < N := by simp only [List.length_cons] at hMN; omega
        have hfz : ∀ i, wr.frozen? ⟨w2.heap.size, i, none⟩ = false := own_free HOM.out
        have hov : ∀ x : Nat, (overL (ptrs M) old).set M.length (.pointer (some ⟨x, 0, none⟩)) = overL (ptrs M ++ [.pointer (some ⟨x, 0, none⟩)]) old := fun x => by
          have := overL_set (ptrs M) old (.pointer (some ⟨x, 0, none⟩)) (by rw [hml, HOLD.out]; exact hlm)
          rwa [hml] at this
        obtain ⟨ov, hovv⟩ : ∃ ov, wr.cell? ⟨w2.heap.size, M.length, none⟩ = some ov := by
          have := HOM.out.cellAt M.length (by omega)
          exact ⟨_, this.trans (List.getElem?_eq_getElem (by have := HOM.out.1; omega))⟩
        simp only [List.length_cons] at *
        by_cases hab : adrB t.x t'.x = true
        · have hcb : Lib.compareBytes t.x.adr.data.toList t'.x.adr.data.toList < 0 := by
            have := (less_iff _ _).1 hab
            rwa [toList_data, toList_data] at this
          rw [mergeV, if_pos hab] at hmg
          have HMG2 := Lib.hid hmg
          have HW := Lib.hid hov
          clear hmg hov hab hst hw1 hw2 ho1 ho2 hv1 hv2 hk1 hk2 hE1 hU1 HMG
          go_wp2
          go_quiet ((exact quietL (KC _)))
          go_wp2
          exact ⟨⟨es, (u1, t') :: us, M ++ [(e1, t)], _, some ay, cx - 1, cy, rfl, by simp only [List.length_cons], by simp, by omega, by simp only [List.length_cons]; omega, by simp; omega, by show _ = _; rw [← HMG2.out]; simp, (fun p => ⟨fun hp => (HMEM.out p).1 (List.mem_cons_of_mem _ hp), (HMEM.out p).2⟩), htx, HRY.out, by have h1 := ((own_drewN HOM.out nq).stored M.length (.pointer (some ⟨e1, 0, none⟩))).1; rw [HW.out] at h1; show World.ownsRow _ _ _ _ _ _ _; rw [ptrs_snoc]; exact h1, (below_drewN HBL.out nq).setCell (p := ⟨w2.heap.size, M.length, none⟩) (Nat.le_refl _) _⟩, by simp [lenOf]⟩
        · have hcb : ¬ Lib.compareBytes t.x.adr.data.toList t'.x.adr.data.toList < 0 := fun hc => hab ((less_iff _ _).2 (by rw [toList_data, toList_data]; exact hc))
          cases hsm : t.x.adr.toList == t'.x.adr.toList with
          | true =>
            rw [mergeV, if_neg hab, if_pos hsm] at hmg
            have HMG2 := Lib.hid hmg; have HV1 := Lib.hid hv1; have HV2' := Lib.hid hv2; have HK1 := Lib.hid hk1; have HK2 := Lib.hid hk2; have HX0 := Lib.hid cx0; have HY0 := Lib.hid cy0; have HSM := Lib.hid hsm
            have HW := Lib.hid hov
            clear hmg hov hab hst hw1 hw2 ho1 ho2 hv1 hv2 hk1 hk2 hE1 hU1 HMG cx0 cy0 hsm
            go_wp2
            go_quiet ((exact quietL (KC _)))
            go_wp2
            have hb7 : Below w2.heap.size w2 ((wr.drewN nq).setCell ⟨w2.heap.size, M.length, none⟩ (.pointer (some ⟨u1, 0, none⟩))) := (below_drewN HBL.out nq).setCell (p := ⟨w2.heap.size, M.length, none⟩) (Nat.le_refl _) _
            have ho7 : World.ownsRow ((wr.drewN nq).setCell ⟨w2.heap.size, M.length, none⟩ (.pointer (some ⟨u1, 0, none⟩))) w.heap.size 126 1 (.slice (some ⟨w2.heap.size, 0, none⟩) N N) N (overL (ptrs (M ++ [(u1, t')])) old) := by have h1 := ((own_drewN HOM.out nq).stored M.length (.pointer (some ⟨u1, 0, none⟩))).1; rw [HW.out] at h1; show World.ownsRow _ _ _ _ _ _ _; rw [ptrs_snoc]; exact h1
            have HB7 := Lib.hid hb7; have HO7 := Lib.hid ho7
            clear hb7 ho7 c1 c2 d0 d1 hovv hfz KC
            generalize (wr.drewN nq).setCell ⟨w2.heap.size, M.length, none⟩ (.pointer (some ⟨u1, 0, none⟩)) = w7 at *
            have c1 : w7.cell? ax = some (.pointer (some ⟨e1, 0, none⟩)) := (HB7.out.cell bx).trans HX0.out
            have c2 : w7.cell? ay = some (.pointer (some ⟨u1, 0, none⟩)) := (HB7.out.cell by_).trans HY0.out
            have d0 : w7.cell? ⟨e1, 0, none⟩ = some (.slice t.A t.x.adr.size t.c) := (HV1.out.belowS HB7.out).cell 0
            have d1 : w7.cell? ⟨u1, 0, none⟩ = some (.slice t'.A t'.x.adr.size t'.c) := (HV2'.out.belowS HB7.out).cell 0
            have KQ := fun q => bequal_any t.x.adr t'.x.adr t.A t'.A t.c t'.c (w7.drewN q) ((HK1.out.keep (KeepB.of_below HB7.out)).drewN q).1 ((HK2.out.keep (KeepB.of_below HB7.out)).drewN q).1
            rw [HSM.out] at KQ
            go_quiet ((exact quietL (KQ _)))
            go_wp2
            exact ⟨⟨es, us, M ++ [(u1, t')], _, _, cx - 1, cy - 1, rfl, rfl, by simp, by omega, by omega, by simp; omega, by show _ = _; rw [← HMG2.out]; simp, (fun p => ⟨fun hp => (HMEM.out p).1 (List.mem_cons_of_mem _ hp), fun hp => (HMEM.out p).2 (List.mem_cons_of_mem _ hp)⟩), htx, hty, own_drewN HO7.out _, below_drewN HB7.out _⟩, by simp [lenOf]; omega⟩
          | false =>
            rw [mergeV, if_neg hab, if_neg (by rw [hsm]; simp)] at hmg
            have HMG2 := Lib.hid hmg; have HV1 := Lib.hid hv1; have HV2' := Lib.hid hv2; have HK1 := Lib.hid hk1; have HK2 := Lib.hid hk2; have HX0 := Lib.hid cx0; have HY0 := Lib.hid cy0; have HSM := Lib.hid hsm
            have HW := Lib.hid hov
            clear hmg hov hab hst hw1 hw2 ho1 ho2 hv1 hv2 hk1 hk2 hE1 hU1 HMG cx0 cy0 hsm
            go_wp2
            go_quiet ((exact quietL (KC _)))
            go_wp2
            have hb7 : Below w2.heap.size w2 ((wr.drewN nq).setCell ⟨w2.heap.size, M.length, none⟩ (.pointer (some ⟨u1, 0, none⟩))) := (below_drewN HBL.out nq).setCell (p := ⟨w2.heap.size, M.length, none⟩) (Nat.le_refl _) _
            have ho7 : World.ownsRow ((wr.drewN nq).setCell ⟨w2.heap.size, M.length, none⟩ (.pointer (some ⟨u1, 0, none⟩))) w.heap.size 126 1 (.slice (some ⟨w2.heap.size, 0, none⟩) N N) N (overL (ptrs (M ++ [(u1, t')])) old) := by have h1 := ((own_drewN HOM.out nq).stored M.length (.pointer (some ⟨u1, 0, none⟩))).1; rw [HW.out] at h1; show World.ownsRow _ _ _ _ _ _ _; rw [ptrs_snoc]; exact h1
            have HB7 := Lib.hid hb7; have HO7 := Lib.hid ho7
            clear hb7 ho7 c1 c2 d0 d1 hovv hfz KC
            generalize (wr.drewN nq).setCell ⟨w2.heap.size, M.length, none⟩ (.pointer (some ⟨u1, 0, none⟩)) = w7 at *
            have c1 : w7.cell? ax = some (.pointer (some ⟨e1, 0, none⟩)) := (HB7.out.cell bx).trans HX0.out
            have c2 : w7.cell? ay = some (.pointer (some ⟨u1, 0, none⟩)) := (HB7.out.cell by_).trans HY0.out
            have d0 : w7.cell? ⟨e1, 0, none⟩ = some (.slice t.A t.x.adr.size t.c) := (HV1.out.belowS HB7.out).cell 0
            have d1 : w7.cell? ⟨u1, 0, none⟩ = some (.slice t'.A t'.x.adr.size t'.c) := (HV2'.out.belowS HB7.out).cell 0
            have KQ := fun q => bequal_any t.x.adr t'.x.adr t.A t'.A t.c t'.c (w7.drewN q) ((HK1.out.keep (KeepB.of_below HB7.out)).drewN q).1 ((HK2.out.keep (KeepB.of_below HB7.out)).drewN q).1
            rw [HSM.out] at KQ
            go_quiet ((exact quietL (KQ _)))
            go_wp2
            exact ⟨⟨(e1, t) :: es, us, M ++ [(u1, t')], some ax, _, cx, cy - 1, by simp only [List.length_cons], rfl, by simp, by simp only [List.length_cons]; omega, by omega, by simp; omega, by show _ = _; rw [← HMG2.out]; simp, (fun p => ⟨(HMEM.out p).1, fun hp => (HMEM.out p).2 (List.mem_cons_of_mem _ hp)⟩), HRX.out, hty, own_drewN HO7.out _, below_drewN HB7.out _⟩, by simp [lenOf]⟩
end Go.Proofs.YtikikddkhikfkaaGreatDoor
