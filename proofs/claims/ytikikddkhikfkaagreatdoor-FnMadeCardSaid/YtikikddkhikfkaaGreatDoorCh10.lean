/-
  validatorListCopy over a slice of validators: the walk. By the session.
-/
import Derived.Test.YtikikddkhikfkaaGreatDoorCh9
import Derived.Test.YtikikddkhikfkaaGreatDoorCh2
set_option linter.all false
namespace Go.Proofs.YtikikddkhikfkaaGreatDoor
open Go.RowKit

set_option maxRecDepth 100000 in
set_option maxHeartbeats 3200000 in
theorem rowCopy_any (lo : Nat) (A : Option Addr) (c : Nat) (bs : List Nat) (ts : List Tv) (w : World) (h : VRow w lo A c bs ts) (hn : bs.length ≤ 1000000) (hA : A ≠ none) :
    Calls Tryz.prog 130 #[.slice A bs.length c] w fun e w' => ∃ (A' : Option Addr) (c' : Nat) (bs' : List Nat), bs'.length = bs.length ∧ e = .returned (.slice A' bs.length c') ∧ w'.ownsRow w.heap.size 126 1 (.slice A' bs.length c') bs.length (bs'.map ptrTo) ∧ bs'.Nodup ∧
      (∀ (j b : Nat) (t : Tv), bs'[j]? = some b → ts[j]? = some t → w.heap.size ≤ b ∧ Blk w' b 136 t.val) ∧ Below w.heap.size w w' := by
  obtain ⟨i0, hi0, hz0, hz1, hz2⟩ := info_parts infoPVal
  have HI := Lib.hid hi0; have HZ0 := Lib.hid hz0; have HZ1 := Lib.hid hz1; have HZ2 := Lib.hid hz2
  clear hi0 hz0 hz1 hz2
  obtain ⟨r, rfl⟩ : ∃ r, A = some ⟨r, 0, none⟩ := by
    rcases h.row.2 with ⟨e, _⟩ | ⟨g', cap, cur, hv, _⟩
    · injection e with e; exact absurd e hA
    · injection hv with hv; exact ⟨g', hv⟩
  have H := Lib.hid h; clear h hA
  have hnil := fun W => Lib.run_eql_slice_nil (P := Tryz.prog) W 125 126 (some ⟨r, 0, none⟩) bs.length c 0 0 Tryz.underlying125
  go_enter Tryz.func130, Tryz.ntmps130
  go_wp2_with (refine wpList_make_full _ rfl (.tmp 9) (.tmp 9) 125 rfl w.heap.size 126 i0 _ 1 Tryz.underlying125 HI.out HZ0.out HZ1.out .i64 .i64 bs.length bs.length bs.length rfl rfl rfl rfl ?b2 ?b3 (Nat.le_refl _) ?_; (case b2 => rw [HZ2.out]; omega); (case b3 => simp only [maxLen]; omega); intro w1 hown hg1; have HO1 := Lib.hid hown; have HB1 := Lib.hid ((Below.refl w.heap.size w).grown hg1 (Nat.le_refl _) (by simp)); clear hown hg1)
  generalize (madeCells (Value.pointer none).cells (bs.length * 1)).toList = old at *
  have hold : old.length = bs.length := by have := HO1.out.1; simpa using this
  have HOLD := Lib.hid hold; clear hold
  go_loopw [13] (fun i wr => ∃ (k : Nat) (bs' : List Nat), k ≤ bs.length ∧ i = .int .i64 k ∧ Hid (bs'.length = k) ∧ Hid (wr.ownsRow w.heap.size 126 1 (.slice (some ⟨w.heap.size, 0, none⟩) bs.length bs.length) bs.length (overL (bs'.map ptrTo) old)) ∧ Hid (bs'.Nodup) ∧
      Hid (∀ (j b : Nat) (t : Tv), bs'[j]? = some b → ts[j]? = some t → w.heap.size ≤ b ∧ b < wr.heap.size ∧ Blk wr b 136 t.val) ∧ Hid (Below w.heap.size w wr)) (fun i _ => bs.length - (intOf i).toNat)
  case atStart => exact ⟨0, [], Nat.zero_le _, rfl, rfl, (by have h1 := HO1.out; show World.ownsRow _ _ _ _ _ _ _; simpa [overL] using h1), List.nodup_nil, (fun j b t h => by simp at h), HB1.out⟩
  case round =>
    obtain ⟨k, bs', hk, rfl, HLB, HO, HN, HV, HB⟩ := hrel
    by_cases hlt : k < bs.length
    · have hv := H.out.keep (KeepV.of_below lo HB.out (Nat.le_refl _))
      obtain ⟨b, t, hb, ht⟩ := hv.at_ hlt
      obtain ⟨r', hr', _, hp⟩ := hv.ptr hb
      have hr2 : r' = r := by injection hr' with e; injection e with e; exact e.symm
      subst hr2
      obtain ⟨_, hbv, hok⟩ := hv.vals k b t hb ht
      have kc := vcopy_any b t wr hbv
      unfold ptrTo at kc
      have KC := Lib.hid kc; clear kc
      have hst := HO.out.alloc (.cells t.val 136)
      have hf := own_free hst
      have hbl := HB.out.size
      have hlk : (bs'.map ptrTo).length = k := by rw [List.length_map]; exact HLB.out
      have hko : k < old.length := by rw [HOLD.out]; exact hlt
      have hgk : (overL (bs'.map ptrTo) old)[k]? = some old[k] := by
        unfold overL
        rw [List.getElem?_append_right (by omega), hlk, Nat.sub_self, List.getElem?_drop]
        simp
      have hck := hst.cells (g := w.heap.size) rfl k _ hgk
      rw [add_flat, Nat.zero_add] at hck
      have hsto := (hst.stored k (ptrTo wr.heap.size)).1
      have hov : (overL (bs'.map ptrTo) old).set k (ptrTo wr.heap.size) = overL ((bs' ++ [wr.heap.size]).map ptrTo) old := by
        have := overL_set (bs'.map ptrTo) old (ptrTo wr.heap.size) (by omega)
        rw [hlk] at this
        rw [this]; simp
      rw [hov] at hsto
      generalize old[k] = ov at *
      have HSTO := Lib.hid hsto
      have hne : ∀ b', Blk wr b' 136 t.val → True := fun _ _ => trivial
      have HBV := Lib.hid hbv; have HT := Lib.hid ht
      clear hr' hb ht hbv hok hv hst hsto hov hgk hlk hko hne
      go_wp2_with (go_at_call 112; refine KC.out.mono ?_; rintro e w5 ⟨rfl, rfl⟩)
      go_roundw
      case rel =>
        refine ⟨k + 1, bs' ++ [wr.heap.size], by omega, by go_num, ?_, HSTO.out, ?_, ?_, (HB.out.alloc hbl _).setCell (p := ⟨w.heap.size, k, none⟩) (Nat.le_refl _) _⟩
        · show _ = _
          rw [List.length_append, HLB.out]; rfl
        · show List.Nodup _
          rw [List.nodup_append]
          refine ⟨HN.out, by simp, fun a ha b' hb' => ?_⟩
          obtain ⟨j, hj, rfl⟩ := List.getElem_of_mem ha
          have hjt : j < ts.length := by have := H.out.len; have := HLB.out; omega
          have := (HV.out j _ _ (List.getElem?_eq_getElem hj) (List.getElem?_eq_getElem hjt)).2.1
          rw [List.mem_singleton] at hb'
          omega
        · intro j b' t' hb' ht'
          have hsz : ((wr.alloc (.cells t.val 136)).setCell ⟨w.heap.size, k, none⟩ (.pointer (some ⟨wr.heap.size, 0, none⟩))).heap.size = wr.heap.size + 1 := by simp [World.setCell]
          rw [List.getElem?_append] at hb'
          split at hb'
          · obtain ⟨h1, h2, h3⟩ := HV.out j b' t' hb' ht'
            have hne : b' ≠ w.heap.size := by
              intro e
              rcases HO.out.2 with ⟨h4, _⟩ | ⟨g', cap, cur, h4, _, hh, _⟩
              · cases h4
              · cases h4
                rw [e] at h3
                unfold Blk at h3
                rw [hh] at h3
                injection h3 with h3; injection h3 with _ h3; cases h3
            exact ⟨h1, by show b' < _; rw [hsz]; omega, (h3.alloc _).far (p := ⟨w.heap.size, k, none⟩) hne _⟩
          · have hj : j = k := by
              have := (List.getElem?_eq_some_iff.1 hb').1
              have := HLB.out
              simp at *; omega
            subst hj
            have e1 : b' = wr.heap.size := by rw [HLB.out, Nat.sub_self] at hb'; simpa using hb'.symm
            subst e1
            have e2 : t' = t := by have := HT.out; rw [this] at ht'; exact (Option.some.inj ht').symm
            subst e2
            exact ⟨hbl, by show wr.heap.size < _; rw [hsz]; omega, (Blk.new wr _ _).far (p := ⟨w.heap.size, j, none⟩) (by show wr.heap.size ≠ w.heap.size; have := HO.out.form (show 0 < bs.length by omega); obtain ⟨g', cap', hv', _, hl'⟩ := this; injection hv' with hv'; injection hv' with hv'; injection hv' with hv'; omega) _⟩
      case measure => simp [intOf]; omega
    · obtain rfl : k = bs.length := by omega
      have ho := HO.out
      rw [overL_full _ _ (by rw [HOLD.out, List.length_map, HLB.out]; exact Nat.le_refl _)] at ho
      have HF := Lib.hid ho; clear ho
      go_wp2
      go_ret
      exact ⟨_, _, bs', HLB.out, rfl, HF.out, HN.out, (fun j b t hb ht => ⟨(HV.out j b t hb ht).1, (HV.out j b t hb ht).2.2⟩), HB.out⟩

/-- the copy as a slice of validators of its own -/
theorem vcopies_any (lo : Nat) (A : Option Addr) (c : Nat) (bs : List Nat) (ts : List Tv) (w : World) (h : VRow w lo A c bs ts) (hn : bs.length ≤ 1000000) (hA : A ≠ none) :
    Calls Tryz.prog 130 #[.slice A bs.length c] w fun e w' => ∃ (A' : Option Addr) (c' : Nat) (bs' : List Nat), bs'.length = bs.length ∧ e = .returned (.slice A' bs'.length c') ∧ VRow w' w.heap.size A' c' bs' ts ∧ Below w.heap.size w w' := by
  refine (rowCopy_any lo A c bs ts w h hn hA).mono ?_
  rintro e w' ⟨A', c', bs', hl, rfl, h1, h2, h3, h4⟩
  rw [← hl] at h1
  refine ⟨A', c', bs', hl, by rw [hl], ⟨h1, by rw [hl]; exact h.len, h2, fun j b t hb ht => ?_⟩, h4⟩
  obtain ⟨g1, g2⟩ := h3 j b t hb ht
  have hj : j < bs.length := by rw [← h.len]; exact (List.getElem?_eq_some_iff.1 ht).1
  have hok := (h.vals j _ t (List.getElem?_eq_getElem hj) ht).2.2
  exact ⟨g1, g2, hok.keep (KeepB.of_below h4)⟩
end Go.Proofs.YtikikddkhikfkaaGreatDoor
