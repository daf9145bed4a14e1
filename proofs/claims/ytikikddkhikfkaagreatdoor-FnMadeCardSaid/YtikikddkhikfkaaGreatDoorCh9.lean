/-
  types.Seats and impl.ours: walks. By the session. impl.Scaled and spec.Scaled: walks. By the session. IncrementProposerPriority: the walk. By the session. Validator.Copy, GetProposer, impl.first, impl.Turned: walks. By the session. validatorListCopy, ValidatorSet.Copy, CopyIncrementProposerPriority, impl.Copied: walks. By the session. The set's power, and its turns, where only the power of all is bounded (2^60-1). Printed by gen_wide.py out of XTot, XIncr. By the session. spec.average: walks. By the session. spec.Shifted: the walk. By the session.
-/
import Derived.Test.YtikikddkhikfkaaGreatDoorCh7
import Derived.Test.YtikikddkhikfkaaGreatDoorCh6
import Derived.Test.YtikikddkhikfkaaGreatDoorCh3
import Derived.RegionTactic
import Derived.Deep.RegionHeld3
import Derived.Test.YtikikddkhikfkaaGreatDoorCh8
import Derived.WalkSpells
set_option linter.unusedSimpArgs false
namespace Go.Proofs.YtikikddkhikfkaaGreatDoor
open Go.RowKit

set_option maxRecDepth 100000 in
set_option maxHeartbeats 3200000 in
theorem tseats_any (lo g : Nat) (A : Option Addr) (c : Nat) (bs : List Nat) (ts : List Tv) (prop : Value) (tot : Int) (same : Bool) (w : World) (h : VSet w lo g A c bs ts prop tot same) (hn : bs.length ≤ 1000000) :
    Calls Tryz.prog 66 #[ptrTo g] w fun e w' => ∃ (A' : Option Addr) (c' : Nat), e = .returned (.slice A' bs.length c') ∧ Rd w' w'.heap.size 4 A' bs.length (ts.flatMap Tv.seat) ∧ Below w.heap.size w w' := by
  unfold ptrTo
  obtain ⟨i0, hi0, hz0, hz1, hz2⟩ := info_parts infoTSeat
  have HI := Lib.hid hi0; have HZ0 := Lib.hid hz0; have HZ1 := Lib.hid hz1; have HZ2 := Lib.hid hz2
  clear hi0 hz0 hz1 hz2
  have h0 : w.cell? ⟨g, 0, none⟩ = some (.slice A bs.length c) := h.head.cell 0
  have H := Lib.hid h; clear h
  go_enter Tryz.func66, Tryz.ntmps66
  go_wp2
  go_loopw [3, 11] (fun v i wr => ∃ (k : Nat) (A1 : Option Addr) (c1 : Nat), k ≤ bs.length ∧ i = .int .i64 k ∧ v = .slice A1 k c1 ∧ Hid (wr.ownsRow w.heap.size 130 4 (.slice A1 k c1) k ((ts.take k).flatMap Tv.seat)) ∧ Hid (Below w.heap.size w wr)) (fun _ i _ => bs.length - (intOf i).toNat)
  case atStart => exact ⟨0, none, 0, Nat.zero_le _, rfl, rfl, World.ownsRow_nil _ _ _ _, Below.refl _ _⟩
  case round =>
    obtain ⟨k, A1, c1, hk, rfl, rfl, HO, HB⟩ := hrel
    have hz := HB.out.size
    by_cases hlt : k < bs.length
    · have hv := H.out.keep (KeepV.of_below lo HB.out (Nat.le_refl _))
      obtain ⟨b, t, hb, ht⟩ := hv.at_ hlt
      obtain ⟨r, rfl, _, hp⟩ := hv.ptr hb
      obtain ⟨_, hbv, hok⟩ := hv.vals k b t hb ht
      obtain ⟨d0, d1, d2, d3⟩ := t.val_cells hbv
      have hst : ts.take (k + 1) = ts.take k ++ [t] := by
        have h1 := List.getElem?_eq_some_iff.1 ht
        rw [List.take_succ_eq_append_getElem h1.1, h1.2]
      have hbl := hbv.lt
      have HST := Lib.hid hst; have HBV := Lib.hid hbv; have HBB := Lib.hid hb; have HTT := Lib.hid ht; have HVV := Lib.hid hv; have HOK := Lib.hid hok
      clear hst hbv hb ht hv hok
      have km := fun W => method_bytes t.K t.A t.x.key.size t.d t.x.adr.size t.c W
      go_wp2_with fail
      have HS : Hid ((fun w' : World => w'.cell? ⟨b, 0, none⟩ = some (.slice t.A t.x.adr.size t.c) ∧ w'.cell? ⟨b, 1, none⟩ = some (.iface 132 (.agg #[.slice t.K t.x.key.size t.d, .slice t.A t.x.adr.size t.c, .bool false])) ∧ w'.cell? ⟨b, 2, none⟩ = some (.int .i64 t.x.pow) ∧ w'.cell? ⟨b, 3, none⟩ = some (.int .i64 t.x.pri)) wr.drew) := Lib.hid ⟨d0, d1, d2, d3⟩
      refine wp_region_L (fun w' : World => w'.cell? ⟨b, 0, none⟩ = some (.slice t.A t.x.adr.size t.c) ∧ w'.cell? ⟨b, 1, none⟩ = some (.iface 132 (.agg #[.slice t.K t.x.key.size t.d, .slice t.A t.x.adr.size t.c, .bool false])) ∧ w'.cell? ⟨b, 2, none⟩ = some (.int .i64 t.x.pow) ∧ w'.cell? ⟨b, 3, none⟩ = some (.int .i64 t.x.pri)) 21 (by kernel_rfl) ?_
      refine wpAnyL_take 0 (v := .slice A1 k c1) rfl (by kernel_rfl) (fun _ _ _ h => h) (yields_in rfl (fun w' hw' => by obtain ⟨y0, y1, y2, y3⟩ := hw'; go_simp)) HS.out ?_
      simp only [Act.put, List.setIfInBounds_toArray, List.set_cons_zero, List.set_cons_succ]
      refine wpAnyL_take 1 (v := .pointer (some ⟨b, 0, none⟩)) rfl (by kernel_rfl) (fun _ _ _ h => h) (yields_in rfl (fun w' hw' => by obtain ⟨y0, y1, y2, y3⟩ := hw'; go_simp)) HS.out ?_
      simp only [Act.put, List.setIfInBounds_toArray, List.set_cons_zero, List.set_cons_succ]
      refine wpAnyL_take 2 (v := .pointer (some ⟨b, 0, none⟩)) rfl (by kernel_rfl) (fun _ _ _ h => h) (yields_in rfl (fun w' hw' => by obtain ⟨y0, y1, y2, y3⟩ := hw'; go_simp)) HS.out ?_
      simp only [Act.put, List.setIfInBounds_toArray, List.set_cons_zero, List.set_cons_succ]
      refine wpAnyL_take 3 (v := .pointer (some ⟨b, 0, none⟩)) rfl (by kernel_rfl) (fun _ _ _ h => h) (yields_in rfl (fun w' hw' => by obtain ⟨y0, y1, y2, y3⟩ := hw'; go_simp)) HS.out ?_
      simp only [Act.put, List.setIfInBounds_toArray, List.set_cons_zero, List.set_cons_succ]
      refine wpAnyL_take 4 (v := .slice t.A t.x.adr.size t.c) rfl (by kernel_rfl) (fun _ _ _ h => h) (yields_in rfl (fun w' hw' => by obtain ⟨y0, y1, y2, y3⟩ := hw'; go_simp)) HS.out ?_
      simp only [Act.put, List.setIfInBounds_toArray, List.set_cons_zero, List.set_cons_succ]
      refine wpAnyL_take 5 (v := .pointer (some ⟨b, 0, none⟩)) rfl (by kernel_rfl) (fun _ _ _ h => h) (yields_in rfl (fun w' hw' => by obtain ⟨y0, y1, y2, y3⟩ := hw'; go_simp)) HS.out ?_
      simp only [Act.put, List.setIfInBounds_toArray, List.set_cons_zero, List.set_cons_succ]
      refine wpAnyL_take 6 (v := .pointer (some ⟨b, 0, none⟩)) rfl (by kernel_rfl) (fun _ _ _ h => h) (yields_in rfl (fun w' hw' => by obtain ⟨y0, y1, y2, y3⟩ := hw'; go_simp)) HS.out ?_
      simp only [Act.put, List.setIfInBounds_toArray, List.set_cons_zero, List.set_cons_succ]
      refine wpAnyL_take 7 (v := .pointer (some ⟨b, 1, none⟩)) rfl (by kernel_rfl) (fun _ _ _ h => h) (yields_in rfl (fun w' hw' => by obtain ⟨y0, y1, y2, y3⟩ := hw'; go_simp)) HS.out ?_
      simp only [Act.put, List.setIfInBounds_toArray, List.set_cons_zero, List.set_cons_succ]
      refine wpAnyL_take 8 (v := .iface 132 (.agg #[.slice t.K t.x.key.size t.d, .slice t.A t.x.adr.size t.c, .bool false])) rfl (by kernel_rfl) (fun _ _ _ h => h) (yields_in rfl (fun w' hw' => by obtain ⟨y0, y1, y2, y3⟩ := hw'; go_simp)) HS.out ?_
      simp only [Act.put, List.setIfInBounds_toArray, List.set_cons_zero, List.set_cons_succ]
      refine wpAnyL_take 10 (v := .pointer (some ⟨b, 0, none⟩)) rfl (by kernel_rfl) (fun _ _ _ h => h) (yields_in rfl (fun w' hw' => by obtain ⟨y0, y1, y2, y3⟩ := hw'; go_simp)) HS.out ?_
      simp only [Act.put, List.setIfInBounds_toArray, List.set_cons_zero, List.set_cons_succ]
      refine wpAnyL_take 11 (v := .pointer (some ⟨b, 0, none⟩)) rfl (by kernel_rfl) (fun _ _ _ h => h) (yields_in rfl (fun w' hw' => by obtain ⟨y0, y1, y2, y3⟩ := hw'; go_simp)) HS.out ?_
      simp only [Act.put, List.setIfInBounds_toArray, List.set_cons_zero, List.set_cons_succ]
      refine wpAnyL_take 12 (v := .pointer (some ⟨b, 2, none⟩)) rfl (by kernel_rfl) (fun _ _ _ h => h) (yields_in rfl (fun w' hw' => by obtain ⟨y0, y1, y2, y3⟩ := hw'; go_simp)) HS.out ?_
      simp only [Act.put, List.setIfInBounds_toArray, List.set_cons_zero, List.set_cons_succ]
      refine wpAnyL_take 13 (v := .int .i64 t.x.pow) rfl (by kernel_rfl) (fun _ _ _ h => h) (yields_in rfl (fun w' hw' => by obtain ⟨y0, y1, y2, y3⟩ := hw'; go_simp)) HS.out ?_
      simp only [Act.put, List.setIfInBounds_toArray, List.set_cons_zero, List.set_cons_succ]
      refine wpAnyL_take 14 (v := .pointer (some ⟨b, 0, none⟩)) rfl (by kernel_rfl) (fun _ _ _ h => h) (yields_in rfl (fun w' hw' => by obtain ⟨y0, y1, y2, y3⟩ := hw'; go_simp)) HS.out ?_
      simp only [Act.put, List.setIfInBounds_toArray, List.set_cons_zero, List.set_cons_succ]
      refine wpAnyL_take 15 (v := .pointer (some ⟨b, 0, none⟩)) rfl (by kernel_rfl) (fun _ _ _ h => h) (yields_in rfl (fun w' hw' => by obtain ⟨y0, y1, y2, y3⟩ := hw'; go_simp)) HS.out ?_
      simp only [Act.put, List.setIfInBounds_toArray, List.set_cons_zero, List.set_cons_succ]
      refine wpAnyL_take 16 (v := .pointer (some ⟨b, 3, none⟩)) rfl (by kernel_rfl) (fun _ _ _ h => h) (yields_in rfl (fun w' hw' => by obtain ⟨y0, y1, y2, y3⟩ := hw'; go_simp)) HS.out ?_
      simp only [Act.put, List.setIfInBounds_toArray, List.set_cons_zero, List.set_cons_succ]
      refine wpAnyL_take 17 (v := .int .i64 t.x.pri) rfl (by kernel_rfl) (fun _ _ _ h => h) (yields_in rfl (fun w' hw' => by obtain ⟨y0, y1, y2, y3⟩ := hw'; go_simp)) HS.out ?_
      simp only [Act.put, List.setIfInBounds_toArray, List.set_cons_zero, List.set_cons_succ]
      refine wpAnyL_one 9 rfl (by kernel_rfl) rfl ?_
      go_simp
      refine (kbytes_any _ _ _ _ _ _ _).mono ?_
      rintro e w1 ⟨rfl, hb1⟩
      have HB1 := Lib.hid hb1; clear hb1
      have hz1 : wr.heap.size ≤ w1.heap.size := HB1.out.size
      have hv1 := HBV.out.drew.belowS HB1.out
      have HV1 := Lib.hid hv1; clear hv1
      refine ⟨⟨HV1.out.cell 0, HV1.out.cell 1, HV1.out.cell 2, HV1.out.cell 3⟩, ?_⟩
      refine wpAnyL_one 18 rfl (by kernel_rfl) rfl ?_
      go_simp
      refine ⟨⟨HV1.out.cell 0, HV1.out.cell 1, HV1.out.cell 2, HV1.out.cell 3⟩, ?_⟩
      refine wpAnyL_one 19 rfl (by kernel_rfl) rfl ?_
      go_simp
      have HV2 := Lib.hid (HV1.out.alloc (.cells #[.slice t.A t.x.adr.size t.c, .slice t.K t.x.key.size t.d, .int .i64 t.x.pow, .int .i64 t.x.pri] 130))
      refine ⟨⟨HV2.out.cell 0, HV2.out.cell 1, HV2.out.cell 2, HV2.out.cell 3⟩, ?_⟩
      refine wpAnyL_one 20 rfl (by kernel_rfl) rfl ?_
      refine wp_app _ (.tmp 15) (.tmp 34) 77 rfl w.heap.size 130 i0 _ 4 64 Tryz.underlying77 HI.out HZ0.out HZ1.out HZ2.out rfl (by decide) (.slice A1 k c1) k ((ts.take k).flatMap Tv.seat) rfl ?ho (w1.heap.size + 1) (some ⟨w1.heap.size, 0, none⟩) 1 1 t.seat rfl ?hr (Tv.seat_one _) ?q1 ?q2 ?hb ?_
      case q1 => simp only [maxLen]; omega
      case q2 => omega
      case hr => exact (Rd.new _ _ _ 4 1 _ rfl rfl)
      case ho => exact (own_below (own_below (own_drewN HO.out 1) HB1.out (Nat.le_refl _)) ((Below.refl _ _).alloc (Nat.le_refl _) _) (Nat.le_refl _))
      case hb => simp; omega
      intro A2 c2 w2 hown2 hg2 hat2
      rw [flat_snoc] at hown2
      have HO2 := Lib.hid hown2; clear hown2
      have HG2 := Lib.hid hg2; clear hg2
      have HV3 := Lib.hid (HV2.out.grown HG2.out (own_ne_blk HO.out HBV.out (by decide)))
      refine ⟨fun _ => ⟨HV3.out.cell 0, HV3.out.cell 1, HV3.out.cell 2, HV3.out.cell 3⟩, ?_⟩
      simp only [Act.put, List.setIfInBounds_toArray, List.set_cons_zero, List.set_cons_succ]
      refine wpAnyL_one 21 rfl (by kernel_rfl) rfl ?_
      go_simp
      refine wpAnyL_done (by kernel_rfl) ?_ _
      go_wp2
      go_roundw
      case rel =>
        refine ⟨k + 1, A2, c2, by omega, by go_num, rfl, ?_, ?_⟩
        · rw [HST.out]; exact HO2.out
        · exact ((HB.out.drew.trans (HB1.out.mono hz)).alloc (by omega) _).grown HG2.out (by simp; omega) (own_base HO.out)
      case measure => simp [intOf]; omega
    · have hkn : k = bs.length := by omega
      subst hkn
      go_wp2_with fail
      go_ret
      refine ⟨A1, c1, rfl, ?_, HB.out⟩
      have h1 := Rd.of_own HO.out
      rw [List.take_of_length_le (by have := H.out.len; omega)] at h1
      exact h1

set_option maxRecDepth 100000 in
set_option maxHeartbeats 3200000 in
theorem ours_any (lo g : Nat) (A : Option Addr) (c : Nat) (bs : List Nat) (ts : List Tv) (prop : Value) (tot : Int) (same : Bool) (w : World) (h : VSet w lo g A c bs ts prop tot same) (hn : bs.length ≤ 1000000) :
    Calls Tryz.prog 36 #[ptrTo g] w fun e w' => ∃ (A' : Option Addr) (c' : Nat), e = .returned (.slice A' bs.length c') ∧ Rd w' w'.heap.size 4 A' bs.length (cellsOf (ts.map Tv.x)) ∧ Below w.heap.size w w' := by
  have hc := tseats_any lo g A c bs ts prop tot same w h hn
  obtain ⟨i0, hi0, hz0, hz1, hz2⟩ := info_parts infoISeat
  have HI := Lib.hid hi0; have HZ0 := Lib.hid hz0; have HZ1 := Lib.hid hz1; have HZ2 := Lib.hid hz2
  clear hi0 hz0 hz1 hz2
  have hlen : bs.length = ts.length := h.len.symm
  have hok : ∀ t ∈ ts, t.ok w := fun t ht => by
    obtain ⟨j, hj, rfl⟩ := List.getElem_of_mem ht
    exact (h.vals j _ _ (List.getElem?_eq_getElem (by omega)) (List.getElem?_eq_getElem hj)).2.2
  have HL := Lib.hid hlen; have HOK := Lib.hid hok; have HC := Lib.hid hc
  clear h hlen hok hc
  unfold ptrTo
  go_enter Tryz.func36, Tryz.ntmps36
  go_wp2_with (refine HC.out.mono ?_; rintro e w1 ⟨A1, c1, rfl, hr1, hb1⟩; have HR1 := Lib.hid hr1; have HB1 := Lib.hid hb1; clear hr1 hb1)
  go_loopw [3, 9] (fun v i wr => ∃ (k : Nat) (A2 : Option Addr) (c2 : Nat), k ≤ bs.length ∧ i = .int .i64 k ∧ v = .slice A2 k c2 ∧ Hid (wr.ownsRow w1.heap.size 28 4 (.slice A2 k c2) k (cellsOf ((ts.take k).map Tv.x))) ∧ Hid (Below w1.heap.size w1 wr)) (fun _ i _ => bs.length - (intOf i).toNat)
  case atStart => exact ⟨0, none, 0, Nat.zero_le _, rfl, rfl, World.ownsRow_nil _ _ _ _, Below.refl _ _⟩
  case round =>
    obtain ⟨k, A2, c2, hk, rfl, rfl, HO, HB⟩ := hrel
    have hz := HB.out.size
    by_cases hlt : k < bs.length
    · have hk' : k < ts.length := by have := HL.out; omega
      have hx : ts[k]? = some ts[k] := List.getElem?_eq_getElem hk'
      obtain ⟨ad, rfl, _, c0, c1', c2', c3⟩ := (HR1.out.below HB.out).four (fun _ => rfl) hx
      have hst : ts.take (k + 1) = ts.take k ++ [ts[k]] := List.take_succ_eq_append_getElem hk'
      have hto : ts[k].ok (wr.alloc (.cells ts[k].seat.toArray 130)) := (((HOK.out _ (List.getElem_mem hk')).keep (KeepB.of_below HB1.out)).keep (KeepB.of_below HB.out)).keep (KeepB.alloc _ _)
      generalize ts[k] = t at *
      have HST := Lib.hid hst; have HX := Lib.hid hx
      clear hst hx
      simp only [Tv.seat, List.getElem?_cons_zero, List.getElem?_cons_succ] at c0 c1' c2' c3
      have HTO := Lib.hid hto; clear hto
      have kc := HTO.out.1.back (P := Tryz.prog) 40 9 t.c Tryz.underlying40 Tryz.underlying5 Tryz.underlying9
      have kd := HTO.out.2.back (P := Tryz.prog) 40 9 t.d Tryz.underlying40 Tryz.underlying5 Tryz.underlying9
      simp only [Tv.seat] at kc kd
      go_wp2_with (at_builtin; refine wpList_app _ rfl (.tmp 13) (.tmp 25) 22 rfl w1.heap.size 28 i0 _ 4 48 Tryz.underlying22 HI.out HZ0.out HZ1.out HZ2.out rfl (by decide) (.slice A2 k c2) k (cellsOf ((ts.take k).map Tv.x)) rfl ?ho (wr.heap.size + 1 + 1) (some ⟨wr.heap.size + 1, 0, none⟩) 1 1 t.x.cells rfl ?hr ?h1 ?q1 ?q2 ?hb ?_; (case q1 => simp only [maxLen]; omega); (case q2 => omega); (case hr => exact Rd.new _ _ _ 4 1 _ rfl (by simp)); (case h1 => intro u hu; simp only [Sd.cells, List.mem_cons, List.not_mem_nil, or_false] at hu; rcases hu with rfl | rfl | rfl | rfl <;> rfl); (case ho => exact (HO.out.alloc _).alloc _); (case hb => simp; omega); intro A3 c3 w3 hown3 hg3 _)
      have HO3 := Lib.hid hown3; have HG3 := Lib.hid hg3; clear hown3 hg3
      go_roundw
      case rel =>
        refine ⟨k + 1, A3, c3, by omega, by go_num, rfl, ?_, ?_⟩
        · show World.ownsRow _ _ _ _ _ _ _
          rw [HST.out, List.map_append, cellsOf_append]
          have := HO3.out
          simpa [cellsOf] using this
        · exact ((HB.out.alloc hz _).alloc (by simp; omega) _).grown HG3.out (by simp; omega) (own_base HO.out)
      case measure => simp [intOf]; omega
    · have hkn : k = bs.length := by omega
      subst hkn
      have h1 := Rd.of_own HO.out
      rw [List.take_of_length_le (by have := HL.out; omega)] at h1
      have H1 := Lib.hid h1; clear h1
      go_wp2_with fail
      go_ret
      exact ⟨A2, c2, rfl, H1.out, HB1.out.trans (HB.out.mono HB1.out.size)⟩
end Go.Proofs.YtikikddkhikfkaaGreatDoor

set_option linter.unusedSimpArgs false
namespace Go.Proofs.YtikikddkhikfkaaGreatDoor
open Go.RowKit

theorem setOf_span (l : List Sd) (hne : l ≠ []) (hp : ∀ x ∈ l, -1152921504606846976 < x.pri ∧ x.pri < 1152921504606846976) : 0 ≤ spanOf l ∧ spanOf l ≤ 2305843009213693950 := by
  have := span_bd l (-1152921504606846975) 1152921504606846975 (by omega) (by omega) hne (fun s hs => by have := hp s hs; omega)
  omega


theorem add_zero4 (a : Addr) : a.add (0 * 4) = a := by simp [Addr.add]
/-- the span from the first seat on -/
theorem span_from (s : Sd) (r : List Sd) (hp : ∀ x ∈ s :: r, -1152921504606846976 < x.pri ∧ x.pri < 1152921504606846976) : spanOf (s :: r) = mxf s.pri (prisOf (s :: r)) - mnf s.pri (prisOf (s :: r)) := by
  have h := hp s (List.mem_cons_self ..)
  have e1 : mxf (-9223372036854775808) (prisOf (s :: r)) = mxf s.pri (prisOf (s :: r)) := by
    simp only [mxf, prisOf, List.map_cons, List.foldl_cons]
    congr 1
    split <;> split <;> omega
  have e2 : mnf 9223372036854775807 (prisOf (s :: r)) = mnf s.pri (prisOf (s :: r)) := by
    simp only [mnf, prisOf, List.map_cons, List.foldl_cons]
    congr 1
    split <;> split <;> omega
  unfold spanOf
  rw [e1, e2]

set_option maxRecDepth 100000 in
set_option maxHeartbeats 3200000 in
theorem sscaled_any (l : List Sd) (A : Option Addr) (n c : Nat) (apart : Int) (w : World) (hr : Rd w w.heap.size 4 A n (cellsOf l)) (hn : n ≤ 1000000) (hn0 : 0 < n) (hp : ∀ x ∈ l, -1152921504606846976 < x.pri ∧ x.pri < 1152921504606846976) (ha : apart ≤ 1152921504606846976) :
    Calls Tryz.prog 40 #[.slice A n c, .int .i64 apart] w fun e w' => ∃ A' c', e = .returned (.slice A' n c') ∧ Rd w' w'.heap.size 4 A' n (cellsOf (scaleL apart l)) ∧ Below w.heap.size w w' := by
  obtain ⟨i0, hi, hz0, hz1, hz2⟩ := info_parts infoSeat
  have HI := Lib.hid hi; have HZ0 := Lib.hid hz0; have HZ1 := Lib.hid hz1; have HZ2 := Lib.hid hz2
  clear hi hz0 hz1 hz2
  have HL := Lib.hid hr.len
  have HR := Lib.hid hr; clear hr
  have HP := Lib.hid hp; clear hp
  by_cases ha0 : apart ≤ 0
  · have hsc : scaleL apart l = l := by unfold scaleL; rw [if_pos ha0]
    have HSC := Lib.hid hsc; clear hsc
    go_enter Tryz.func40, Tryz.ntmps40
    go_wp2_with (at_builtin; refine wpList_app w rfl (.const (.slice none 0 0)) (.tmp 13) 24 rfl w.heap.size 57 i0 _ 4 48 Tryz.underlying24 HI.out HZ0.out HZ1.out HZ2.out rfl (by decide) (.slice none 0 0) 0 [] rfl (World.ownsRow_nil w w.heap.size _ _) w.heap.size A n c (cellsOf l) rfl HR.out (cellsOf_one l) ?q1 ?q2 (Nat.le_refl _) ?_; (case q1 => simp only [maxLen]; omega); (case q2 => omega); intro A1 c1 w1 hown hg _; simp only [Nat.zero_add, List.nil_append] at hown; have HO := Lib.hid hown; have HB := Lib.hid ((Below.refl w.heap.size w).grown hg (Nat.le_refl _) (by simp [Value.ownBlock])); clear hown hg)
    go_ret
    rw [HSC.out]
    exact ⟨A1, c1, rfl, Rd.of_own HO.out, HB.out⟩
  · have hz : ((n : Int) == 0) = false := by simp; omega
    obtain ⟨s0, r, hl⟩ : ∃ s0 r, l = s0 :: r := by
      cases l with
      | nil => have := HL.out; simp at this; omega
      | cons a b => exact ⟨a, b, rfl⟩
    have hsp := span_from s0 r (by rw [← hl]; exact HP.out)
    obtain ⟨ad, rfl, hadb, c0, c1', c2', c3⟩ := HR.out.seat (k := 0) (x := s0) (by rw [hl]; rfl)
    clear c0 c1' c2'
    rw [add_zero4 ad] at c3
    rw [← hl] at hsp
    have HSP := Lib.hid hsp; have HLL := Lib.hid hl; clear hsp hl
    go_enter Tryz.func40, Tryz.ntmps40
    go_wp2_with (at_builtin; refine wpList_app w rfl (.const (.slice none 0 0)) (.tmp 13) 24 rfl w.heap.size 57 i0 _ 4 48 Tryz.underlying24 HI.out HZ0.out HZ1.out HZ2.out rfl (by decide) (.slice none 0 0) 0 [] rfl (World.ownsRow_nil w w.heap.size _ _) w.heap.size (some ad) n c (cellsOf l) rfl HR.out (cellsOf_one l) ?q1 ?q2 (Nat.le_refl _) ?_; (case q1 => simp only [maxLen]; omega); (case q2 => omega); intro A1 c1 w1 hown hg _; simp only [Nat.zero_add, List.nil_append] at hown; have HO := Lib.hid hown; have hbb := ((Below.refl w.heap.size w).grown hg (Nat.le_refl _) (by simp [Value.ownBlock])); have HB := Lib.hid hbb; have d3 := (hbb.cell (p := ⟨ad.block, ad.off + 3, none⟩) hadb).trans c3; clear hown hg hbb)
    go_quiet (fail)
    go_wp2
    have HD := Lib.hid d3; clear d3 c3
    go_loopw [6, 7, 33] (fun a b i wr => ∃ k : Nat, k ≤ n ∧ i = .int .i64 k ∧ a = .int .i64 (mnf s0.pri ((prisOf l).take k)) ∧ b = .int .i64 (mxf s0.pri ((prisOf l).take k)) ∧ Hid (Below w1.heap.size w1 wr)) (fun _ _ i _ => n - (intOf i).toNat)
    case atStart => exact ⟨0, Nat.zero_le _, rfl, rfl, rfl, below_drewN (Below.refl _ _) _⟩
    case round =>
      obtain ⟨k, hk, rfl, rfl, rfl, HG⟩ := hrel
      by_cases hlt : k < n
      · have hk' : k < l.length := by have := HL.out; omega
        have hx : l[k]? = some l[k] := List.getElem?_eq_getElem hk'
        have hrr : Rd wr w.heap.size 4 (some ad) n (cellsOf l) := (HR.out.below HB.out).belowN HG.out HB.out.size
        obtain ⟨ad', h', _, e0, e1, e2, e3⟩ := hrr.seat hx
        obtain rfl := Option.some.inj h'
        have hpx := HP.out _ (List.getElem_mem hk')
        have hst : (prisOf l).take (k + 1) = (prisOf l).take k ++ [l[k].pri] := by
          have hl2 : k < (prisOf l).length := by simpa [prisOf] using hk'
          rw [List.take_succ_eq_append_getElem hl2]; simp [prisOf]
        generalize l[k] = x at *
        have ha := mxf_snoc s0.pri ((prisOf l).take k) x.pri
        have hb2 := mnf_snoc s0.pri ((prisOf l).take k) x.pri
        rw [← hst] at ha hb2
        have HA := Lib.hid ha; have HB2 := Lib.hid hb2; have HX := Lib.hid hx
        clear ha hb2 hst hx h' hrr
        generalize mxf s0.pri ((prisOf l).take k) = mx at *
        generalize mnf s0.pri ((prisOf l).take k) = mn at *
        go_wp2
        go_region
        go_wp2
        go_roundw
        case rel => exact ⟨k + 1, by omega, by go_num, by rw [HB2.out], by rw [HA.out], ((HG.out.alloc HG.out.size _).drew)⟩
        case measure => simp [intOf]; omega
      · obtain rfl : k = n := by omega
        have hll : (prisOf l).length ≤ k := by have := HL.out; simp [prisOf]; omega
        rw [List.take_of_length_le hll]
        obtain ⟨hs1, hs2⟩ := setOf_span l (by rw [HLL.out]; simp) HP.out
        have hsc : scaleL apart l = if apart < spanOf l then l.map (divP ((spanOf l + apart - 1) / apart)) else l := by unfold scaleL; rw [if_neg (by omega)]
        have HSC := Lib.hid hsc; clear hsc
        rw [HSP.out] at hs1 hs2 HSC
        generalize mxf s0.pri (prisOf l) = mx at *
        generalize mnf s0.pri (prisOf l) = mn at *
        have hown := own_below HO.out HG.out (Nat.le_refl _)
        have HO1 := Lib.hid hown; clear hown HO hll
        have hbw := HB.out.trans (HG.out.mono HB.out.size)
        have HBW := Lib.hid hbw; clear hbw
        have hneg : decide (mx - mn < 0) = false := by simp; omega
        by_cases hlt : apart < mx - mn
        · have hdv : (mx - mn - 1).tdiv apart = (mx - mn - 1) / apart := Int.tdiv_eq_ediv_of_nonneg (by omega)
          have hq0 : 0 ≤ (mx - mn - 1) / apart := Int.ediv_nonneg (by omega) (by omega)
          have hq1 : (mx - mn - 1) / apart ≤ mx - mn - 1 := Int.ediv_le_self _ (by omega)
          have heq : (mx - mn + apart - 1) / apart = (mx - mn - 1) / apart + 1 := by
            rw [show mx - mn + apart - 1 = (mx - mn - 1) + apart by omega, Int.add_ediv_of_dvd_right (Int.dvd_refl _), Int.ediv_self (by omega)]
          rw [if_pos hlt, heq] at HSC
          have HDV := Lib.hid hdv; clear hdv heq
          have hr1 : 1 ≤ (mx - mn - 1) / apart + 1 := by omega
          go_wp2
          generalize (mx - mn - 1) / apart + 1 = by_ at *
          go_loopw [61] (fun i wx => ∃ j : Nat, j ≤ k ∧ i = .int .i64 j ∧ Hid (wx.ownsRow w.heap.size 57 4 (.slice A1 k c1) k (cellsOf (mapTo (divP by_) l j))) ∧ Hid (Below w.heap.size w wx)) (fun i _ => k - (intOf i).toNat)
          case atStart => exact ⟨0, Nat.zero_le _, rfl, by rw [mapTo_zero]; exact HO1.out, HBW.out⟩
          case round =>
            obtain ⟨j, hj, rfl, HO2, HB2⟩ := hrel
            by_cases hjk : j < k
            · have hjl : j < l.length := by have := HL.out; omega
              have hx : l[j]? = some l[j] := List.getElem?_eq_getElem hjl
              have hx' := mapTo_get (divP by_) l j _ hx
              have hsu := mapTo_succ (divP by_) l j _ hx
              have hpx := HP.out _ (List.getElem_mem hjl)
              generalize l[j] = x at *
              obtain ⟨g, cap, hv, hg0, hg1⟩ := HO2.out.form (by omega)
              have e1 : A1 = some ⟨g, 0, none⟩ := by injection hv
              subst e1
              clear hv
              obtain ⟨x0, x1, x2, x3⟩ := own_seat HO2.out hx'
              have hf := own_free HO2.out
              have hq : wrap64 (x.pri.tdiv by_) = x.pri.tdiv by_ := by
                have h1 : (x.pri.tdiv by_).natAbs ≤ x.pri.natAbs := by rw [Int.natAbs_tdiv]; exact Nat.div_le_self _ _
                unfold wrap64; omega
              have hset := own_pri (q := x.pri.tdiv by_) HO2.out hx'
              have e2 : (mapTo (divP by_) l j).set j { x with pri := x.pri.tdiv by_ } = mapTo (divP by_) l (j + 1) := hsu
              rw [e2] at hset
              have HSET := Lib.hid hset; clear hset e2 hsu x0 x1 x2 hx hx'
              go_wp2
              go_roundw
              case rel => exact ⟨j + 1, by omega, by go_num, HSET.out, HB2.out.setCell (p := ⟨g, j * 4 + 3, none⟩) hg0 _⟩
              case measure => simp [intOf]; omega
            · have hfin := HO2.out
              rw [mapTo_full _ _ _ (by have := HL.out; omega)] at hfin
              have HF := Lib.hid (Rd.of_own hfin); clear hfin
              go_wp2
              go_ret
              rw [HSC.out]
              exact ⟨A1, c1, rfl, HF.out, HB2.out⟩
        · rw [if_neg hlt] at HSC
          go_wp2
          go_ret
          rw [HSC.out]
          exact ⟨A1, ⟨c1, rfl⟩, Rd.of_own HO1.out, HBW.out⟩
  
end Go.Proofs.YtikikddkhikfkaaGreatDoor

set_option linter.unusedSimpArgs false
namespace Go.Proofs.YtikikddkhikfkaaGreatDoor
open Go.RowKit

/-- a seat but for its priority -/
def core (s : Sd) : Sd := { s with pri := 0 }
theorem core_addP (s : Sd) : core (addP s) = core s := rfl
theorem core_subP (a : Int) (s : Sd) : core (subP a s) = core s := rfl
theorem core_divP (a : Int) (s : Sd) : core (divP a s) = core s := rfl
theorem map_core {f : Sd → Sd} (hf : ∀ s, core (f s) = core s) (l : List Sd) : (l.map f).map core = l.map core := by
  rw [List.map_map]; exact List.map_congr_left (fun s _ => hf s)
theorem turnOf_core (T : Int) (l : List Sd) : (turnOf T l).map core = l.map core := by
  unfold turnOf
  cases hq : propOf (l.map addP) with
  | none => exact map_core core_addP l
  | some q =>
    have hne : l.map addP ≠ [] := fun e => by rw [e] at hq; simp [propOf] at hq
    obtain ⟨q', h1, h2⟩ := propOf_at _ hne
    rw [hq] at h1; cases h1
    simp only [List.map_set]
    rw [core_subP, map_core core_addP]
    have e := map_core core_addP l
    have h3 : (l.map core)[q.2]? = some (core q.1) := by
      rw [← e, List.getElem?_map, h2]; rfl
    have h4 := List.getElem?_eq_some_iff.1 h3
    rw [← h4.2]; exact List.set_getElem_self h4.1
theorem totL_core (l : List Sd) : totL (l.map core) = totL l := by
  unfold totL powsOf; rw [List.map_map]; rfl
theorem totL_of_core {l l' : List Sd} (h : l'.map core = l.map core) : totL l' = totL l := by rw [← totL_core l', h, totL_core]
theorem length_of_core {l l' : List Sd} (h : l'.map core = l.map core) : l'.length = l.length := by have := congrArg List.length h; simpa using this
theorem distinct_of_core {l l' : List Sd} (h : l'.map core = l.map core) (hd : distinct l) : distinct l' := by
  have h1 : distinct (l'.map core) := by rw [h]; exact distinct_map hd _ (fun _ => rfl)
  intro i j x y hx hy hij
  exact h1 i j (core x) (core y) (by rw [List.getElem?_map, hx]; rfl) (by rw [List.getElem?_map, hy]; rfl) hij
theorem pow_of_core {l l' : List Sd} (h : l'.map core = l.map core) {p : Int → Prop} (hp : ∀ s ∈ l, p s.pow) : ∀ s ∈ l', p s.pow := by
  intro s hs
  have h1 : core s ∈ l.map core := by rw [← h]; exact List.mem_map_of_mem hs
  obtain ⟨t, ht, e⟩ := List.mem_map.1 h1
  have : t.pow = s.pow := (congrArg Sd.pow e : (core t).pow = (core s).pow)
  rw [← this]; exact hp t ht
theorem turnOf_in (T : Int) (l : List Sd) : ∀ s ∈ turnOf T l, in64 s.pri := by
  intro s hs
  have h1 : ∀ s ∈ l.map addP, in64 s.pri := fun s hs => by
    obtain ⟨t, _, rfl⟩ := List.mem_map.1 hs
    exact clip_in _
  unfold turnOf at hs
  split at hs
  · exact h1 s hs
  · rcases List.mem_or_eq_of_mem_set hs with h | h
    · exact h1 s h
    · rw [h]; exact clip_in _
/-- so many turns -/
def turnsL (T : Int) : Nat → List Sd → List Sd
  | 0, l => l
  | k + 1, l => turnOf T (turnsL T k l)
theorem turnsL_core (T : Int) (l : List Sd) : ∀ k, (turnsL T k l).map core = l.map core
  | 0 => rfl
  | k + 1 => (turnOf_core T _).trans (turnsL_core T l k)
theorem turnsL_in (T : Int) (l : List Sd) (h : ∀ s ∈ l, in64 s.pri) : ∀ k, ∀ s ∈ turnsL T k l, in64 s.pri
  | 0 => h
  | _ + 1 => turnOf_in T _
theorem scaleL_core (a : Int) (l : List Sd) : (scaleL a l).map core = l.map core := by
  unfold scaleL
  split
  · rfl
  · split
    · exact map_core (core_divP _) l
    · rfl
theorem shiftL_core (l : List Sd) : (shiftL l).map core = l.map core := map_core (core_subP _) l
theorem scaleL_pri (a : Int) (l : List Sd) (B : Int) (h : ∀ s ∈ l, -B ≤ s.pri ∧ s.pri ≤ B) : ∀ s ∈ scaleL a l, -B ≤ s.pri ∧ s.pri ≤ B := by
  intro s hs
  unfold scaleL at hs
  split at hs
  · exact h s hs
  · split at hs
    · obtain ⟨t, ht, rfl⟩ := List.mem_map.1 hs
      have hb := h t ht
      generalize (spanOf l + a - 1) / a = r at *
      have h1 : (t.pri.tdiv r).natAbs ≤ t.pri.natAbs := by rw [Int.natAbs_tdiv]; exact Nat.div_le_self _ _
      simp only [divP]; omega
    · exact h s hs
/-- a set behind k turns, from its seats as they were -/
def startL (l : List Sd) : List Sd := shiftL (scaleL (2 * totL l) l)
theorem startL_core (l : List Sd) : (startL l).map core = l.map core := (shiftL_core _).trans (scaleL_core _ _)
theorem startL_in (l : List Sd) : ∀ s ∈ startL l, in64 s.pri := by
  intro s hs
  obtain ⟨t, _, rfl⟩ := List.mem_map.1 hs
  exact clip_in _

theorem tot_both (lo g : Nat) (A : Option Addr) (c : Nat) (bs : List Nat) (ts : List Tv) (prop : Value) (tot : Int) (same : Bool) (w : World) (h : VSet w lo g A c bs ts prop tot same) (hn : bs.length ≤ 1000)
    (hp : ∀ t ∈ ts, 0 ≤ t.x.pow ∧ t.x.pow ≤ 1125899906842624) (ht : tot = 0 ∨ tot = totL (ts.map Tv.x)) :
    Calls Tryz.prog 87 #[ptrTo g] w fun e w' => e = .returned (.int .i64 (totL (ts.map Tv.x))) ∧ VSet w' lo g A c bs ts prop (totL (ts.map Tv.x)) same ∧ OnlyV g bs w w' := by
  by_cases h0 : tot = 0
  · subst h0
    refine (tot_new lo g A c bs ts prop same w h hn hp).mono ?_
    rintro e w' ⟨rfl, rfl⟩
    exact ⟨rfl, h.setTot _, OnlyV.putHead _ _ _⟩
  · rcases ht with h1 | h1
    · exact absurd h1 h0
    · refine (tot_any lo g A c bs ts prop tot same w h h0).mono ?_
      rintro e w' ⟨rfl, rfl⟩
      rw [← h1]
      exact ⟨rfl, h, OnlyV.refl _ _ _⟩

set_option maxRecDepth 100000 in
set_option maxHeartbeats 3200000 in
theorem incr_any (lo g : Nat) (A : Option Addr) (c : Nat) (bs : List Nat) (ts : List Tv) (prop : Value) (tot : Int) (same : Bool) (times : Nat) (w : World) (h : VSet w lo g A c bs ts prop tot same) (hn : bs.length ≤ 1000) (hn0 : 0 < bs.length)
    (ht : tot = 0 ∨ tot = totL (ts.map Tv.x)) (hd : distinct (ts.map Tv.x)) (hp : ∀ t ∈ ts, -1152921504606846976 < t.x.pri ∧ t.x.pri < 1152921504606846976) (hw : ∀ t ∈ ts, 1 ≤ t.x.pow ∧ t.x.pow ≤ 1125899906842624)
    (htm : 0 < times) (htm2 : times ≤ 100000) :
    Calls Tryz.prog 70 #[ptrTo g, .int .i32 times] w fun e w' => e = .returned (.tuple #[]) ∧ ∃ ts', ts'.map Tv.x = turnsL (totL (ts.map Tv.x)) times (startL (ts.map Tv.x)) ∧
      VSet w' lo g A c bs ts' (pval bs (propOf ((turnsL (totL (ts.map Tv.x)) (times - 1) (startL (ts.map Tv.x))).map addP))) (totL (ts.map Tv.x)) same ∧ OnlyV g bs w w' := by
  have hne : ts.map Tv.x ≠ [] := fun e => by
    have h1 := congrArg List.length e
    have := h.len
    simp at h1; rw [h1] at this; simp at this; omega
  have hlen : ts.length = bs.length := h.len
  have hT := sumI_bd (powsOf (ts.map Tv.x)) 1 1125899906842624 (fun x hx => by
    obtain ⟨s, hs, rfl⟩ := List.mem_map.1 hx
    obtain ⟨t, ht, rfl⟩ := List.mem_map.1 hs
    exact hw t ht)
  have hpl : (powsOf (ts.map Tv.x)).length = bs.length := by simp [powsOf, hlen]
  have htot : totL (ts.map Tv.x) = sumI (powsOf (ts.map Tv.x)) := rfl
  rw [hpl, ← htot] at hT
  obtain ⟨hs1, hs2⟩ := setOf_span (ts.map Tv.x) hne (fun x hx => by obtain ⟨t, ht, rfl⟩ := List.mem_map.1 hx; exact hp t ht)
  have HT := Lib.hid (tot_both lo g A c bs ts prop tot same w h hn (fun t ht => by have := hw t ht; omega) ht)
  have hstart : startL (ts.map Tv.x) = shiftL (scaleL (2 * totL (ts.map Tv.x)) (ts.map Tv.x)) := rfl
  have hscore := scaleL_core (2 * totL (ts.map Tv.x)) (ts.map Tv.x)
  have hspri := scaleL_pri (2 * totL (ts.map Tv.x)) (ts.map Tv.x) 1152921504606846976 (fun s hs => by obtain ⟨t, ht, rfl⟩ := List.mem_map.1 hs; have := hp t ht; omega)
  have hgood : ∀ k, (turnsL (totL (ts.map Tv.x)) k (startL (ts.map Tv.x))).map core = (ts.map Tv.x).map core := fun k => (turnsL_core _ _ k).trans (startL_core _)
  have hgin := turnsL_in (totL (ts.map Tv.x)) _ (startL_in (ts.map Tv.x))
  unfold ptrTo at *
  have h0 : w.cell? ⟨g, 0, none⟩ = some (.slice A bs.length c) := h.head.cell 0
  have H := Lib.hid h; have HP := Lib.hid hp; have HW := Lib.hid hw; have HD := Lib.hid hd; have HG := Lib.hid hgood; have HGI := Lib.hid hgin; have HSP := Lib.hid hspri
  have HS1 := Lib.hid hs1; have HS2 := Lib.hid hs2; have HST := Lib.hid hstart; have HSC := Lib.hid hscore
  have hpows := Lib.hid (show ∀ s ∈ ts.map Tv.x, in64 s.pow from fun s hs => by obtain ⟨t, ht, rfl⟩ := List.mem_map.1 hs; have := hw t ht; unfold in64; omega)
  clear h hp hw hd hgood hgin hspri hs1 hs2 hstart hscore htot hpl ht hlen hne
  generalize htt : totL (ts.map Tv.x) = T at *
  clear htt
  go_enter Tryz.func70, Tryz.ntmps70
  go_wp2_with (first | (go_at_call 110; refine (nil_any g bs.length c A w h0 hn0).mono ?_; rintro e w' ⟨rfl, rfl⟩) | (go_at_call 87; refine HT.out.mono ?_; rintro e w1 ⟨rfl, hv1, ho1⟩; have HV1 := Lib.hid hv1; have HO1 := Lib.hid ho1; clear hv1 ho1))
  have hC2 := rescale_any lo g A c bs ts prop T same (2 * T) w1 HV1.out (by omega) hn0 HS1.out (by have := HS2.out; omega) (by omega) (fun t ht => by have := HP.out t ht; omega)
  have HC2 := Lib.hid hC2; clear hC2
  refine HC2.out.mono ?_
  rintro e w2 ⟨rfl, ts2, hm2, hv2, ho2⟩
  have hC3 := shift_any lo g A c bs ts2 prop T same w2 hv2 hn hn0 (fun t ht => by have := HSP.out t.x (by rw [← hm2]; exact List.mem_map_of_mem ht); omega)
  rw [hm2, ← HST.out] at hC3
  have HC3 := Lib.hid hC3; have HO2 := Lib.hid (HO1.out.trans ho2); clear hC3 hm2 hv2 ho2
  go_wp2_with (go_at_call 108; refine HC3.out.mono ?_; rintro e w3 ⟨rfl, ts3, hm3, hv3, ho3⟩; have HM3 := Lib.hid hm3; have HV3 := Lib.hid hv3; have HO3 := Lib.hid (HO2.out.trans ho3); clear hm3 hv3 ho3)
  go_loopw [5, 6] (fun p i wr => ∃ k : Nat, k ≤ times ∧ i = .int .i32 k ∧ Hid (∃ ts', ts'.map Tv.x = turnsL T k (startL (ts.map Tv.x)) ∧ VSet wr lo g A c bs ts' prop T same) ∧ Hid (OnlyV g bs w wr) ∧ Hid (k ≠ 0 → p = pval bs (propOf ((turnsL T (k - 1) (startL (ts.map Tv.x))).map addP)))) (fun _ i _ => times - (intOf i).toNat)
  case atStart => exact ⟨0, Nat.zero_le _, rfl, ⟨ts3, HM3.out, HV3.out⟩, HO3.out, fun h => absurd rfl h⟩
  case round =>
    obtain ⟨k, hk, rfl, HV, HO, HPR⟩ := hrel
    by_cases hlt : k < times
    · obtain ⟨ts4, hm4, hv4⟩ := HV.out
      have hcore : (ts4.map Tv.x).map core = (ts.map Tv.x).map core := by rw [hm4]; exact HG.out k
      have hd4 : distinct (ts4.map Tv.x) := distinct_of_core hcore HD.out
      have hp4 := pow_of_core (p := in64) hcore hpows.out
      have hC4 := inc_any lo g A c bs ts4 prop T same wr hv4 hn hn0 hd4 (by omega) (by omega) (fun t ht => ⟨HGI.out k t.x (by rw [← hm4]; exact List.mem_map_of_mem ht), hp4 t.x (List.mem_map_of_mem ht)⟩)
      rw [hm4] at hC4
      have HC4 := Lib.hid hC4; clear hC4 hm4 hv4 hcore hd4 hp4
      have hwk : wrap32 ((k : Int) + 1) = (k : Int) + 1 := by unfold wrap32; omega
      go_wp2_with (go_at_call 111; refine HC4.out.mono ?_; rintro e w5 ⟨rfl, ts5, hm5, hv5, ho5⟩; have HM5 := Lib.hid hm5; have HV5 := Lib.hid hv5; have HO5 := Lib.hid (HO.out.trans ho5); clear hm5 hv5 ho5)
      go_roundw
      case rel => exact ⟨k + 1, by omega, by go_num, ⟨ts5, HM5.out, HV5.out⟩, HO5.out, fun _ => rfl⟩
      case measure => simp [intOf]; omega
    · obtain rfl : k = times := by omega
      obtain ⟨ts4, hm4, hv4⟩ := HV.out
      have hpr := HPR.out (by omega)
      have h30 := hv4.head.cell 1
      have hf := hv4.head.free 1
      have hset := hv4.setProp u5
      have HM4 := Lib.hid hm4; have HSET := Lib.hid hset; have HPR2 := Lib.hid hpr
      clear hm4 hset hpr hv4
      have hpv : ∃ u, u5 = Value.pointer u := by rw [HPR2.out]; cases propOf ((turnsL T (k - 1) (startL (ts.map Tv.x))).map addP) <;> exact ⟨_, rfl⟩
      obtain ⟨u, rfl⟩ := hpv
      go_wp2
      go_end0
      refine ⟨rfl, ts4, HM4.out, ?_, HO.out.trans (OnlyV.putHead _ _ _)⟩
      rw [← HPR2.out]
      exact HSET.out
end Go.Proofs.YtikikddkhikfkaaGreatDoor

set_option linter.unusedSimpArgs false
namespace Go.Proofs.YtikikddkhikfkaaGreatDoor
open Go.RowKit

theorem vcopy_any (b : Nat) (t : Tv) (w : World) (h : Blk w b 136 t.val) :
    Calls Tryz.prog 112 #[ptrTo b] w fun e w' => e = .returned (ptrTo w.heap.size) ∧ w' = w.alloc (.cells t.val 136) := by
  unfold ptrTo
  obtain ⟨c0, c1, c2, c3⟩ := t.val_cells h
  clear h
  go_enter Tryz.func112, Tryz.ntmps112
  go_wp2
  go_ret
  exact ⟨rfl, rfl⟩

theorem getProp_any (lo g : Nat) (A : Option Addr) (c : Nat) (bs : List Nat) (ts : List Tv) (b : Nat) (t : Tv) (tot : Int) (same : Bool) (w : World) (h : VSet w lo g A c bs ts (ptrTo b) tot same) (hn0 : 0 < bs.length) (hb : Blk w b 136 t.val) :
    Calls Tryz.prog 71 #[ptrTo g] w fun e w' => e = .returned (ptrTo w.heap.size) ∧ w' = w.alloc (.cells t.val 136) := by
  have KC := Lib.hid (vcopy_any b t w hb)
  have h0 : w.cell? ⟨g, 0, none⟩ = some (.slice A bs.length c) := h.head.cell 0
  have h1 : w.cell? ⟨g, 1, none⟩ = some (ptrTo b) := h.head.cell 1
  have hz : ((bs.length : Int) == 0) = false := by rw [beq_eq_false_iff_ne]; omega
  unfold ptrTo at *
  clear h hb
  go_enter Tryz.func71, Tryz.ntmps71
  go_wp2_with (go_at_call 112; refine KC.out.mono ?_; rintro e w1 ⟨rfl, rfl⟩)
  go_ret
  exact ⟨rfl, rfl⟩

theorem first_any (lo g : Nat) (A : Option Addr) (c : Nat) (bs : List Nat) (ts : List Tv) (b : Nat) (t : Tv) (tot : Int) (same : Bool) (w : World) (h : VSet w lo g A c bs ts (ptrTo b) tot same) (hn0 : 0 < bs.length) (hb : Blk w b 136 t.val) (hok : t.ok w) :
    Calls Tryz.prog 44 #[ptrTo g] w fun e w' => e = .returned (.string t.x.adr) ∧ Below w.heap.size w w' := by
  have KC := Lib.hid (getProp_any lo g A c bs ts b t tot same w h hn0 hb)
  have hw1 : Blk (w.alloc (.cells t.val 136)) w.heap.size 136 t.val := Blk.new _ _ _
  obtain ⟨c0, _⟩ := t.val_cells hw1
  have hto := hok.keep (KeepB.alloc w (.cells t.val 136))
  have kc := hto.1.back (P := Tryz.prog) 117 9 t.c Tryz.underlying117 Tryz.underlying5 Tryz.underlying9
  have hb1 := Lib.hid ((Below.refl w.heap.size w).alloc (Nat.le_refl _) (.cells t.val 136))
  unfold ptrTo at *
  clear h hb hok hto hw1
  go_enter Tryz.func44, Tryz.ntmps44
  go_wp2_with (go_at_call 71; refine KC.out.mono ?_; rintro e w1 ⟨rfl, rfl⟩)
  go_ret
  exact ⟨rfl, hb1.out⟩

/-- who proposes in the next turn -/
def nextP (l : List Sd) : ByteArray :=
  match propOf (l.map addP) with
  | none => .empty
  | some q => q.1.adr
theorem nextP_at {l l' : List Sd} (h : l'.map core = l.map core) (hne : l ≠ []) : ∃ q, propOf (l'.map addP) = some q ∧ nextP l' = q.1.adr ∧ ∃ x, l[q.2]? = some x ∧ x.adr = q.1.adr := by
  have hne' : l'.map addP ≠ [] := fun e => by
    have h1 := congrArg List.length e
    have h2 := length_of_core h
    simp at h1
    rw [h1] at h2
    exact hne (List.length_eq_zero_iff.1 h2.symm)
  obtain ⟨q, h1, h2⟩ := propOf_at _ hne'
  refine ⟨q, h1, by unfold nextP; rw [h1], ?_⟩
  have h3 : (l.map core)[q.2]? = some (core q.1) := by
    rw [← h, ← map_core core_addP l', List.getElem?_map, h2]; rfl
  rw [List.getElem?_map] at h3
  cases hx : l[q.2]? with
  | none => rw [hx] at h3; simp at h3
  | some x =>
    rw [hx] at h3
    simp only [Option.map_some, Option.some.injEq] at h3
    exact ⟨x, rfl, (congrArg Sd.adr h3 : (core x).adr = (core q.1).adr)⟩

/-- what the laws ask of a list of seats that takes turns -/
structure turnable (l : List Sd) : Prop where
  ne : l ≠ []
  len : l.length ≤ 500
  dist : distinct l
  pri : ∀ x ∈ l, -1152921504606846976 < x.pri ∧ x.pri < 1152921504606846976
  pow : ∀ x ∈ l, 1 ≤ x.pow ∧ x.pow ≤ 1125899906842624

end Go.Proofs.YtikikddkhikfkaaGreatDoor

set_option linter.unusedSimpArgs false
namespace Go.Proofs.YtikikddkhikfkaaGreatDoor
open Go.RowKit

/-- a list's first places overwritten -/
def overL (new old : List Value) : List Value := new ++ old.drop new.length
theorem overL_set (new old : List Value) (v : Value) (h : new.length < old.length) : (overL new old).set new.length v = overL (new ++ [v]) old := by
  unfold overL
  rw [List.set_append_right _ _ (Nat.le_refl _), Nat.sub_self, List.drop_eq_getElem_cons h, List.set_cons_zero, List.length_append]
  simp
theorem overL_full (new old : List Value) (h : old.length ≤ new.length) : overL new old = new := by unfold overL; rw [List.drop_of_length_le h, List.append_nil]

set_option maxRecDepth 100000 in
set_option maxHeartbeats 3200000 in
theorem listCopy_any (lo g : Nat) (A : Option Addr) (c : Nat) (bs : List Nat) (ts : List Tv) (prop : Value) (tot : Int) (same : Bool) (w : World) (h : VSet w lo g A c bs ts prop tot same) (hn : bs.length ≤ 1000000) (hn0 : 0 < bs.length) :
    Calls Tryz.prog 130 #[.slice A bs.length c] w fun e w' => ∃ (A' : Option Addr) (c' : Nat) (bs' : List Nat), bs'.length = bs.length ∧ e = .returned (.slice A' bs.length c') ∧ w'.ownsRow w.heap.size 126 1 (.slice A' bs.length c') bs.length (bs'.map ptrTo) ∧ bs'.Nodup ∧
      (∀ (j b : Nat) (t : Tv), bs'[j]? = some b → ts[j]? = some t → w.heap.size ≤ b ∧ Blk w' b 136 t.val) ∧ Below w.heap.size w w' := by
  obtain ⟨i0, hi0, hz0, hz1, hz2⟩ := info_parts infoPVal
  have HI := Lib.hid hi0; have HZ0 := Lib.hid hz0; have HZ1 := Lib.hid hz1; have HZ2 := Lib.hid hz2
  clear hi0 hz0 hz1 hz2
  obtain ⟨b0, _, hb0, _⟩ := h.at_ hn0
  obtain ⟨r, rfl, hrl, _⟩ := h.ptr hb0
  have H := Lib.hid h; clear h hb0
  have hnil := fun W => Lib.run_eql_slice_nil (P := Tryz.prog) W 125 126 (some ⟨r, 0, none⟩) bs.length c 0 0 Tryz.underlying125
  go_enter Tryz.func130, Tryz.ntmps130
  go_wp2_with (refine wpList_make_full _ rfl (.tmp 9) (.tmp 9) 125 rfl w.heap.size 126 i0 _ 1 Tryz.underlying125 HI.out HZ0.out HZ1.out .i64 .i64 bs.length bs.length bs.length rfl rfl rfl rfl ?b2 ?b3 (Nat.le_refl _) ?_; (case b2 => rw [HZ2.out]; omega); (case b3 => simp only [maxLen]; omega); intro w1 hown hg1; have HO1 := Lib.hid hown; have HB1 := Lib.hid ((Below.refl w.heap.size w).grown hg1 (Nat.le_refl _) (by simp)); clear hown hg1)
  generalize (madeCells (Value.pointer none).cells (bs.length * 1)).toList = old at *
  have hold : old.length = bs.length := by have := HO1.out.1; simpa using this
  have HOLD := Lib.hid hold; clear hold
  go_loopw [13] (fun i wr => ∃ (k : Nat) (bs' : List Nat), k ≤ bs.length ∧ i = .int .i64 k ∧ Hid (bs'.length = k) ∧ Hid (wr.ownsRow w.heap.size 126 1 (.slice (some ⟨w.heap.size, 0, none⟩) bs.length bs.length) bs.length (overL (bs'.map ptrTo) old)) ∧ Hid (bs'.Nodup) ∧
      Hid (∀ (j b : Nat) (t : Tv), bs'[j]? = some b → ts[j]? = some t → w.heap.size ≤ b ∧ b < wr.heap.size ∧ Blk wr b 136 t.val) ∧ Hid (Below w.heap.size w wr)) (fun i _ => bs.length - (intOf i).toNat)
  case atStart => exact ⟨0, [], Nat.zero_le _, rfl, rfl, (by have h1 := HO1.out; show World.ownsRow _ _ _ _ _ _ _; simpa [overL] using h1), List.nodup_nil, (fun j b t h => by simp at h), HB1.out⟩
  case round =>
    obtain ⟨k, bs', hk, rfl, HLB, HO, HN, HV, HB⟩ := hrel
    by_cases hlt : k < bs.length
    · have hv := H.out.keep (KeepV.of_below lo HB.out (Nat.le_refl _))
      obtain ⟨b, t, hb, ht⟩ := hv.at_ hlt
      obtain ⟨r', hr', _, hp⟩ := hv.ptr hb
      have hr2 : r' = r := by injection hr' with e; injection e with e; exact e.symm
      subst hr2
      obtain ⟨_, hbv, hok⟩ := hv.vals k b t hb ht
      have kc := vcopy_any b t wr hbv
      unfold ptrTo at kc
      have KC := Lib.hid kc; clear kc
      have hst := HO.out.alloc (.cells t.val 136)
      have hf := own_free hst
      have hbl := HB.out.size
      have hlk : (bs'.map ptrTo).length = k := by rw [List.length_map]; exact HLB.out
      have hko : k < old.length := by rw [HOLD.out]; exact hlt
      have hgk : (overL (bs'.map ptrTo) old)[k]? = some old[k] := by
        unfold overL
        rw [List.getElem?_append_right (by omega), hlk, Nat.sub_self, List.getElem?_drop]
        simp
      have hck := hst.cells (g := w.heap.size) rfl k _ hgk
      rw [add_flat, Nat.zero_add] at hck
      have hsto := (hst.stored k (ptrTo wr.heap.size)).1
      have hov : (overL (bs'.map ptrTo) old).set k (ptrTo wr.heap.size) = overL ((bs' ++ [wr.heap.size]).map ptrTo) old := by
        have := overL_set (bs'.map ptrTo) old (ptrTo wr.heap.size) (by omega)
        rw [hlk] at this
        rw [this]; simp
      rw [hov] at hsto
      generalize old[k] = ov at *
      have HSTO := Lib.hid hsto
      have hne : ∀ b', Blk wr b' 136 t.val → True := fun _ _ => trivial
      have HBV := Lib.hid hbv; have HT := Lib.hid ht
      clear hr' hb ht hbv hok hv hst hsto hov hgk hlk hko hne
      go_wp2_with (go_at_call 112; refine KC.out.mono ?_; rintro e w5 ⟨rfl, rfl⟩)
      go_roundw
      case rel =>
        refine ⟨k + 1, bs' ++ [wr.heap.size], by omega, by go_num, ?_, HSTO.out, ?_, ?_, (HB.out.alloc hbl _).setCell (p := ⟨w.heap.size, k, none⟩) (Nat.le_refl _) _⟩
        · show _ = _
          rw [List.length_append, HLB.out]; rfl
        · show List.Nodup _
          rw [List.nodup_append]
          refine ⟨HN.out, by simp, fun a ha b' hb' => ?_⟩
          obtain ⟨j, hj, rfl⟩ := List.getElem_of_mem ha
          have hjt : j < ts.length := by have := H.out.len; have := HLB.out; omega
          have := (HV.out j _ _ (List.getElem?_eq_getElem hj) (List.getElem?_eq_getElem hjt)).2.1
          rw [List.mem_singleton] at hb'
          omega
        · intro j b' t' hb' ht'
          have hsz : ((wr.alloc (.cells t.val 136)).setCell ⟨w.heap.size, k, none⟩ (.pointer (some ⟨wr.heap.size, 0, none⟩))).heap.size = wr.heap.size + 1 := by simp [World.setCell]
          rw [List.getElem?_append] at hb'
          split at hb'
          · obtain ⟨h1, h2, h3⟩ := HV.out j b' t' hb' ht'
            have hne : b' ≠ w.heap.size := by
              intro e
              rcases HO.out.2 with ⟨h4, _⟩ | ⟨g', cap, cur, h4, _, hh, _⟩
              · cases h4
              · cases h4
                rw [e] at h3
                unfold Blk at h3
                rw [hh] at h3
                injection h3 with h3; injection h3 with _ h3; cases h3
            exact ⟨h1, by show b' < _; rw [hsz]; omega, (h3.alloc _).far (p := ⟨w.heap.size, k, none⟩) hne _⟩
          · have hj : j = k := by
              have := (List.getElem?_eq_some_iff.1 hb').1
              have := HLB.out
              simp at *; omega
            subst hj
            have e1 : b' = wr.heap.size := by rw [HLB.out, Nat.sub_self] at hb'; simpa using hb'.symm
            subst e1
            have e2 : t' = t := by have := HT.out; rw [this] at ht'; exact (Option.some.inj ht').symm
            subst e2
            exact ⟨hbl, by show wr.heap.size < _; rw [hsz]; omega, (Blk.new wr _ _).far (p := ⟨w.heap.size, j, none⟩) (by show wr.heap.size ≠ w.heap.size; have := HO.out.form hn0; obtain ⟨g', cap', hv', _, hl'⟩ := this; injection hv' with hv'; injection hv' with hv'; injection hv' with hv'; omega) _⟩
      case measure => simp [intOf]; omega
    · obtain rfl : k = bs.length := by omega
      have ho := HO.out
      rw [overL_full _ _ (by rw [HOLD.out, List.length_map, HLB.out]; exact Nat.le_refl _)] at ho
      have HF := Lib.hid ho; clear ho
      go_wp2
      go_ret
      exact ⟨_, _, bs', HLB.out, rfl, HF.out, HN.out, (fun j b t hb ht => ⟨(HV.out j b t hb ht).1, (HV.out j b t hb ht).2.2⟩), HB.out⟩
end Go.Proofs.YtikikddkhikfkaaGreatDoor

set_option linter.all false
namespace Go.Proofs.YtikikddkhikfkaaGreatDoor
open Go.RowKit

theorem sumI_nn : ∀ (l : List Int), (∀ x ∈ l, 0 ≤ x) → 0 ≤ sumI l
  | [], _ => by simp [sumI]
  | x :: r, h => by rw [sumI_cons]; have := h x (List.mem_cons_self ..); have := sumI_nn r fun y hy => h y (List.mem_cons_of_mem _ hy); omega
theorem sumI_part : ∀ (l : List Int), (∀ x ∈ l, 0 ≤ x) → ∀ (k : Nat) (x : Int), l[k]? = some x → 0 ≤ sumI (l.take k) ∧ sumI (l.take k) + x ≤ sumI l
  | [], _, k, x, h => by simp at h
  | y :: r, h, 0, x, hx => by
    have h1 := sumI_nn r fun y hy => h y (List.mem_cons_of_mem _ hy)
    simp at hx; subst hx
    rw [List.take_zero, sumI_cons]
    simp only [sumI, List.foldl_nil] at *; omega
  | y :: r, h, k + 1, x, hx => by
    have h1 := sumI_part r (fun y hy => h y (List.mem_cons_of_mem _ hy)) k x (by simpa using hx)
    rw [List.take_succ_cons, sumI_cons, sumI_cons]
    have := h y (List.mem_cons_self ..)
    omega
theorem sumI_one : ∀ (l : List Int), (∀ x ∈ l, 1 ≤ x) → (l.length : Int) ≤ sumI l
  | [], _ => by simp [sumI]
  | x :: r, h => by rw [sumI_cons]; have := h x (List.mem_cons_self ..); have := sumI_one r fun y hy => h y (List.mem_cons_of_mem _ hy); simp only [List.length_cons]; omega
theorem totL_one (l : List Sd) (h : ∀ x ∈ l, 1 ≤ x.pow) : (l.length : Int) ≤ totL l := by
  have := sumI_one (powsOf l) (fun x hx => by obtain ⟨s, hs, rfl⟩ := List.mem_map.1 hx; exact h s hs)
  unfold totL
  simpa [powsOf] using this
theorem pow_tot (l : List Sd) (h : ∀ x ∈ l, 0 ≤ x.pow) : ∀ x ∈ l, x.pow ≤ totL l := fun x hx => by
  obtain ⟨k, hk⟩ := List.getElem?_of_mem hx
  have := sumI_part (powsOf l) (fun x hx => by obtain ⟨s, hs, rfl⟩ := List.mem_map.1 hx; exact h s hs) k x.pow (by rw [powsOf, List.getElem?_map, hk]; rfl)
  unfold totL; omega
set_option maxRecDepth 100000 in
set_option maxHeartbeats 6400000 in
theorem updTotalW_any (lo g : Nat) (A : Option Addr) (c : Nat) (bs : List Nat) (ts : List Tv) (prop : Value) (tot : Int) (same : Bool) (w : World) (h : VSet w lo g A c bs ts prop tot same) (hn : bs.length ≤ 1000)
    (hp : ∀ t ∈ ts, 0 ≤ t.x.pow) (hT : totL (ts.map Tv.x) ≤ 1152921504606846975) :
    Calls Tryz.prog 106 #[ptrTo g] w fun e w' => e = .returned (.tuple #[]) ∧ w' = w.setCell ⟨g, 2, none⟩ (.int .i64 (totL (ts.map Tv.x))) := by
  unfold ptrTo
  have h0 : w.cell? ⟨g, 0, none⟩ = some (.slice A bs.length c) := h.head.cell 0
  have h2 : w.cell? ⟨g, 2, none⟩ = some (.int .i64 tot) := h.head.cell 2
  have hf := h.head.free 2
  have H := Lib.hid h; have HP := Lib.hid hp; clear h hp
  go_enter Tryz.func106, Tryz.ntmps106
  go_wp2
  go_loop [2, 10] (fun s i => ∃ k : Nat, k ≤ bs.length ∧ i = .int .i64 k ∧ s = .int .i64 (sumI ((powsOf (ts.map Tv.x)).take k))) (fun _ i => bs.length - (intOf i).toNat)
  case atStart => exact ⟨0, Nat.zero_le _, rfl, rfl⟩
  case round =>
    obtain ⟨k, hk, rfl, rfl⟩ := hrel
    by_cases hlt : k < bs.length
    · obtain ⟨b, t, hb, ht⟩ := H.out.at_ hlt
      obtain ⟨r, rfl, _, hp⟩ := H.out.ptr hb
      obtain ⟨_, hbv, hok⟩ := H.out.vals k b t hb ht
      obtain ⟨c0, c1, c2, c3⟩ := t.val_cells hbv
      have hst : (powsOf (ts.map Tv.x)).take (k + 1) = (powsOf (ts.map Tv.x)).take k ++ [t.x.pow] := map_take_succ ht
      have hpt := HP.out t (List.mem_of_getElem? ht)
      have hbd := sumI_part (powsOf (ts.map Tv.x)) (fun x hx => by
        obtain ⟨s, hs, rfl⟩ := List.mem_map.1 hx
        obtain ⟨u, hu, rfl⟩ := List.mem_map.1 hs
        exact HP.out u hu) k t.x.pow (by rw [powsOf, List.getElem?_map, List.getElem?_map, ht]; rfl)
      rw [show sumI (powsOf (ts.map Tv.x)) = totL (ts.map Tv.x) from rfl] at hbd
      have hs := sumI_snoc ((powsOf (ts.map Tv.x)).take k) t.x.pow
      rw [← hst] at hs
      generalize sumI ((powsOf (ts.map Tv.x)).take k) = s at *
      have hcl : clip (s + t.x.pow) = s + t.x.pow := clip_of ⟨by omega, by omega⟩
      have kc := fun W => addClip_any s t.x.pow W ⟨by omega, by omega⟩ ⟨by omega, by omega⟩
      rw [hcl] at kc
      have HS := Lib.hid hs; have HBV := Lib.hid hbv; have HOK := Lib.hid hok
      have KC := Lib.hid kc; clear kc hcl hs hbv hok hst hb ht
      go_wp2_with fail
      refine (KC.out _).mono ?_
      rintro e w1 ⟨rfl, rfl⟩
      go_wp2
      go_round
      case rel => exact ⟨k + 1, by omega, by go_num, by rw [HS.out]⟩
      case measure => simp [intOf]; omega
    · have hkn : k = bs.length := by omega
      have hsum : sumI ((powsOf (ts.map Tv.x)).take k) = totL (ts.map Tv.x) := by
        unfold totL; rw [List.take_of_length_le (by simp [powsOf, H.out.len]; omega)]
      rw [hsum]
      clear hsum
      go_wp2
      go_end0
      exact ⟨rfl, rfl⟩
set_option maxRecDepth 100000 in
set_option maxHeartbeats 6400000 in
theorem incrW_any (lo g : Nat) (A : Option Addr) (c : Nat) (bs : List Nat) (ts : List Tv) (prop : Value) (tot : Int) (same : Bool) (times : Nat) (w : World) (h : VSet w lo g A c bs ts prop tot same) (hn : bs.length ≤ 1000) (hn0 : 0 < bs.length)
    (ht : tot = totL (ts.map Tv.x)) (hTT : totL (ts.map Tv.x) ≤ 1152921504606846975) (hd : distinct (ts.map Tv.x)) (hp : ∀ t ∈ ts, -1152921504606846976 < t.x.pri ∧ t.x.pri < 1152921504606846976) (hw : ∀ t ∈ ts, 1 ≤ t.x.pow)
    (htm : 0 < times) (htm2 : times ≤ 100000) :
    Calls Tryz.prog 70 #[ptrTo g, .int .i32 times] w fun e w' => e = .returned (.tuple #[]) ∧ ∃ ts', ts'.map Tv.x = turnsL (totL (ts.map Tv.x)) times (startL (ts.map Tv.x)) ∧
      VSet w' lo g A c bs ts' (pval bs (propOf ((turnsL (totL (ts.map Tv.x)) (times - 1) (startL (ts.map Tv.x))).map addP))) (totL (ts.map Tv.x)) same ∧ OnlyV g bs w w' := by
  have hne : ts.map Tv.x ≠ [] := fun e => by
    have h1 := congrArg List.length e
    have := h.len
    simp at h1; rw [h1] at this; simp at this; omega
  have hlen : ts.length = bs.length := h.len
  have hT := totL_one (ts.map Tv.x) (fun x hx => by obtain ⟨t, ht, rfl⟩ := List.mem_map.1 hx; exact hw t ht)
  rw [List.length_map, hlen] at hT
  have hpwt := pow_tot (ts.map Tv.x) (fun x hx => by obtain ⟨t, ht, rfl⟩ := List.mem_map.1 hx; have := hw t ht; omega)
  obtain ⟨hs1, hs2⟩ := setOf_span (ts.map Tv.x) hne (fun x hx => by obtain ⟨t, ht, rfl⟩ := List.mem_map.1 hx; exact hp t ht)
  have HT := Lib.hid (tot_any lo g A c bs ts prop tot same w h (by omega))
  have hstart : startL (ts.map Tv.x) = shiftL (scaleL (2 * totL (ts.map Tv.x)) (ts.map Tv.x)) := rfl
  have hscore := scaleL_core (2 * totL (ts.map Tv.x)) (ts.map Tv.x)
  have hspri := scaleL_pri (2 * totL (ts.map Tv.x)) (ts.map Tv.x) 1152921504606846976 (fun s hs => by obtain ⟨t, ht, rfl⟩ := List.mem_map.1 hs; have := hp t ht; omega)
  have hgood : ∀ k, (turnsL (totL (ts.map Tv.x)) k (startL (ts.map Tv.x))).map core = (ts.map Tv.x).map core := fun k => (turnsL_core _ _ k).trans (startL_core _)
  have hgin := turnsL_in (totL (ts.map Tv.x)) _ (startL_in (ts.map Tv.x))
  unfold ptrTo at *
  have h0 : w.cell? ⟨g, 0, none⟩ = some (.slice A bs.length c) := h.head.cell 0
  have H := Lib.hid h; have HP := Lib.hid hp; have HW := Lib.hid hw; have HD := Lib.hid hd; have HG := Lib.hid hgood; have HGI := Lib.hid hgin; have HSP := Lib.hid hspri
  have HS1 := Lib.hid hs1; have HS2 := Lib.hid hs2; have HST := Lib.hid hstart; have HSC := Lib.hid hscore
  have hpows := Lib.hid (show ∀ s ∈ ts.map Tv.x, in64 s.pow from fun s hs => by have h2 := hpwt s hs; obtain ⟨t, ht, rfl⟩ := List.mem_map.1 hs; have := hw t ht; unfold in64; omega)
  have HTQ := Lib.hid ht
  clear h hp hw hd hgood hgin hspri hs1 hs2 hstart hscore ht hlen hne hpwt
  have htq := HTQ.out
  clear HTQ
  rw [htq] at H HT
  generalize htt : totL (ts.map Tv.x) = T at *
  have htq2 := htq.symm
  clear htt
  subst htq2
  go_enter Tryz.func70, Tryz.ntmps70
  go_wp2_with (first | (go_at_call 110; refine (nil_any g bs.length c A w h0 hn0).mono ?_; rintro e w' ⟨rfl, rfl⟩) | (go_at_call 87; refine HT.out.mono ?_; rintro e w1 ⟨rfl, rfl⟩))
  have hC2 := rescale_any lo g A c bs ts prop T same (2 * T) w H.out (by omega) hn0 HS1.out (by have := HS2.out; omega) (by omega) (fun t ht => by have := HP.out t ht; omega)
  have HC2 := Lib.hid hC2; clear hC2
  refine HC2.out.mono ?_
  rintro e w2 ⟨rfl, ts2, hm2, hv2, ho2⟩
  have hC3 := shift_any lo g A c bs ts2 prop T same w2 hv2 hn hn0 (fun t ht => by have := HSP.out t.x (by rw [← hm2]; exact List.mem_map_of_mem ht); omega)
  rw [hm2, ← HST.out] at hC3
  have HC3 := Lib.hid hC3; have HO2 := Lib.hid (ho2); clear hC3 hm2 hv2 ho2
  go_wp2_with (go_at_call 108; refine HC3.out.mono ?_; rintro e w3 ⟨rfl, ts3, hm3, hv3, ho3⟩; have HM3 := Lib.hid hm3; have HV3 := Lib.hid hv3; have HO3 := Lib.hid (HO2.out.trans ho3); clear hm3 hv3 ho3)
  go_loopw [5, 6] (fun p i wr => ∃ k : Nat, k ≤ times ∧ i = .int .i32 k ∧ Hid (∃ ts', ts'.map Tv.x = turnsL T k (startL (ts.map Tv.x)) ∧ VSet wr lo g A c bs ts' prop T same) ∧ Hid (OnlyV g bs w wr) ∧ Hid (k ≠ 0 → p = pval bs (propOf ((turnsL T (k - 1) (startL (ts.map Tv.x))).map addP)))) (fun _ i _ => times - (intOf i).toNat)
  case atStart => exact ⟨0, Nat.zero_le _, rfl, ⟨ts3, HM3.out, HV3.out⟩, HO3.out, fun h => absurd rfl h⟩
  case round =>
    obtain ⟨k, hk, rfl, HV, HO, HPR⟩ := hrel
    by_cases hlt : k < times
    · obtain ⟨ts4, hm4, hv4⟩ := HV.out
      have hcore : (ts4.map Tv.x).map core = (ts.map Tv.x).map core := by rw [hm4]; exact HG.out k
      have hd4 : distinct (ts4.map Tv.x) := distinct_of_core hcore HD.out
      have hp4 := pow_of_core (p := in64) hcore hpows.out
      have hC4 := inc_any lo g A c bs ts4 prop T same wr hv4 hn hn0 hd4 (by omega) (by omega) (fun t ht => ⟨HGI.out k t.x (by rw [← hm4]; exact List.mem_map_of_mem ht), hp4 t.x (List.mem_map_of_mem ht)⟩)
      rw [hm4] at hC4
      have HC4 := Lib.hid hC4; clear hC4 hm4 hv4 hcore hd4 hp4
      have hwk : wrap32 ((k : Int) + 1) = (k : Int) + 1 := by unfold wrap32; omega
      go_wp2_with (go_at_call 111; refine HC4.out.mono ?_; rintro e w5 ⟨rfl, ts5, hm5, hv5, ho5⟩; have HM5 := Lib.hid hm5; have HV5 := Lib.hid hv5; have HO5 := Lib.hid (HO.out.trans ho5); clear hm5 hv5 ho5)
      go_roundw
      case rel => exact ⟨k + 1, by omega, by go_num, ⟨ts5, HM5.out, HV5.out⟩, HO5.out, fun _ => rfl⟩
      case measure => simp [intOf]; omega
    · obtain rfl : k = times := by omega
      obtain ⟨ts4, hm4, hv4⟩ := HV.out
      have hpr := HPR.out (by omega)
      have h30 := hv4.head.cell 1
      have hf := hv4.head.free 1
      have hset := hv4.setProp u5
      have HM4 := Lib.hid hm4; have HSET := Lib.hid hset; have HPR2 := Lib.hid hpr
      clear hm4 hset hpr hv4
      have hpv : ∃ u, u5 = Value.pointer u := by rw [HPR2.out]; cases propOf ((turnsL T (k - 1) (startL (ts.map Tv.x))).map addP) <;> exact ⟨_, rfl⟩
      obtain ⟨u, rfl⟩ := hpv
      go_wp2
      go_end0
      refine ⟨rfl, ts4, HM4.out, ?_, HO.out.trans (OnlyV.putHead _ _ _)⟩
      rw [← HPR2.out]
      exact HSET.out
end Go.Proofs.YtikikddkhikfkaaGreatDoor

set_option linter.unusedSimpArgs false
namespace Go.Proofs.YtikikddkhikfkaaGreatDoor
open Go.RowKit

theorem and_low32 (n : Int) : bits .and .i64 n 4294967295 = n % 4294967296 := by
  simp only [bits]
  have h : (BitVec.ofInt 64 n &&& BitVec.ofInt 64 4294967295).toNat = (n % 4294967296).toNat := by
    rw [BitVec.toNat_and, show (BitVec.ofInt 64 4294967295).toNat = 2 ^ 32 - 1 from rfl, Nat.and_two_pow_sub_one_eq_mod, BitVec.toNat_ofInt]
    omega
  show IntKind.i64.wrap ((BitVec.ofInt 64 n &&& BitVec.ofInt 64 4294967295).toNat : Int) = _
  rw [h]
  simp [IntKind.wrap, IntKind.bits, IntKind.signed]
  omega
theorem tdiv_floor_neg {a n : Int} (hn : 0 < n) (h : a.tmod n < 0) : a.tdiv n - 1 = a / n ∧ a.tmod n + n = a % n := by
  have h1 := Int.mul_tdiv_add_tmod a n
  have h2 := Int.lt_tmod_of_pos a hn
  have e : a = (a.tmod n + n) + n * (a.tdiv n - 1) := by rw [Int.mul_sub, Int.mul_one]; omega
  constructor
  · conv => rhs; rw [e]
    rw [Int.add_mul_ediv_left _ _ (by omega), Int.ediv_eq_zero_of_lt (a := a.tmod n + n) (by omega) (by omega)]
    omega
  · conv => rhs; rw [e]
    rw [Int.add_mul_emod_self_left, Int.emod_eq_of_lt (by omega) (by omega)]
theorem tdiv_floor_pos {a n : Int} (hn : 0 < n) (h : ¬ a.tmod n < 0) : a.tdiv n = a / n ∧ a.tmod n = a % n := by
  have h1 := Int.mul_tdiv_add_tmod a n
  have h2 := Int.tmod_lt_of_pos a hn
  have e : a = a.tmod n + n * a.tdiv n := by omega
  constructor
  · conv => rhs; rw [e]
    rw [Int.add_mul_ediv_left _ _ (by omega), Int.ediv_eq_zero_of_lt (a := a.tmod n) (by omega) (by omega)]
    omega
  · conv => rhs; rw [e]
    rw [Int.add_mul_emod_self_left, Int.emod_eq_of_lt (by omega) (by omega)]

set_option maxHeartbeats 800000 in
theorem floor_any (a n : Int) (b : Nat) (w : World) (hb : w.cell? ⟨b, 0, none⟩ = some (.int .i64 n)) (hn : 0 < n) (hn2 : n ≤ 1000000) (ha : -4611686018427387904 ≤ a ∧ a ≤ 4611686018427387904) :
    Calls Tryz.prog 97 #[.int .i64 a, .pointer (some ⟨b, 0, none⟩)] w fun e w' => e = .returned (.tuple #[.int .i64 (a / n), .int .i64 (a % n)]) ∧ ∃ k, w' = w.drewN k := by
  have hz : (n == 0) = false := by rw [beq_eq_false_iff_ne]; omega
  have hq : (a.tdiv n).natAbs ≤ a.natAbs := by rw [Int.natAbs_tdiv]; exact Nat.div_le_self _ _
  have hr1 := Int.tmod_lt_of_pos a hn
  have hr2 := Int.lt_tmod_of_pos a hn
  have w1 : wrap64 (a.tdiv n) = a.tdiv n := by unfold wrap64; omega
  by_cases h : a.tmod n < 0
  · obtain ⟨e1, e2⟩ := tdiv_floor_neg hn h
    have w2 : wrap64 (a.tdiv n - 1) = a.tdiv n - 1 := by unfold wrap64; omega
    have w3 : wrap64 (a.tmod n + n) = a.tmod n + n := by unfold wrap64; omega
    have E1 := Lib.hid e1; have E2 := Lib.hid e2; clear e1 e2
    go_enter Tryz.func97, Tryz.ntmps97
    go_wp2_with fail
    go_quiet (fail)
    go_wp2_with fail
    go_quiet (fail)
    go_wp2
    go_ret2
    exact ⟨by rw [E1.out, E2.out]; rfl, _, by first | rfl | exact World.drewN_drewN ..⟩
  · obtain ⟨e1, e2⟩ := tdiv_floor_pos hn h
    have h' : decide (a.tmod n < 0) = false := by simpa using h
    have E1 := Lib.hid e1; have E2 := Lib.hid e2; clear e1 e2 h
    go_enter Tryz.func97, Tryz.ntmps97
    go_wp2_with fail
    go_quiet (fail)
    go_wp2
    go_ret2
    exact ⟨by rw [E1.out, E2.out]; rfl, _, by first | rfl | exact World.drewN_drewN ..⟩

/-- the mean out of the upper and the lower halves -/
theorem avg_halves (H L n : Int) (hn : 0 < n) : H / n * 4294967296 + (H % n * 4294967296 + L) / n = (H * 4294967296 + L) / n := by
  have h := Int.mul_ediv_add_emod H n
  have e : H * 4294967296 + L = (H % n * 4294967296 + L) + n * (H / n * 4294967296) := by
    have : n * (H / n * 4294967296) = n * (H / n) * 4294967296 := (Int.mul_assoc ..).symm
    rw [this]; omega
  rw [e, Int.add_mul_ediv_left _ _ (by omega)]
  omega
def hisOf (l : List Int) : List Int := l.map (· / 4294967296)
def losOf (l : List Int) : List Int := l.map (· % 4294967296)
theorem halves_sum (l : List Int) : sumI (hisOf l) * 4294967296 + sumI (losOf l) = sumI l := by
  induction l with
  | nil => rfl
  | cons x r ih =>
    simp only [hisOf, losOf, List.map_cons] at ih ⊢
    rw [sumI_cons, sumI_cons, sumI_cons]
    omega

set_option maxRecDepth 100000 in
set_option maxHeartbeats 3200000 in
theorem average_any (l : List Sd) (A : Option Addr) (n c : Nat) (w : World) (hr : Rd w w.heap.size 4 A n (cellsOf l)) (hn : n ≤ 1000) (hn0 : 0 < n) (hp : ∀ x ∈ l, -4611686018427387904 ≤ x.pri ∧ x.pri ≤ 4611686018427387904) :
    Calls Tryz.prog 67 #[.slice A n c] w fun e w' => e = .returned (.int .i64 (avgL l)) ∧ Below w.heap.size w w' := by
  have hln := hr.len
  have HL := Lib.hid hln
  have HR := Lib.hid hr; have HP := Lib.hid hp; clear hr hp
  have hbdH := sumI_bd (hisOf (prisOf l)) (-1073741824) 1073741824 (fun x hx => by
    obtain ⟨p, hp, rfl⟩ := List.mem_map.1 hx
    obtain ⟨s, hs, rfl⟩ := List.mem_map.1 hp
    have := HP.out s hs
    omega)
  have hbdL := sumI_bd (losOf (prisOf l)) 0 4294967295 (fun x hx => by
    obtain ⟨p, hp, rfl⟩ := List.mem_map.1 hx
    omega)
  have hlH : (hisOf (prisOf l)).length = n := by simp [hisOf, prisOf, hln]
  have hlL : (losOf (prisOf l)).length = n := by simp [losOf, prisOf, hln]
  rw [hlH] at hbdH; rw [hlL] at hbdL
  have HH := Lib.hid hlH; have HLL := Lib.hid hlL; clear hlH hlL
  have hav : avgL l = sumI (hisOf (prisOf l)) / n * 4294967296 + (sumI (hisOf (prisOf l)) % n * 4294967296 + sumI (losOf (prisOf l))) / n := by
    rw [avg_halves _ _ _ (by omega), halves_sum]; unfold avgL; rw [hln]
  have hab : -4611686018427387904 ≤ avgL l ∧ avgL l ≤ 4611686018427387904 := avgL_bd l (by rintro rfl; simp at hln; omega) _ HP.out
  have HAV := Lib.hid hav; clear hav hln
  go_enter Tryz.func67, Tryz.ntmps67
  go_wp2
  go_loopw [4, 5, 17] (fun hi lo i wr => ∃ k : Nat, k ≤ n ∧ i = .int .i64 k ∧ hi = .int .i64 (sumI ((hisOf (prisOf l)).take k)) ∧ lo = .int .i64 (sumI ((losOf (prisOf l)).take k)) ∧ Hid (Blk wr w.heap.size 3 #[.int .i64 n]) ∧ Hid (Below w.heap.size w wr)) (fun _ _ i _ => n - (intOf i).toNat)
  case atStart => exact ⟨0, Nat.zero_le _, rfl, rfl, rfl, Blk.new _ _ _, (Below.refl _ _).alloc (Nat.le_refl _) _⟩
  case round =>
    obtain ⟨k, hk, rfl, rfl, rfl, HG, HB⟩ := hrel
    by_cases hlt : k < n
    · have hk' : k < l.length := by have := HL.out; omega
      have hx : l[k]? = some l[k] := List.getElem?_eq_getElem hk'
      obtain ⟨ad, rfl, _, c0, c1, c2, c3⟩ := (HR.out.below HB.out).seat hx
      have hpx := HP.out _ (List.getElem_mem hk')
      have hstH : (hisOf (prisOf l)).take (k + 1) = (hisOf (prisOf l)).take k ++ [l[k].pri / 4294967296] := by
        have hl2 : k < (hisOf (prisOf l)).length := by rw [HH.out]; exact hlt
        rw [List.take_succ_eq_append_getElem hl2]; simp [hisOf, prisOf]
      have hstL : (losOf (prisOf l)).take (k + 1) = (losOf (prisOf l)).take k ++ [l[k].pri % 4294967296] := by
        have hl2 : k < (losOf (prisOf l)).length := by rw [HLL.out]; exact hlt
        rw [List.take_succ_eq_append_getElem hl2]; simp [losOf, prisOf]
      have hbH := sumI_bd ((hisOf (prisOf l)).take k) (-1073741824) 1073741824 (fun x hx => by
        obtain ⟨p, hp, rfl⟩ := List.mem_map.1 (List.mem_of_mem_take hx)
        obtain ⟨s, hs, rfl⟩ := List.mem_map.1 hp
        have := HP.out s hs
        omega)
      have hbL := sumI_bd ((losOf (prisOf l)).take k) 0 4294967295 (fun x hx => by
        obtain ⟨p, hp, rfl⟩ := List.mem_map.1 (List.mem_of_mem_take hx)
        omega)
      have hlen1 : ((hisOf (prisOf l)).take k).length ≤ k := List.length_take_le _ _
      have hlen2 : ((losOf (prisOf l)).take k).length ≤ k := List.length_take_le _ _
      generalize ((hisOf (prisOf l)).take k).length = m1 at *
      generalize ((losOf (prisOf l)).take k).length = m2 at *
      generalize l[k] = x at *
      have hs1 := sumI_snoc ((hisOf (prisOf l)).take k) (x.pri / 4294967296)
      have hs2 := sumI_snoc ((losOf (prisOf l)).take k) (x.pri % 4294967296)
      rw [← hstH] at hs1; rw [← hstL] at hs2
      generalize sumI ((hisOf (prisOf l)).take k) = sh at *
      generalize sumI ((losOf (prisOf l)).take k) = sl at *
      have hand := and_low32 x.pri
      have HS1 := Lib.hid hs1; have HS2 := Lib.hid hs2; clear hs1 hs2 hstH hstL hx
      go_wp2
      go_roundw
      case rel => exact ⟨k + 1, by omega, by go_num, by rw [HS1.out], by rw [HS2.out], HG.out.alloc _, HB.out.alloc HB.out.size _⟩
      case measure => simp [intOf]; omega
    · obtain rfl : k = n := by omega
      rw [List.take_of_length_le (by rw [HH.out]; exact Nat.le_refl _), List.take_of_length_le (by rw [HLL.out]; exact Nat.le_refl _)]
      generalize sumI (hisOf (prisOf l)) = sh at *
      generalize sumI (losOf (prisOf l)) = sl at *
      have g0 : wr.cell? ⟨w.heap.size, 0, none⟩ = some (.int .i64 k) := HG.out.cell 0
      have hm1 := Int.emod_nonneg sh (b := (k : Int)) (by omega)
      have hm2 := Int.emod_lt_of_pos sh (b := (k : Int)) (by omega)
      have KC1 := Lib.hid (floor_any sh k w.heap.size wr g0 (by omega) (by omega) (by omega))
      have KC2 := Lib.hid (fun q => floor_any (sh % k * 4294967296 + sl) k w.heap.size (wr.drewN q) g0 (by omega) (by omega) (by omega))
      have hq0 : -1073741824 ≤ sh / (k : Int) := by
        rw [Int.le_ediv_iff_mul_le (by omega), Int.mul_comm]; exact hbdH.1
      have hq1 : sh / (k : Int) ≤ 1073741824 := by
        have := Int.ediv_le_ediv (show (0 : Int) < k by omega) hbdH.2
        rw [Int.mul_ediv_cancel_left _ (by omega)] at this
        exact this
      have hav := HAV.out
      rw [hav] at hab
      generalize (sh % k * 4294967296 + sl) / k = p2 at *
      generalize sh / k = q2 at *
      have HV := Lib.hid hav; clear hav
      go_wp2_with fail
      refine KC1.out.mono ?_
      rintro e w1 ⟨rfl, q1, rfl⟩
      go_wp2_with fail
      refine (KC2.out _).mono ?_
      rintro e w1 ⟨rfl, q3, rfl⟩
      go_wp2
      go_ret
      exact ⟨ret_int HV.out.symm, below_drewN HB.out _⟩
end Go.Proofs.YtikikddkhikfkaaGreatDoor

set_option linter.unusedSimpArgs false
namespace Go.Proofs.YtikikddkhikfkaaGreatDoor
open Go.RowKit

set_option maxRecDepth 100000 in
set_option maxHeartbeats 3200000 in
theorem shifted_any (l : List Sd) (A : Option Addr) (n c : Nat) (w : World) (hr : Rd w w.heap.size 4 A n (cellsOf l)) (hn : n ≤ 1000) (hn0 : 0 < n) (hp : ∀ x ∈ l, -4611686018427387904 ≤ x.pri ∧ x.pri ≤ 4611686018427387904) :
    Calls Tryz.prog 39 #[.slice A n c] w fun e w' => ∃ A' c', e = .returned (.slice A' n c') ∧ w'.ownsRow w.heap.size 57 4 (.slice A' n c') n (cellsOf (shiftL l)) ∧ Below w.heap.size w w' := by
  obtain ⟨i0, hi, hz0, hz1, hz2⟩ := info_parts infoSeat
  have HI := Lib.hid hi; have HZ0 := Lib.hid hz0; have HZ1 := Lib.hid hz1; have HZ2 := Lib.hid hz2
  clear hi hz0 hz1 hz2
  have hln := hr.len
  have hz : ((n : Int) == 0) = false := by simp; omega
  have hab : -4611686018427387904 ≤ avgL l ∧ avgL l ≤ 4611686018427387904 := avgL_bd l (by rintro rfl; simp at hln; omega) _ hp
  have HL := Lib.hid hln; have HR := Lib.hid hr; have HP := Lib.hid hp; clear hr hp hln
  have hsh : shiftL l = l.map (subP (avgL l)) := rfl
  have HSH := Lib.hid hsh; clear hsh
  go_enter Tryz.func39, Tryz.ntmps39
  go_wp2_with (at_builtin; refine wpList_app w rfl (.const (.slice none 0 0)) (.tmp 6) 24 rfl w.heap.size 57 i0 _ 4 48 Tryz.underlying24 HI.out HZ0.out HZ1.out HZ2.out rfl (by decide) (.slice none 0 0) 0 [] rfl (World.ownsRow_nil w w.heap.size _ _) w.heap.size A n c (cellsOf l) rfl HR.out (cellsOf_one l) ?q1 ?q2 (Nat.le_refl _) ?_; (case q1 => simp only [maxLen]; omega); (case q2 => omega); intro A1 c1 w1 hown hg _; simp only [Nat.zero_add, List.nil_append] at hown; have HO := Lib.hid hown; have HB := Lib.hid ((Below.refl w.heap.size w).grown hg (Nat.le_refl _) (by simp [Value.ownBlock])); clear hown hg)
  have KC := Lib.hid (average_any l A n c w1 ((HR.out.below HB.out).more HB.out.size) hn hn0 HP.out)
  generalize avgL l = av at *
  refine KC.out.mono ?_
  rintro e w2 ⟨rfl, hb2⟩
  have ho2 := own_below HO.out hb2 (Nat.le_refl _)
  have HO2 := Lib.hid ho2; have HB2 := Lib.hid (HB.out.trans (hb2.mono HB.out.size)); clear ho2 hb2
  have hneg : wrap64 (-av) = -av := by unfold wrap64; omega
  go_wp2
  go_loopw [16] (fun i wx => ∃ j : Nat, j ≤ n ∧ i = .int .i64 j ∧ Hid (wx.ownsRow w.heap.size 57 4 (.slice A1 n c1) n (cellsOf (mapTo (subP av) l j))) ∧ Hid (Below w.heap.size w wx)) (fun i _ => n - (intOf i).toNat)
  case atStart => exact ⟨0, Nat.zero_le _, rfl, by rw [mapTo_zero]; exact HO2.out, HB2.out⟩
  case round =>
    obtain ⟨j, hj, rfl, HO3, HB3⟩ := hrel
    by_cases hjk : j < n
    · have hjl : j < l.length := by have := HL.out; omega
      have hx : l[j]? = some l[j] := List.getElem?_eq_getElem hjl
      have hx' := mapTo_get (subP av) l j _ hx
      have hsu := mapTo_succ (subP av) l j _ hx
      have hpx := HP.out _ (List.getElem_mem hjl)
      generalize l[j] = x at *
      obtain ⟨g, cap, hv, hg0, hg1⟩ := HO3.out.form (by omega)
      have e1 : A1 = some ⟨g, 0, none⟩ := by injection hv
      subst e1
      clear hv
      obtain ⟨x0, x1, x2, x3⟩ := own_seat HO3.out hx'
      have hf := own_free HO3.out
      have hset := own_pri (q := clip (x.pri + -av)) HO3.out hx'
      have e2 : (mapTo (subP av) l j).set j { x with pri := clip (x.pri + -av) } = mapTo (subP av) l (j + 1) := hsu
      rw [e2] at hset
      have KP := Lib.hid (fun W => plus_any x.pri (-av) W ⟨by omega, by omega⟩ ⟨by omega, by omega⟩)
      have HSET := Lib.hid hset; clear hset e2 hsu x0 x1 x2 hx hx'
      generalize clip (x.pri + -av) = q at *
      go_wp2_with (go_at_call 68; refine (KP.out _).mono ?_; rintro e w5 ⟨rfl, rfl⟩)
      go_roundw
      case rel => exact ⟨j + 1, by omega, by go_num, HSET.out, HB3.out.setCell (p := ⟨g, j * 4 + 3, none⟩) hg0 _⟩
      case measure => simp [intOf]; omega
    · have hfin := HO3.out
      rw [mapTo_full _ _ _ (by have := HL.out; omega)] at hfin
      have HF := Lib.hid hfin; clear hfin
      go_wp2
      go_ret
      rw [HSH.out]
      exact ⟨A1, c1, rfl, HF.out, HB3.out⟩
end Go.Proofs.YtikikddkhikfkaaGreatDoor
