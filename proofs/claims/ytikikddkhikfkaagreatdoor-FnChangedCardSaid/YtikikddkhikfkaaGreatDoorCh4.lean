/-
  types.Seats and impl.ours: walks. By the session. impl.Scaled and spec.Scaled: walks. By the session. IncrementProposerPriority: the walk. By the session. Validator.Copy, GetProposer, impl.first, impl.Turned: walks. By the session. A region that draws its order, with guarded operations. By the session. validatorListCopy, ValidatorSet.Copy, CopyIncrementProposerPriority, impl.Copied: walks. By the session. validatorListCopy over a slice of validators: the walk. By the session. A validator of a set by its address: GetByAddressMut, HasAddress, and the specification's at: walks. By the session. Changes of a set against the set: how many are new, what a change adds, whether those who go are there, the new priorities: walks. By the session. verifyRemovals and errors.New: walks. By the session.
-/
import Derived.Test.YtikikddkhikfkaaGreatDoorCh3
import Derived.Test.YtikikddkhikfkaaGreatDoorCh2
import Derived.RegionTactic
import Derived.Deep.RegionHeld3
import Derived.Test.YtikikddkhikfkaaGreatDoorCh1
import Derived.WalkSpells
import Derived.Handy
import Derived.BigQuiet
set_option linter.unusedSimpArgs false
namespace Go.Proofs.YtikikddkhikfkaaGreatDoor
open Go.RowKit

set_option maxRecDepth 100000 in
set_option maxHeartbeats 3200000 in
theorem tseats_any (lo g : Nat) (A : Option Addr) (c : Nat) (bs : List Nat) (ts : List Tv) (prop : Value) (tot : Int) (same : Bool) (w : World) (h : VSet w lo g A c bs ts prop tot same) (hn : bs.length ≤ 1000000) :
    Calls Tryz.prog 66 #[ptrTo g] w fun e w' => ∃ (A' : Option Addr) (c' : Nat), e = .returned (.slice A' bs.length c') ∧ Rd w' w'.heap.size 4 A' bs.length (ts.flatMap Tv.seat) ∧ Below w.heap.size w w' := by
  unfold ptrTo
  obtain ⟨i0, hi0, hz0, hz1, hz2⟩ := info_parts infoTSeat
  have HI := Lib.hid hi0; have HZ0 := Lib.hid hz0; have HZ1 := Lib.hid hz1; have HZ2 := Lib.hid hz2
  clear hi0 hz0 hz1 hz2
  have h0 : w.cell? ⟨g, 0, none⟩ = some (.slice A bs.length c) := h.head.cell 0
  have H := Lib.hid h; clear h
  go_enter Tryz.func66, Tryz.ntmps66
  go_wp2
  go_loopw [3, 11] (fun v i wr => ∃ (k : Nat) (A1 : Option Addr) (c1 : Nat), k ≤ bs.length ∧ i = .int .i64 k ∧ v = .slice A1 k c1 ∧ Hid (wr.ownsRow w.heap.size 130 4 (.slice A1 k c1) k ((ts.take k).flatMap Tv.seat)) ∧ Hid (Below w.heap.size w wr)) (fun _ i _ => bs.length - (intOf i).toNat)
  case atStart => exact ⟨0, none, 0, Nat.zero_le _, rfl, rfl, World.ownsRow_nil _ _ _ _, Below.refl _ _⟩
  case round =>
    obtain ⟨k, A1, c1, hk, rfl, rfl, HO, HB⟩ := hrel
    have hz := HB.out.size
    by_cases hlt : k < bs.length
    · have hv := H.out.keep (KeepV.of_below lo HB.out (Nat.le_refl _))
      obtain ⟨b, t, hb, ht⟩ := hv.at_ hlt
      obtain ⟨r, rfl, _, hp⟩ := hv.ptr hb
      obtain ⟨_, hbv, hok⟩ := hv.vals k b t hb ht
      obtain ⟨d0, d1, d2, d3⟩ := t.val_cells hbv
      have hst : ts.take (k + 1) = ts.take k ++ [t] := by
        have h1 := List.getElem?_eq_some_iff.1 ht
        rw [List.take_succ_eq_append_getElem h1.1, h1.2]
      have hbl := hbv.lt
      have HST := Lib.hid hst; have HBV := Lib.hid hbv; have HBB := Lib.hid hb; have HTT := Lib.hid ht; have HVV := Lib.hid hv; have HOK := Lib.hid hok
      clear hst hbv hb ht hv hok
      have km := fun W => method_bytes t.K t.A t.x.key.size t.d t.x.adr.size t.c W
      go_wp2_with fail
      have HS : Hid ((fun w' : World => w'.cell? ⟨b, 0, none⟩ = some (.slice t.A t.x.adr.size t.c) ∧ w'.cell? ⟨b, 1, none⟩ = some (.iface 132 (.agg #[.slice t.K t.x.key.size t.d, .slice t.A t.x.adr.size t.c, .bool false])) ∧ w'.cell? ⟨b, 2, none⟩ = some (.int .i64 t.x.pow) ∧ w'.cell? ⟨b, 3, none⟩ = some (.int .i64 t.x.pri)) wr.drew) := Lib.hid ⟨d0, d1, d2, d3⟩
      refine wp_region_L (fun w' : World => w'.cell? ⟨b, 0, none⟩ = some (.slice t.A t.x.adr.size t.c) ∧ w'.cell? ⟨b, 1, none⟩ = some (.iface 132 (.agg #[.slice t.K t.x.key.size t.d, .slice t.A t.x.adr.size t.c, .bool false])) ∧ w'.cell? ⟨b, 2, none⟩ = some (.int .i64 t.x.pow) ∧ w'.cell? ⟨b, 3, none⟩ = some (.int .i64 t.x.pri)) 21 (by kernel_rfl) ?_
      refine wpAnyL_take 0 (v := .slice A1 k c1) rfl (by kernel_rfl) (fun _ _ _ h => h) (yields_in rfl (fun w' hw' => by obtain ⟨y0, y1, y2, y3⟩ := hw'; go_simp)) HS.out ?_
      simp only [Act.put, List.setIfInBounds_toArray, List.set_cons_zero, List.set_cons_succ]
      refine wpAnyL_take 1 (v := .pointer (some ⟨b, 0, none⟩)) rfl (by kernel_rfl) (fun _ _ _ h => h) (yields_in rfl (fun w' hw' => by obtain ⟨y0, y1, y2, y3⟩ := hw'; go_simp)) HS.out ?_
      simp only [Act.put, List.setIfInBounds_toArray, List.set_cons_zero, List.set_cons_succ]
      refine wpAnyL_take 2 (v := .pointer (some ⟨b, 0, none⟩)) rfl (by kernel_rfl) (fun _ _ _ h => h) (yields_in rfl (fun w' hw' => by obtain ⟨y0, y1, y2, y3⟩ := hw'; go_simp)) HS.out ?_
      simp only [Act.put, List.setIfInBounds_toArray, List.set_cons_zero, List.set_cons_succ]
      refine wpAnyL_take 3 (v := .pointer (some ⟨b, 0, none⟩)) rfl (by kernel_rfl) (fun _ _ _ h => h) (yields_in rfl (fun w' hw' => by obtain ⟨y0, y1, y2, y3⟩ := hw'; go_simp)) HS.out ?_
      simp only [Act.put, List.setIfInBounds_toArray, List.set_cons_zero, List.set_cons_succ]
      refine wpAnyL_take 4 (v := .slice t.A t.x.adr.size t.c) rfl (by kernel_rfl) (fun _ _ _ h => h) (yields_in rfl (fun w' hw' => by obtain ⟨y0, y1, y2, y3⟩ := hw'; go_simp)) HS.out ?_
      simp only [Act.put, List.setIfInBounds_toArray, List.set_cons_zero, List.set_cons_succ]
      refine wpAnyL_take 5 (v := .pointer (some ⟨b, 0, none⟩)) rfl (by kernel_rfl) (fun _ _ _ h => h) (yields_in rfl (fun w' hw' => by obtain ⟨y0, y1, y2, y3⟩ := hw'; go_simp)) HS.out ?_
      simp only [Act.put, List.setIfInBounds_toArray, List.set_cons_zero, List.set_cons_succ]
      refine wpAnyL_take 6 (v := .pointer (some ⟨b, 0, none⟩)) rfl (by kernel_rfl) (fun _ _ _ h => h) (yields_in rfl (fun w' hw' => by obtain ⟨y0, y1, y2, y3⟩ := hw'; go_simp)) HS.out ?_
      simp only [Act.put, List.setIfInBounds_toArray, List.set_cons_zero, List.set_cons_succ]
      refine wpAnyL_take 7 (v := .pointer (some ⟨b, 1, none⟩)) rfl (by kernel_rfl) (fun _ _ _ h => h) (yields_in rfl (fun w' hw' => by obtain ⟨y0, y1, y2, y3⟩ := hw'; go_simp)) HS.out ?_
      simp only [Act.put, List.setIfInBounds_toArray, List.set_cons_zero, List.set_cons_succ]
      refine wpAnyL_take 8 (v := .iface 132 (.agg #[.slice t.K t.x.key.size t.d, .slice t.A t.x.adr.size t.c, .bool false])) rfl (by kernel_rfl) (fun _ _ _ h => h) (yields_in rfl (fun w' hw' => by obtain ⟨y0, y1, y2, y3⟩ := hw'; go_simp)) HS.out ?_
      simp only [Act.put, List.setIfInBounds_toArray, List.set_cons_zero, List.set_cons_succ]
      refine wpAnyL_take 10 (v := .pointer (some ⟨b, 0, none⟩)) rfl (by kernel_rfl) (fun _ _ _ h => h) (yields_in rfl (fun w' hw' => by obtain ⟨y0, y1, y2, y3⟩ := hw'; go_simp)) HS.out ?_
      simp only [Act.put, List.setIfInBounds_toArray, List.set_cons_zero, List.set_cons_succ]
      refine wpAnyL_take 11 (v := .pointer (some ⟨b, 0, none⟩)) rfl (by kernel_rfl) (fun _ _ _ h => h) (yields_in rfl (fun w' hw' => by obtain ⟨y0, y1, y2, y3⟩ := hw'; go_simp)) HS.out ?_
      simp only [Act.put, List.setIfInBounds_toArray, List.set_cons_zero, List.set_cons_succ]
      refine wpAnyL_take 12 (v := .pointer (some ⟨b, 2, none⟩)) rfl (by kernel_rfl) (fun _ _ _ h => h) (yields_in rfl (fun w' hw' => by obtain ⟨y0, y1, y2, y3⟩ := hw'; go_simp)) HS.out ?_
      simp only [Act.put, List.setIfInBounds_toArray, List.set_cons_zero, List.set_cons_succ]
      refine wpAnyL_take 13 (v := .int .i64 t.x.pow) rfl (by kernel_rfl) (fun _ _ _ h => h) (yields_in rfl (fun w' hw' => by obtain ⟨y0, y1, y2, y3⟩ := hw'; go_simp)) HS.out ?_
      simp only [Act.put, List.setIfInBounds_toArray, List.set_cons_zero, List.set_cons_succ]
      refine wpAnyL_take 14 (v := .pointer (some ⟨b, 0, none⟩)) rfl (by kernel_rfl) (fun _ _ _ h => h) (yields_in rfl (fun w' hw' => by obtain ⟨y0, y1, y2, y3⟩ := hw'; go_simp)) HS.out ?_
      simp only [Act.put, List.setIfInBounds_toArray, List.set_cons_zero, List.set_cons_succ]
      refine wpAnyL_take 15 (v := .pointer (some ⟨b, 0, none⟩)) rfl (by kernel_rfl) (fun _ _ _ h => h) (yields_in rfl (fun w' hw' => by obtain ⟨y0, y1, y2, y3⟩ := hw'; go_simp)) HS.out ?_
      simp only [Act.put, List.setIfInBounds_toArray, List.set_cons_zero, List.set_cons_succ]
      refine wpAnyL_take 16 (v := .pointer (some ⟨b, 3, none⟩)) rfl (by kernel_rfl) (fun _ _ _ h => h) (yields_in rfl (fun w' hw' => by obtain ⟨y0, y1, y2, y3⟩ := hw'; go_simp)) HS.out ?_
      simp only [Act.put, List.setIfInBounds_toArray, List.set_cons_zero, List.set_cons_succ]
      refine wpAnyL_take 17 (v := .int .i64 t.x.pri) rfl (by kernel_rfl) (fun _ _ _ h => h) (yields_in rfl (fun w' hw' => by obtain ⟨y0, y1, y2, y3⟩ := hw'; go_simp)) HS.out ?_
      simp only [Act.put, List.setIfInBounds_toArray, List.set_cons_zero, List.set_cons_succ]
      refine wpAnyL_one 9 rfl (by kernel_rfl) rfl ?_
      go_simp
      refine (kbytes_any _ _ _ _ _ _ _).mono ?_
      rintro e w1 ⟨rfl, hb1⟩
      have HB1 := Lib.hid hb1; clear hb1
      have hz1 : wr.heap.size ≤ w1.heap.size := HB1.out.size
      have hv1 := HBV.out.drew.belowS HB1.out
      have HV1 := Lib.hid hv1; clear hv1
      refine ⟨⟨HV1.out.cell 0, HV1.out.cell 1, HV1.out.cell 2, HV1.out.cell 3⟩, ?_⟩
      refine wpAnyL_one 18 rfl (by kernel_rfl) rfl ?_
      go_simp
      refine ⟨⟨HV1.out.cell 0, HV1.out.cell 1, HV1.out.cell 2, HV1.out.cell 3⟩, ?_⟩
      refine wpAnyL_one 19 rfl (by kernel_rfl) rfl ?_
      go_simp
      have HV2 := Lib.hid (HV1.out.alloc (.cells #[.slice t.A t.x.adr.size t.c, .slice t.K t.x.key.size t.d, .int .i64 t.x.pow, .int .i64 t.x.pri] 130))
      refine ⟨⟨HV2.out.cell 0, HV2.out.cell 1, HV2.out.cell 2, HV2.out.cell 3⟩, ?_⟩
      refine wpAnyL_one 20 rfl (by kernel_rfl) rfl ?_
      refine wp_app _ (.tmp 15) (.tmp 34) 77 rfl w.heap.size 130 i0 _ 4 64 Tryz.underlying77 HI.out HZ0.out HZ1.out HZ2.out rfl (by decide) (.slice A1 k c1) k ((ts.take k).flatMap Tv.seat) rfl ?ho (w1.heap.size + 1) (some ⟨w1.heap.size, 0, none⟩) 1 1 t.seat rfl ?hr (Tv.seat_one _) ?q1 ?q2 ?hb ?_
      case q1 => simp only [maxLen]; omega
      case q2 => omega
      case hr => exact (Rd.new _ _ _ 4 1 _ rfl rfl)
      case ho => exact (own_below (own_below (own_drewN HO.out 1) HB1.out (Nat.le_refl _)) ((Below.refl _ _).alloc (Nat.le_refl _) _) (Nat.le_refl _))
      case hb => simp; omega
      intro A2 c2 w2 hown2 hg2 hat2
      rw [flat_snoc] at hown2
      have HO2 := Lib.hid hown2; clear hown2
      have HG2 := Lib.hid hg2; clear hg2
      have HV3 := Lib.hid (HV2.out.grown HG2.out (own_ne_blk HO.out HBV.out (by decide)))
      refine ⟨fun _ => ⟨HV3.out.cell 0, HV3.out.cell 1, HV3.out.cell 2, HV3.out.cell 3⟩, ?_⟩
      simp only [Act.put, List.setIfInBounds_toArray, List.set_cons_zero, List.set_cons_succ]
      refine wpAnyL_one 21 rfl (by kernel_rfl) rfl ?_
      go_simp
      refine wpAnyL_done (by kernel_rfl) ?_ _
      go_wp2
      go_roundw
      case rel =>
        refine ⟨k + 1, A2, c2, by omega, by go_num, rfl, ?_, ?_⟩
        · rw [HST.out]; exact HO2.out
        · exact ((HB.out.drew.trans (HB1.out.mono hz)).alloc (by omega) _).grown HG2.out (by simp; omega) (own_base HO.out)
      case measure => simp [intOf]; omega
    · have hkn : k = bs.length := by omega
      subst hkn
      go_wp2_with fail
      go_ret
      refine ⟨A1, c1, rfl, ?_, HB.out⟩
      have h1 := Rd.of_own HO.out
      rw [List.take_of_length_le (by have := H.out.len; omega)] at h1
      exact h1

set_option maxRecDepth 100000 in
set_option maxHeartbeats 3200000 in
theorem ours_any (lo g : Nat) (A : Option Addr) (c : Nat) (bs : List Nat) (ts : List Tv) (prop : Value) (tot : Int) (same : Bool) (w : World) (h : VSet w lo g A c bs ts prop tot same) (hn : bs.length ≤ 1000000) :
    Calls Tryz.prog 36 #[ptrTo g] w fun e w' => ∃ (A' : Option Addr) (c' : Nat), e = .returned (.slice A' bs.length c') ∧ Rd w' w'.heap.size 4 A' bs.length (cellsOf (ts.map Tv.x)) ∧ Below w.heap.size w w' := by
  have hc := tseats_any lo g A c bs ts prop tot same w h hn
  obtain ⟨i0, hi0, hz0, hz1, hz2⟩ := info_parts infoISeat
  have HI := Lib.hid hi0; have HZ0 := Lib.hid hz0; have HZ1 := Lib.hid hz1; have HZ2 := Lib.hid hz2
  clear hi0 hz0 hz1 hz2
  have hlen : bs.length = ts.length := h.len.symm
  have hok : ∀ t ∈ ts, t.ok w := fun t ht => by
    obtain ⟨j, hj, rfl⟩ := List.getElem_of_mem ht
    exact (h.vals j _ _ (List.getElem?_eq_getElem (by omega)) (List.getElem?_eq_getElem hj)).2.2
  have HL := Lib.hid hlen; have HOK := Lib.hid hok; have HC := Lib.hid hc
  clear h hlen hok hc
  unfold ptrTo
  go_enter Tryz.func36, Tryz.ntmps36
  go_wp2_with (refine HC.out.mono ?_; rintro e w1 ⟨A1, c1, rfl, hr1, hb1⟩; have HR1 := Lib.hid hr1; have HB1 := Lib.hid hb1; clear hr1 hb1)
  go_loopw [3, 9] (fun v i wr => ∃ (k : Nat) (A2 : Option Addr) (c2 : Nat), k ≤ bs.length ∧ i = .int .i64 k ∧ v = .slice A2 k c2 ∧ Hid (wr.ownsRow w1.heap.size 28 4 (.slice A2 k c2) k (cellsOf ((ts.take k).map Tv.x))) ∧ Hid (Below w1.heap.size w1 wr)) (fun _ i _ => bs.length - (intOf i).toNat)
  case atStart => exact ⟨0, none, 0, Nat.zero_le _, rfl, rfl, World.ownsRow_nil _ _ _ _, Below.refl _ _⟩
  case round =>
    obtain ⟨k, A2, c2, hk, rfl, rfl, HO, HB⟩ := hrel
    have hz := HB.out.size
    by_cases hlt : k < bs.length
    · have hk' : k < ts.length := by have := HL.out; omega
      have hx : ts[k]? = some ts[k] := List.getElem?_eq_getElem hk'
      obtain ⟨ad, rfl, _, c0, c1', c2', c3⟩ := (HR1.out.below HB.out).four (fun _ => rfl) hx
      have hst : ts.take (k + 1) = ts.take k ++ [ts[k]] := List.take_succ_eq_append_getElem hk'
      have hto : ts[k].ok (wr.alloc (.cells ts[k].seat.toArray 130)) := (((HOK.out _ (List.getElem_mem hk')).keep (KeepB.of_below HB1.out)).keep (KeepB.of_below HB.out)).keep (KeepB.alloc _ _)
      generalize ts[k] = t at *
      have HST := Lib.hid hst; have HX := Lib.hid hx
      clear hst hx
      simp only [Tv.seat, List.getElem?_cons_zero, List.getElem?_cons_succ] at c0 c1' c2' c3
      have HTO := Lib.hid hto; clear hto
      have kc := HTO.out.1.back (P := Tryz.prog) 40 9 t.c Tryz.underlying40 Tryz.underlying5 Tryz.underlying9
      have kd := HTO.out.2.back (P := Tryz.prog) 40 9 t.d Tryz.underlying40 Tryz.underlying5 Tryz.underlying9
      simp only [Tv.seat] at kc kd
      go_wp2_with (at_builtin; refine wpList_app _ rfl (.tmp 13) (.tmp 25) 22 rfl w1.heap.size 28 i0 _ 4 48 Tryz.underlying22 HI.out HZ0.out HZ1.out HZ2.out rfl (by decide) (.slice A2 k c2) k (cellsOf ((ts.take k).map Tv.x)) rfl ?ho (wr.heap.size + 1 + 1) (some ⟨wr.heap.size + 1, 0, none⟩) 1 1 t.x.cells rfl ?hr ?h1 ?q1 ?q2 ?hb ?_; (case q1 => simp only [maxLen]; omega); (case q2 => omega); (case hr => exact Rd.new _ _ _ 4 1 _ rfl (by simp)); (case h1 => intro u hu; simp only [Sd.cells, List.mem_cons, List.not_mem_nil, or_false] at hu; rcases hu with rfl | rfl | rfl | rfl <;> rfl); (case ho => exact (HO.out.alloc _).alloc _); (case hb => simp; omega); intro A3 c3 w3 hown3 hg3 _)
      have HO3 := Lib.hid hown3; have HG3 := Lib.hid hg3; clear hown3 hg3
      go_roundw
      case rel =>
        refine ⟨k + 1, A3, c3, by omega, by go_num, rfl, ?_, ?_⟩
        · show World.ownsRow _ _ _ _ _ _ _
          rw [HST.out, List.map_append, cellsOf_append]
          have := HO3.out
          simpa [cellsOf] using this
        · exact ((HB.out.alloc hz _).alloc (by simp; omega) _).grown HG3.out (by simp; omega) (own_base HO.out)
      case measure => simp [intOf]; omega
    · have hkn : k = bs.length := by omega
      subst hkn
      have h1 := Rd.of_own HO.out
      rw [List.take_of_length_le (by have := HL.out; omega)] at h1
      have H1 := Lib.hid h1; clear h1
      go_wp2_with fail
      go_ret
      exact ⟨A2, c2, rfl, H1.out, HB1.out.trans (HB.out.mono HB1.out.size)⟩
end Go.Proofs.YtikikddkhikfkaaGreatDoor

set_option linter.unusedSimpArgs false
namespace Go.Proofs.YtikikddkhikfkaaGreatDoor
open Go.RowKit

theorem setOf_span (l : List Sd) (hne : l ≠ []) (hp : ∀ x ∈ l, -1152921504606846976 < x.pri ∧ x.pri < 1152921504606846976) : 0 ≤ spanOf l ∧ spanOf l ≤ 2305843009213693950 := by
  have := span_bd l (-1152921504606846975) 1152921504606846975 (by omega) (by omega) hne (fun s hs => by have := hp s hs; omega)
  omega


theorem add_zero4 (a : Addr) : a.add (0 * 4) = a := by simp [Addr.add]
/-- the span from the first seat on -/
theorem span_from (s : Sd) (r : List Sd) (hp : ∀ x ∈ s :: r, -1152921504606846976 < x.pri ∧ x.pri < 1152921504606846976) : spanOf (s :: r) = mxf s.pri (prisOf (s :: r)) - mnf s.pri (prisOf (s :: r)) := by
  have h := hp s (List.mem_cons_self ..)
  have e1 : mxf (-9223372036854775808) (prisOf (s :: r)) = mxf s.pri (prisOf (s :: r)) := by
    simp only [mxf, prisOf, List.map_cons, List.foldl_cons]
    congr 1
    split <;> split <;> omega
  have e2 : mnf 9223372036854775807 (prisOf (s :: r)) = mnf s.pri (prisOf (s :: r)) := by
    simp only [mnf, prisOf, List.map_cons, List.foldl_cons]
    congr 1
    split <;> split <;> omega
  unfold spanOf
  rw [e1, e2]

set_option maxRecDepth 100000 in
set_option maxHeartbeats 3200000 in
theorem sscaled_any (l : List Sd) (A : Option Addr) (n c : Nat) (apart : Int) (w : World) (hr : Rd w w.heap.size 4 A n (cellsOf l)) (hn : n ≤ 1000000) (hn0 : 0 < n) (hp : ∀ x ∈ l, -1152921504606846976 < x.pri ∧ x.pri < 1152921504606846976) (ha : apart ≤ 1152921504606846976) :
    Calls Tryz.prog 40 #[.slice A n c, .int .i64 apart] w fun e w' => ∃ A' c', e = .returned (.slice A' n c') ∧ Rd w' w'.heap.size 4 A' n (cellsOf (scaleL apart l)) ∧ Below w.heap.size w w' := by
  obtain ⟨i0, hi, hz0, hz1, hz2⟩ := info_parts infoSeat
  have HI := Lib.hid hi; have HZ0 := Lib.hid hz0; have HZ1 := Lib.hid hz1; have HZ2 := Lib.hid hz2
  clear hi hz0 hz1 hz2
  have HL := Lib.hid hr.len
  have HR := Lib.hid hr; clear hr
  have HP := Lib.hid hp; clear hp
  by_cases ha0 : apart ≤ 0
  · have hsc : scaleL apart l = l := by unfold scaleL; rw [if_pos ha0]
    have HSC := Lib.hid hsc; clear hsc
    go_enter Tryz.func40, Tryz.ntmps40
    go_wp2_with (at_builtin; refine wpList_app w rfl (.const (.slice none 0 0)) (.tmp 13) 24 rfl w.heap.size 57 i0 _ 4 48 Tryz.underlying24 HI.out HZ0.out HZ1.out HZ2.out rfl (by decide) (.slice none 0 0) 0 [] rfl (World.ownsRow_nil w w.heap.size _ _) w.heap.size A n c (cellsOf l) rfl HR.out (cellsOf_one l) ?q1 ?q2 (Nat.le_refl _) ?_; (case q1 => simp only [maxLen]; omega); (case q2 => omega); intro A1 c1 w1 hown hg _; simp only [Nat.zero_add, List.nil_append] at hown; have HO := Lib.hid hown; have HB := Lib.hid ((Below.refl w.heap.size w).grown hg (Nat.le_refl _) (by simp [Value.ownBlock])); clear hown hg)
    go_ret
    rw [HSC.out]
    exact ⟨A1, c1, rfl, Rd.of_own HO.out, HB.out⟩
  · have hz : ((n : Int) == 0) = false := by simp; omega
    obtain ⟨s0, r, hl⟩ : ∃ s0 r, l = s0 :: r := by
      cases l with
      | nil => have := HL.out; simp at this; omega
      | cons a b => exact ⟨a, b, rfl⟩
    have hsp := span_from s0 r (by rw [← hl]; exact HP.out)
    obtain ⟨ad, rfl, hadb, c0, c1', c2', c3⟩ := HR.out.seat (k := 0) (x := s0) (by rw [hl]; rfl)
    clear c0 c1' c2'
    rw [add_zero4 ad] at c3
    rw [← hl] at hsp
    have HSP := Lib.hid hsp; have HLL := Lib.hid hl; clear hsp hl
    go_enter Tryz.func40, Tryz.ntmps40
    go_wp2_with (at_builtin; refine wpList_app w rfl (.const (.slice none 0 0)) (.tmp 13) 24 rfl w.heap.size 57 i0 _ 4 48 Tryz.underlying24 HI.out HZ0.out HZ1.out HZ2.out rfl (by decide) (.slice none 0 0) 0 [] rfl (World.ownsRow_nil w w.heap.size _ _) w.heap.size (some ad) n c (cellsOf l) rfl HR.out (cellsOf_one l) ?q1 ?q2 (Nat.le_refl _) ?_; (case q1 => simp only [maxLen]; omega); (case q2 => omega); intro A1 c1 w1 hown hg _; simp only [Nat.zero_add, List.nil_append] at hown; have HO := Lib.hid hown; have hbb := ((Below.refl w.heap.size w).grown hg (Nat.le_refl _) (by simp [Value.ownBlock])); have HB := Lib.hid hbb; have d3 := (hbb.cell (p := ⟨ad.block, ad.off + 3, none⟩) hadb).trans c3; clear hown hg hbb)
    go_quiet (fail)
    go_wp2
    have HD := Lib.hid d3; clear d3 c3
    go_loopw [6, 7, 33] (fun a b i wr => ∃ k : Nat, k ≤ n ∧ i = .int .i64 k ∧ a = .int .i64 (mnf s0.pri ((prisOf l).take k)) ∧ b = .int .i64 (mxf s0.pri ((prisOf l).take k)) ∧ Hid (Below w1.heap.size w1 wr)) (fun _ _ i _ => n - (intOf i).toNat)
    case atStart => exact ⟨0, Nat.zero_le _, rfl, rfl, rfl, below_drewN (Below.refl _ _) _⟩
    case round =>
      obtain ⟨k, hk, rfl, rfl, rfl, HG⟩ := hrel
      by_cases hlt : k < n
      · have hk' : k < l.length := by have := HL.out; omega
        have hx : l[k]? = some l[k] := List.getElem?_eq_getElem hk'
        have hrr : Rd wr w.heap.size 4 (some ad) n (cellsOf l) := (HR.out.below HB.out).belowN HG.out HB.out.size
        obtain ⟨ad', h', _, e0, e1, e2, e3⟩ := hrr.seat hx
        obtain rfl := Option.some.inj h'
        have hpx := HP.out _ (List.getElem_mem hk')
        have hst : (prisOf l).take (k + 1) = (prisOf l).take k ++ [l[k].pri] := by
          have hl2 : k < (prisOf l).length := by simpa [prisOf] using hk'
          rw [List.take_succ_eq_append_getElem hl2]; simp [prisOf]
        generalize l[k] = x at *
        have ha := mxf_snoc s0.pri ((prisOf l).take k) x.pri
        have hb2 := mnf_snoc s0.pri ((prisOf l).take k) x.pri
        rw [← hst] at ha hb2
        have HA := Lib.hid ha; have HB2 := Lib.hid hb2; have HX := Lib.hid hx
        clear ha hb2 hst hx h' hrr
        generalize mxf s0.pri ((prisOf l).take k) = mx at *
        generalize mnf s0.pri ((prisOf l).take k) = mn at *
        go_wp2
        go_region
        go_wp2
        go_roundw
        case rel => exact ⟨k + 1, by omega, by go_num, by rw [HB2.out], by rw [HA.out], ((HG.out.alloc HG.out.size _).drew)⟩
        case measure => simp [intOf]; omega
      · obtain rfl : k = n := by omega
        have hll : (prisOf l).length ≤ k := by have := HL.out; simp [prisOf]; omega
        rw [List.take_of_length_le hll]
        obtain ⟨hs1, hs2⟩ := setOf_span l (by rw [HLL.out]; simp) HP.out
        have hsc : scaleL apart l = if apart < spanOf l then l.map (divP ((spanOf l + apart - 1) / apart)) else l := by unfold scaleL; rw [if_neg (by omega)]
        have HSC := Lib.hid hsc; clear hsc
        rw [HSP.out] at hs1 hs2 HSC
        generalize mxf s0.pri (prisOf l) = mx at *
        generalize mnf s0.pri (prisOf l) = mn at *
        have hown := own_below HO.out HG.out (Nat.le_refl _)
        have HO1 := Lib.hid hown; clear hown HO hll
        have hbw := HB.out.trans (HG.out.mono HB.out.size)
        have HBW := Lib.hid hbw; clear hbw
        have hneg : decide (mx - mn < 0) = false := by simp; omega
        by_cases hlt : apart < mx - mn
        · have hdv : (mx - mn - 1).tdiv apart = (mx - mn - 1) / apart := Int.tdiv_eq_ediv_of_nonneg (by omega)
          have hq0 : 0 ≤ (mx - mn - 1) / apart := Int.ediv_nonneg (by omega) (by omega)
          have hq1 : (mx - mn - 1) / apart ≤ mx - mn - 1 := Int.ediv_le_self _ (by omega)
          have heq : (mx - mn + apart - 1) / apart = (mx - mn - 1) / apart + 1 := by
            rw [show mx - mn + apart - 1 = (mx - mn - 1) + apart by omega, Int.add_ediv_of_dvd_right (Int.dvd_refl _), Int.ediv_self (by omega)]
          rw [if_pos hlt, heq] at HSC
          have HDV := Lib.hid hdv; clear hdv heq
          have hr1 : 1 ≤ (mx - mn - 1) / apart + 1 := by omega
          go_wp2
          generalize (mx - mn - 1) / apart + 1 = by_ at *
          go_loopw [61] (fun i wx => ∃ j : Nat, j ≤ k ∧ i = .int .i64 j ∧ Hid (wx.ownsRow w.heap.size 57 4 (.slice A1 k c1) k (cellsOf (mapTo (divP by_) l j))) ∧ Hid (Below w.heap.size w wx)) (fun i _ => k - (intOf i).toNat)
          case atStart => exact ⟨0, Nat.zero_le _, rfl, by rw [mapTo_zero]; exact HO1.out, HBW.out⟩
          case round =>
            obtain ⟨j, hj, rfl, HO2, HB2⟩ := hrel
            by_cases hjk : j < k
            · have hjl : j < l.length := by have := HL.out; omega
              have hx : l[j]? = some l[j] := List.getElem?_eq_getElem hjl
              have hx' := mapTo_get (divP by_) l j _ hx
              have hsu := mapTo_succ (divP by_) l j _ hx
              have hpx := HP.out _ (List.getElem_mem hjl)
              generalize l[j] = x at *
              obtain ⟨g, cap, hv, hg0, hg1⟩ := HO2.out.form (by omega)
              have e1 : A1 = some ⟨g, 0, none⟩ := by injection hv
              subst e1
              clear hv
              obtain ⟨x0, x1, x2, x3⟩ := own_seat HO2.out hx'
              have hf := own_free HO2.out
              have hq : wrap64 (x.pri.tdiv by_) = x.pri.tdiv by_ := by
                have h1 : (x.pri.tdiv by_).natAbs ≤ x.pri.natAbs := by rw [Int.natAbs_tdiv]; exact Nat.div_le_self _ _
                unfold wrap64; omega
              have hset := own_pri (q := x.pri.tdiv by_) HO2.out hx'
              have e2 : (mapTo (divP by_) l j).set j { x with pri := x.pri.tdiv by_ } = mapTo (divP by_) l (j + 1) := hsu
              rw [e2] at hset
              have HSET := Lib.hid hset; clear hset e2 hsu x0 x1 x2 hx hx'
              go_wp2
              go_roundw
              case rel => exact ⟨j + 1, by omega, by go_num, HSET.out, HB2.out.setCell (p := ⟨g, j * 4 + 3, none⟩) hg0 _⟩
              case measure => simp [intOf]; omega
            · have hfin := HO2.out
              rw [mapTo_full _ _ _ (by have := HL.out; omega)] at hfin
              have HF := Lib.hid (Rd.of_own hfin); clear hfin
              go_wp2
              go_ret
              rw [HSC.out]
              exact ⟨A1, c1, rfl, HF.out, HB2.out⟩
        · rw [if_neg hlt] at HSC
          go_wp2
          go_ret
          rw [HSC.out]
          exact ⟨A1, ⟨c1, rfl⟩, Rd.of_own HO1.out, HBW.out⟩
  
end Go.Proofs.YtikikddkhikfkaaGreatDoor

set_option linter.unusedSimpArgs false
namespace Go.Proofs.YtikikddkhikfkaaGreatDoor
open Go.RowKit

/-- a seat but for its priority -/
def core (s : Sd) : Sd := { s with pri := 0 }
theorem core_addP (s : Sd) : core (addP s) = core s := rfl
theorem core_subP (a : Int) (s : Sd) : core (subP a s) = core s := rfl
theorem core_divP (a : Int) (s : Sd) : core (divP a s) = core s := rfl
theorem map_core {f : Sd → Sd} (hf : ∀ s, core (f s) = core s) (l : List Sd) : (l.map f).map core = l.map core := by
  rw [List.map_map]; exact List.map_congr_left (fun s _ => hf s)
theorem turnOf_core (T : Int) (l : List Sd) : (turnOf T l).map core = l.map core := by
  unfold turnOf
  cases hq : propOf (l.map addP) with
  | none => exact map_core core_addP l
  | some q =>
    have hne : l.map addP ≠ [] := fun e => by rw [e] at hq; simp [propOf] at hq
    obtain ⟨q', h1, h2⟩ := propOf_at _ hne
    rw [hq] at h1; cases h1
    simp only [List.map_set]
    rw [core_subP, map_core core_addP]
    have e := map_core core_addP l
    have h3 : (l.map core)[q.2]? = some (core q.1) := by
      rw [← e, List.getElem?_map, h2]; rfl
    have h4 := List.getElem?_eq_some_iff.1 h3
    rw [← h4.2]; exact List.set_getElem_self h4.1
theorem totL_core (l : List Sd) : totL (l.map core) = totL l := by
  unfold totL powsOf; rw [List.map_map]; rfl
theorem totL_of_core {l l' : List Sd} (h : l'.map core = l.map core) : totL l' = totL l := by rw [← totL_core l', h, totL_core]
theorem length_of_core {l l' : List Sd} (h : l'.map core = l.map core) : l'.length = l.length := by have := congrArg List.length h; simpa using this
theorem distinct_of_core {l l' : List Sd} (h : l'.map core = l.map core) (hd : distinct l) : distinct l' := by
  have h1 : distinct (l'.map core) := by rw [h]; exact distinct_map hd _ (fun _ => rfl)
  intro i j x y hx hy hij
  exact h1 i j (core x) (core y) (by rw [List.getElem?_map, hx]; rfl) (by rw [List.getElem?_map, hy]; rfl) hij
theorem pow_of_core {l l' : List Sd} (h : l'.map core = l.map core) {p : Int → Prop} (hp : ∀ s ∈ l, p s.pow) : ∀ s ∈ l', p s.pow := by
  intro s hs
  have h1 : core s ∈ l.map core := by rw [← h]; exact List.mem_map_of_mem hs
  obtain ⟨t, ht, e⟩ := List.mem_map.1 h1
  have : t.pow = s.pow := (congrArg Sd.pow e : (core t).pow = (core s).pow)
  rw [← this]; exact hp t ht
theorem turnOf_in (T : Int) (l : List Sd) : ∀ s ∈ turnOf T l, in64 s.pri := by
  intro s hs
  have h1 : ∀ s ∈ l.map addP, in64 s.pri := fun s hs => by
    obtain ⟨t, _, rfl⟩ := List.mem_map.1 hs
    exact clip_in _
  unfold turnOf at hs
  split at hs
  · exact h1 s hs
  · rcases List.mem_or_eq_of_mem_set hs with h | h
    · exact h1 s h
    · rw [h]; exact clip_in _
/-- so many turns -/
def turnsL (T : Int) : Nat → List Sd → List Sd
  | 0, l => l
  | k + 1, l => turnOf T (turnsL T k l)
theorem turnsL_core (T : Int) (l : List Sd) : ∀ k, (turnsL T k l).map core = l.map core
  | 0 => rfl
  | k + 1 => (turnOf_core T _).trans (turnsL_core T l k)
theorem turnsL_in (T : Int) (l : List Sd) (h : ∀ s ∈ l, in64 s.pri) : ∀ k, ∀ s ∈ turnsL T k l, in64 s.pri
  | 0 => h
  | _ + 1 => turnOf_in T _
theorem scaleL_core (a : Int) (l : List Sd) : (scaleL a l).map core = l.map core := by
  unfold scaleL
  split
  · rfl
  · split
    · exact map_core (core_divP _) l
    · rfl
theorem shiftL_core (l : List Sd) : (shiftL l).map core = l.map core := map_core (core_subP _) l
theorem scaleL_pri (a : Int) (l : List Sd) (B : Int) (h : ∀ s ∈ l, -B ≤ s.pri ∧ s.pri ≤ B) : ∀ s ∈ scaleL a l, -B ≤ s.pri ∧ s.pri ≤ B := by
  intro s hs
  unfold scaleL at hs
  split at hs
  · exact h s hs
  · split at hs
    · obtain ⟨t, ht, rfl⟩ := List.mem_map.1 hs
      have hb := h t ht
      generalize (spanOf l + a - 1) / a = r at *
      have h1 : (t.pri.tdiv r).natAbs ≤ t.pri.natAbs := by rw [Int.natAbs_tdiv]; exact Nat.div_le_self _ _
      simp only [divP]; omega
    · exact h s hs
/-- a set behind k turns, from its seats as they were -/
def startL (l : List Sd) : List Sd := shiftL (scaleL (2 * totL l) l)
theorem startL_core (l : List Sd) : (startL l).map core = l.map core := (shiftL_core _).trans (scaleL_core _ _)
theorem startL_in (l : List Sd) : ∀ s ∈ startL l, in64 s.pri := by
  intro s hs
  obtain ⟨t, _, rfl⟩ := List.mem_map.1 hs
  exact clip_in _

theorem tot_both (lo g : Nat) (A : Option Addr) (c : Nat) (bs : List Nat) (ts : List Tv) (prop : Value) (tot : Int) (same : Bool) (w : World) (h : VSet w lo g A c bs ts prop tot same) (hn : bs.length ≤ 1000)
    (hp : ∀ t ∈ ts, 0 ≤ t.x.pow ∧ t.x.pow ≤ 1125899906842624) (ht : tot = 0 ∨ tot = totL (ts.map Tv.x)) :
    Calls Tryz.prog 87 #[ptrTo g] w fun e w' => e = .returned (.int .i64 (totL (ts.map Tv.x))) ∧ VSet w' lo g A c bs ts prop (totL (ts.map Tv.x)) same ∧ OnlyV g bs w w' := by
  by_cases h0 : tot = 0
  · subst h0
    refine (tot_new lo g A c bs ts prop same w h hn hp).mono ?_
    rintro e w' ⟨rfl, rfl⟩
    exact ⟨rfl, h.setTot _, OnlyV.putHead _ _ _⟩
  · rcases ht with h1 | h1
    · exact absurd h1 h0
    · refine (tot_any lo g A c bs ts prop tot same w h h0).mono ?_
      rintro e w' ⟨rfl, rfl⟩
      rw [← h1]
      exact ⟨rfl, h, OnlyV.refl _ _ _⟩

set_option maxRecDepth 100000 in
set_option maxHeartbeats 3200000 in
theorem incr_any (lo g : Nat) (A : Option Addr) (c : Nat) (bs : List Nat) (ts : List Tv) (prop : Value) (tot : Int) (same : Bool) (times : Nat) (w : World) (h : VSet w lo g A c bs ts prop tot same) (hn : bs.length ≤ 1000) (hn0 : 0 < bs.length)
    (ht : tot = 0 ∨ tot = totL (ts.map Tv.x)) (hd : distinct (ts.map Tv.x)) (hp : ∀ t ∈ ts, -1152921504606846976 < t.x.pri ∧ t.x.pri < 1152921504606846976) (hw : ∀ t ∈ ts, 1 ≤ t.x.pow ∧ t.x.pow ≤ 1125899906842624)
    (htm : 0 < times) (htm2 : times ≤ 100000) :
    Calls Tryz.prog 70 #[ptrTo g, .int .i32 times] w fun e w' => e = .returned (.tuple #[]) ∧ ∃ ts', ts'.map Tv.x = turnsL (totL (ts.map Tv.x)) times (startL (ts.map Tv.x)) ∧
      VSet w' lo g A c bs ts' (pval bs (propOf ((turnsL (totL (ts.map Tv.x)) (times - 1) (startL (ts.map Tv.x))).map addP))) (totL (ts.map Tv.x)) same ∧ OnlyV g bs w w' := by
  have hne : ts.map Tv.x ≠ [] := fun e => by
    have h1 := congrArg List.length e
    have := h.len
    simp at h1; rw [h1] at this; simp at this; omega
  have hlen : ts.length = bs.length := h.len
  have hT := sumI_bd (powsOf (ts.map Tv.x)) 1 1125899906842624 (fun x hx => by
    obtain ⟨s, hs, rfl⟩ := List.mem_map.1 hx
    obtain ⟨t, ht, rfl⟩ := List.mem_map.1 hs
    exact hw t ht)
  have hpl : (powsOf (ts.map Tv.x)).length = bs.length := by simp [powsOf, hlen]
  have htot : totL (ts.map Tv.x) = sumI (powsOf (ts.map Tv.x)) := rfl
  rw [hpl, ← htot] at hT
  obtain ⟨hs1, hs2⟩ := setOf_span (ts.map Tv.x) hne (fun x hx => by obtain ⟨t, ht, rfl⟩ := List.mem_map.1 hx; exact hp t ht)
  have HT := Lib.hid (tot_both lo g A c bs ts prop tot same w h hn (fun t ht => by have := hw t ht; omega) ht)
  have hstart : startL (ts.map Tv.x) = shiftL (scaleL (2 * totL (ts.map Tv.x)) (ts.map Tv.x)) := rfl
  have hscore := scaleL_core (2 * totL (ts.map Tv.x)) (ts.map Tv.x)
  have hspri := scaleL_pri (2 * totL (ts.map Tv.x)) (ts.map Tv.x) 1152921504606846976 (fun s hs => by obtain ⟨t, ht, rfl⟩ := List.mem_map.1 hs; have := hp t ht; omega)
  have hgood : ∀ k, (turnsL (totL (ts.map Tv.x)) k (startL (ts.map Tv.x))).map core = (ts.map Tv.x).map core := fun k => (turnsL_core _ _ k).trans (startL_core _)
  have hgin := turnsL_in (totL (ts.map Tv.x)) _ (startL_in (ts.map Tv.x))
  unfold ptrTo at *
  have h0 : w.cell? ⟨g, 0, none⟩ = some (.slice A bs.length c) := h.head.cell 0
  have H := Lib.hid h; have HP := Lib.hid hp; have HW := Lib.hid hw; have HD := Lib.hid hd; have HG := Lib.hid hgood; have HGI := Lib.hid hgin; have HSP := Lib.hid hspri
  have HS1 := Lib.hid hs1; have HS2 := Lib.hid hs2; have HST := Lib.hid hstart; have HSC := Lib.hid hscore
  have hpows := Lib.hid (show ∀ s ∈ ts.map Tv.x, in64 s.pow from fun s hs => by obtain ⟨t, ht, rfl⟩ := List.mem_map.1 hs; have := hw t ht; unfold in64; omega)
  clear h hp hw hd hgood hgin hspri hs1 hs2 hstart hscore htot hpl ht hlen hne
  generalize htt : totL (ts.map Tv.x) = T at *
  clear htt
  go_enter Tryz.func70, Tryz.ntmps70
  go_wp2_with (first | (go_at_call 110; refine (nil_any g bs.length c A w h0 hn0).mono ?_; rintro e w' ⟨rfl, rfl⟩) | (go_at_call 87; refine HT.out.mono ?_; rintro e w1 ⟨rfl, hv1, ho1⟩; have HV1 := Lib.hid hv1; have HO1 := Lib.hid ho1; clear hv1 ho1))
  have hC2 := rescale_any lo g A c bs ts prop T same (2 * T) w1 HV1.out (by omega) hn0 HS1.out (by have := HS2.out; omega) (by omega) (fun t ht => by have := HP.out t ht; omega)
  have HC2 := Lib.hid hC2; clear hC2
  refine HC2.out.mono ?_
  rintro e w2 ⟨rfl, ts2, hm2, hv2, ho2⟩
  have hC3 := shift_any lo g A c bs ts2 prop T same w2 hv2 hn hn0 (fun t ht => by have := HSP.out t.x (by rw [← hm2]; exact List.mem_map_of_mem ht); omega)
  rw [hm2, ← HST.out] at hC3
  have HC3 := Lib.hid hC3; have HO2 := Lib.hid (HO1.out.trans ho2); clear hC3 hm2 hv2 ho2
  go_wp2_with (go_at_call 108; refine HC3.out.mono ?_; rintro e w3 ⟨rfl, ts3, hm3, hv3, ho3⟩; have HM3 := Lib.hid hm3; have HV3 := Lib.hid hv3; have HO3 := Lib.hid (HO2.out.trans ho3); clear hm3 hv3 ho3)
  go_loopw [5, 6] (fun p i wr => ∃ k : Nat, k ≤ times ∧ i = .int .i32 k ∧ Hid (∃ ts', ts'.map Tv.x = turnsL T k (startL (ts.map Tv.x)) ∧ VSet wr lo g A c bs ts' prop T same) ∧ Hid (OnlyV g bs w wr) ∧ Hid (k ≠ 0 → p = pval bs (propOf ((turnsL T (k - 1) (startL (ts.map Tv.x))).map addP)))) (fun _ i _ => times - (intOf i).toNat)
  case atStart => exact ⟨0, Nat.zero_le _, rfl, ⟨ts3, HM3.out, HV3.out⟩, HO3.out, fun h => absurd rfl h⟩
  case round =>
    obtain ⟨k, hk, rfl, HV, HO, HPR⟩ := hrel
    by_cases hlt : k < times
    · obtain ⟨ts4, hm4, hv4⟩ := HV.out
      have hcore : (ts4.map Tv.x).map core = (ts.map Tv.x).map core := by rw [hm4]; exact HG.out k
      have hd4 : distinct (ts4.map Tv.x) := distinct_of_core hcore HD.out
      have hp4 := pow_of_core (p := in64) hcore hpows.out
      have hC4 := inc_any lo g A c bs ts4 prop T same wr hv4 hn hn0 hd4 (by omega) (by omega) (fun t ht => ⟨HGI.out k t.x (by rw [← hm4]; exact List.mem_map_of_mem ht), hp4 t.x (List.mem_map_of_mem ht)⟩)
      rw [hm4] at hC4
      have HC4 := Lib.hid hC4; clear hC4 hm4 hv4 hcore hd4 hp4
      have hwk : wrap32 ((k : Int) + 1) = (k : Int) + 1 := by unfold wrap32; omega
      go_wp2_with (go_at_call 111; refine HC4.out.mono ?_; rintro e w5 ⟨rfl, ts5, hm5, hv5, ho5⟩; have HM5 := Lib.hid hm5; have HV5 := Lib.hid hv5; have HO5 := Lib.hid (HO.out.trans ho5); clear hm5 hv5 ho5)
      go_roundw
      case rel => exact ⟨k + 1, by omega, by go_num, ⟨ts5, HM5.out, HV5.out⟩, HO5.out, fun _ => rfl⟩
      case measure => simp [intOf]; omega
    · obtain rfl : k = times := by omega
      obtain ⟨ts4, hm4, hv4⟩ := HV.out
      have hpr := HPR.out (by omega)
      have h30 := hv4.head.cell 1
      have hf := hv4.head.free 1
      have hset := hv4.setProp u5
      have HM4 := Lib.hid hm4; have HSET := Lib.hid hset; have HPR2 := Lib.hid hpr
      clear hm4 hset hpr hv4
      have hpv : ∃ u, u5 = Value.pointer u := by rw [HPR2.out]; cases propOf ((turnsL T (k - 1) (startL (ts.map Tv.x))).map addP) <;> exact ⟨_, rfl⟩
      obtain ⟨u, rfl⟩ := hpv
      go_wp2
      go_end0
      refine ⟨rfl, ts4, HM4.out, ?_, HO.out.trans (OnlyV.putHead _ _ _)⟩
      rw [← HPR2.out]
      exact HSET.out
end Go.Proofs.YtikikddkhikfkaaGreatDoor

set_option linter.unusedSimpArgs false
namespace Go.Proofs.YtikikddkhikfkaaGreatDoor
open Go.RowKit

theorem vcopy_any (b : Nat) (t : Tv) (w : World) (h : Blk w b 136 t.val) :
    Calls Tryz.prog 112 #[ptrTo b] w fun e w' => e = .returned (ptrTo w.heap.size) ∧ w' = w.alloc (.cells t.val 136) := by
  unfold ptrTo
  obtain ⟨c0, c1, c2, c3⟩ := t.val_cells h
  clear h
  go_enter Tryz.func112, Tryz.ntmps112
  go_wp2
  go_ret
  exact ⟨rfl, rfl⟩

theorem getProp_any (lo g : Nat) (A : Option Addr) (c : Nat) (bs : List Nat) (ts : List Tv) (b : Nat) (t : Tv) (tot : Int) (same : Bool) (w : World) (h : VSet w lo g A c bs ts (ptrTo b) tot same) (hn0 : 0 < bs.length) (hb : Blk w b 136 t.val) :
    Calls Tryz.prog 71 #[ptrTo g] w fun e w' => e = .returned (ptrTo w.heap.size) ∧ w' = w.alloc (.cells t.val 136) := by
  have KC := Lib.hid (vcopy_any b t w hb)
  have h0 : w.cell? ⟨g, 0, none⟩ = some (.slice A bs.length c) := h.head.cell 0
  have h1 : w.cell? ⟨g, 1, none⟩ = some (ptrTo b) := h.head.cell 1
  have hz : ((bs.length : Int) == 0) = false := by rw [beq_eq_false_iff_ne]; omega
  unfold ptrTo at *
  clear h hb
  go_enter Tryz.func71, Tryz.ntmps71
  go_wp2_with (go_at_call 112; refine KC.out.mono ?_; rintro e w1 ⟨rfl, rfl⟩)
  go_ret
  exact ⟨rfl, rfl⟩

theorem first_any (lo g : Nat) (A : Option Addr) (c : Nat) (bs : List Nat) (ts : List Tv) (b : Nat) (t : Tv) (tot : Int) (same : Bool) (w : World) (h : VSet w lo g A c bs ts (ptrTo b) tot same) (hn0 : 0 < bs.length) (hb : Blk w b 136 t.val) (hok : t.ok w) :
    Calls Tryz.prog 44 #[ptrTo g] w fun e w' => e = .returned (.string t.x.adr) ∧ Below w.heap.size w w' := by
  have KC := Lib.hid (getProp_any lo g A c bs ts b t tot same w h hn0 hb)
  have hw1 : Blk (w.alloc (.cells t.val 136)) w.heap.size 136 t.val := Blk.new _ _ _
  obtain ⟨c0, _⟩ := t.val_cells hw1
  have hto := hok.keep (KeepB.alloc w (.cells t.val 136))
  have kc := hto.1.back (P := Tryz.prog) 117 9 t.c Tryz.underlying117 Tryz.underlying5 Tryz.underlying9
  have hb1 := Lib.hid ((Below.refl w.heap.size w).alloc (Nat.le_refl _) (.cells t.val 136))
  unfold ptrTo at *
  clear h hb hok hto hw1
  go_enter Tryz.func44, Tryz.ntmps44
  go_wp2_with (go_at_call 71; refine KC.out.mono ?_; rintro e w1 ⟨rfl, rfl⟩)
  go_ret
  exact ⟨rfl, hb1.out⟩

/-- who proposes in the next turn -/
def nextP (l : List Sd) : ByteArray :=
  match propOf (l.map addP) with
  | none => .empty
  | some q => q.1.adr
theorem nextP_at {l l' : List Sd} (h : l'.map core = l.map core) (hne : l ≠ []) : ∃ q, propOf (l'.map addP) = some q ∧ nextP l' = q.1.adr ∧ ∃ x, l[q.2]? = some x ∧ x.adr = q.1.adr := by
  have hne' : l'.map addP ≠ [] := fun e => by
    have h1 := congrArg List.length e
    have h2 := length_of_core h
    simp at h1
    rw [h1] at h2
    exact hne (List.length_eq_zero_iff.1 h2.symm)
  obtain ⟨q, h1, h2⟩ := propOf_at _ hne'
  refine ⟨q, h1, by unfold nextP; rw [h1], ?_⟩
  have h3 : (l.map core)[q.2]? = some (core q.1) := by
    rw [← h, ← map_core core_addP l', List.getElem?_map, h2]; rfl
  rw [List.getElem?_map] at h3
  cases hx : l[q.2]? with
  | none => rw [hx] at h3; simp at h3
  | some x =>
    rw [hx] at h3
    simp only [Option.map_some, Option.some.injEq] at h3
    exact ⟨x, rfl, (congrArg Sd.adr h3 : (core x).adr = (core q.1).adr)⟩

/-- what the laws ask of a list of seats that takes turns -/
structure turnable (l : List Sd) : Prop where
  ne : l ≠ []
  len : l.length ≤ 500
  dist : distinct l
  pri : ∀ x ∈ l, -1152921504606846976 < x.pri ∧ x.pri < 1152921504606846976
  pow : ∀ x ∈ l, 1 ≤ x.pow ∧ x.pow ≤ 1125899906842624

end Go.Proofs.YtikikddkhikfkaaGreatDoor

namespace Go.Proofs.YtikikddkhikfkaaGreatDoor
open Go.RowKit

section
variable {P : Program} {ops : Array Oper} {Q : Exit → Act → World → Prop} {S : World → Prop} {md : Region.Mode} {s : Nat}
theorem wpAnyL_on (i : Nat) {oi : Oper} {fuel : Nat} {listed : Array Bool} {a : Act} {w : World} (hi : ops[i]? = some oi) (hr : Region.ready md ops listed = [i]) (hw : Region.wanted oi (yielded ops a.tmps) = true)
    (h : oi.wp P a w (fun a' w' => (i ≠ s → S w') ∧ wpAnyL P md ops Q S s fuel (listed.setIfInBounds i true) a' w') Q) : wpAnyL P md ops Q S s (fuel + 1) listed a w := by
  refine ⟨fun h0 => by rw [hr] at h0; simp at h0, fun j hj => ?_⟩
  rw [hr, List.mem_singleton] at hj
  subst hj
  unfold wpOp
  simp only [hi]
  rw [if_pos hw]
  exact .inl h
theorem wpAnyL_off (i : Nat) {oi : Oper} {fuel : Nat} {listed : Array Bool} {a : Act} {w : World} (hi : ops[i]? = some oi) (hr : Region.ready md ops listed = [i]) (hw : Region.wanted oi (yielded ops a.tmps) = false) (hS : S w)
    (h : wpAnyL P md ops Q S s fuel (listed.setIfInBounds i true) (a.put oi.dst undef) w) : wpAnyL P md ops Q S s (fuel + 1) listed a w := by
  refine ⟨fun h0 => by rw [hr] at h0; simp at h0, fun j hj => ?_⟩
  rw [hr, List.mem_singleton] at hj
  subst hj
  unfold wpOp
  simp only [hi]
  rw [if_neg (by rw [hw]; simp)]
  exact ⟨fun _ => hS, h⟩
theorem yields_on {o : Oper} {v : Value} {a : Act} (hw : Region.wanted o (yielded ops a.tmps) = true) (h : ∀ w, S w → (execOp a.eval o).run P w = .ok (.value v) w) : YieldsIf P ops S o v a := .inl ⟨hw, h⟩
theorem yields_off {o : Oper} {a : Act} (hw : Region.wanted o (yielded ops a.tmps) = false) : YieldsIf P ops S o undef a := .inr ⟨hw, rfl⟩
end

theorem bytesLess_anti : ∀ (a b : List UInt8), a ≠ b → Op.bytesLess a b = !Op.bytesLess b a
  | [], [], h => absurd rfl h
  | [], b :: y, _ => by simp [Op.bytesLess]
  | a :: x, [], _ => by simp [Op.bytesLess]
  | a :: x, b :: y, h => by
    simp only [Op.bytesLess]
    by_cases e : a = b
    · subst e
      have hxy : x ≠ y := fun e => h (by rw [e])
      have ih := bytesLess_anti x y hxy
      simp only [UInt8.lt_irrefl, decide_false, beq_self_eq_true, Bool.true_and, Bool.false_or]
      exact ih
    · have e1 : (a == b) = false := by simpa using e
      have e2 : (b == a) = false := by simpa using fun e' : b = a => e e'.symm
      rw [e1, e2]
      simp only [Bool.false_and, Bool.or_false]
      by_cases hlt : a < b
      · have : ¬ b < a := fun h2 => UInt8.lt_asymm hlt h2
        simp [hlt, this]
      · have : b < a := by
          rcases UInt8.lt_or_lt_of_ne e with h | h
          · exact absurd h hlt
          · exact h
        simp [hlt, this]
end Go.Proofs.YtikikddkhikfkaaGreatDoor

set_option linter.unusedSimpArgs false
namespace Go.Proofs.YtikikddkhikfkaaGreatDoor
open Go.RowKit

/-- a list's first places overwritten -/
def overL (new old : List Value) : List Value := new ++ old.drop new.length
theorem overL_set (new old : List Value) (v : Value) (h : new.length < old.length) : (overL new old).set new.length v = overL (new ++ [v]) old := by
  unfold overL
  rw [List.set_append_right _ _ (Nat.le_refl _), Nat.sub_self, List.drop_eq_getElem_cons h, List.set_cons_zero, List.length_append]
  simp
theorem overL_full (new old : List Value) (h : old.length ≤ new.length) : overL new old = new := by unfold overL; rw [List.drop_of_length_le h, List.append_nil]

set_option maxRecDepth 100000 in
set_option maxHeartbeats 3200000 in
theorem listCopy_any (lo g : Nat) (A : Option Addr) (c : Nat) (bs : List Nat) (ts : List Tv) (prop : Value) (tot : Int) (same : Bool) (w : World) (h : VSet w lo g A c bs ts prop tot same) (hn : bs.length ≤ 1000000) (hn0 : 0 < bs.length) :
    Calls Tryz.prog 130 #[.slice A bs.length c] w fun e w' => ∃ (A' : Option Addr) (c' : Nat) (bs' : List Nat), bs'.length = bs.length ∧ e = .returned (.slice A' bs.length c') ∧ w'.ownsRow w.heap.size 126 1 (.slice A' bs.length c') bs.length (bs'.map ptrTo) ∧ bs'.Nodup ∧
      (∀ (j b : Nat) (t : Tv), bs'[j]? = some b → ts[j]? = some t → w.heap.size ≤ b ∧ Blk w' b 136 t.val) ∧ Below w.heap.size w w' := by
  obtain ⟨i0, hi0, hz0, hz1, hz2⟩ := info_parts infoPVal
  have HI := Lib.hid hi0; have HZ0 := Lib.hid hz0; have HZ1 := Lib.hid hz1; have HZ2 := Lib.hid hz2
  clear hi0 hz0 hz1 hz2
  obtain ⟨b0, _, hb0, _⟩ := h.at_ hn0
  obtain ⟨r, rfl, hrl, _⟩ := h.ptr hb0
  have H := Lib.hid h; clear h hb0
  have hnil := fun W => Lib.run_eql_slice_nil (P := Tryz.prog) W 125 126 (some ⟨r, 0, none⟩) bs.length c 0 0 Tryz.underlying125
  go_enter Tryz.func130, Tryz.ntmps130
  go_wp2_with (refine wpList_make_full _ rfl (.tmp 9) (.tmp 9) 125 rfl w.heap.size 126 i0 _ 1 Tryz.underlying125 HI.out HZ0.out HZ1.out .i64 .i64 bs.length bs.length bs.length rfl rfl rfl rfl ?b2 ?b3 (Nat.le_refl _) ?_; (case b2 => rw [HZ2.out]; omega); (case b3 => simp only [maxLen]; omega); intro w1 hown hg1; have HO1 := Lib.hid hown; have HB1 := Lib.hid ((Below.refl w.heap.size w).grown hg1 (Nat.le_refl _) (by simp)); clear hown hg1)
  generalize (madeCells (Value.pointer none).cells (bs.length * 1)).toList = old at *
  have hold : old.length = bs.length := by have := HO1.out.1; simpa using this
  have HOLD := Lib.hid hold; clear hold
  go_loopw [13] (fun i wr => ∃ (k : Nat) (bs' : List Nat), k ≤ bs.length ∧ i = .int .i64 k ∧ Hid (bs'.length = k) ∧ Hid (wr.ownsRow w.heap.size 126 1 (.slice (some ⟨w.heap.size, 0, none⟩) bs.length bs.length) bs.length (overL (bs'.map ptrTo) old)) ∧ Hid (bs'.Nodup) ∧
      Hid (∀ (j b : Nat) (t : Tv), bs'[j]? = some b → ts[j]? = some t → w.heap.size ≤ b ∧ b < wr.heap.size ∧ Blk wr b 136 t.val) ∧ Hid (Below w.heap.size w wr)) (fun i _ => bs.length - (intOf i).toNat)
  case atStart => exact ⟨0, [], Nat.zero_le _, rfl, rfl, (by have h1 := HO1.out; show World.ownsRow _ _ _ _ _ _ _; simpa [overL] using h1), List.nodup_nil, (fun j b t h => by simp at h), HB1.out⟩
  case round =>
    obtain ⟨k, bs', hk, rfl, HLB, HO, HN, HV, HB⟩ := hrel
    by_cases hlt : k < bs.length
    · have hv := H.out.keep (KeepV.of_below lo HB.out (Nat.le_refl _))
      obtain ⟨b, t, hb, ht⟩ := hv.at_ hlt
      obtain ⟨r', hr', _, hp⟩ := hv.ptr hb
      have hr2 : r' = r := by injection hr' with e; injection e with e; exact e.symm
      subst hr2
      obtain ⟨_, hbv, hok⟩ := hv.vals k b t hb ht
      have kc := vcopy_any b t wr hbv
      unfold ptrTo at kc
      have KC := Lib.hid kc; clear kc
      have hst := HO.out.alloc (.cells t.val 136)
      have hf := own_free hst
      have hbl := HB.out.size
      have hlk : (bs'.map ptrTo).length = k := by rw [List.length_map]; exact HLB.out
      have hko : k < old.length := by rw [HOLD.out]; exact hlt
      have hgk : (overL (bs'.map ptrTo) old)[k]? = some old[k] := by
        unfold overL
        rw [List.getElem?_append_right (by omega), hlk, Nat.sub_self, List.getElem?_drop]
        simp
      have hck := hst.cells (g := w.heap.size) rfl k _ hgk
      rw [add_flat, Nat.zero_add] at hck
      have hsto := (hst.stored k (ptrTo wr.heap.size)).1
      have hov : (overL (bs'.map ptrTo) old).set k (ptrTo wr.heap.size) = overL ((bs' ++ [wr.heap.size]).map ptrTo) old := by
        have := overL_set (bs'.map ptrTo) old (ptrTo wr.heap.size) (by omega)
        rw [hlk] at this
        rw [this]; simp
      rw [hov] at hsto
      generalize old[k] = ov at *
      have HSTO := Lib.hid hsto
      have hne : ∀ b', Blk wr b' 136 t.val → True := fun _ _ => trivial
      have HBV := Lib.hid hbv; have HT := Lib.hid ht
      clear hr' hb ht hbv hok hv hst hsto hov hgk hlk hko hne
      go_wp2_with (go_at_call 112; refine KC.out.mono ?_; rintro e w5 ⟨rfl, rfl⟩)
      go_roundw
      case rel =>
        refine ⟨k + 1, bs' ++ [wr.heap.size], by omega, by go_num, ?_, HSTO.out, ?_, ?_, (HB.out.alloc hbl _).setCell (p := ⟨w.heap.size, k, none⟩) (Nat.le_refl _) _⟩
        · show _ = _
          rw [List.length_append, HLB.out]; rfl
        · show List.Nodup _
          rw [List.nodup_append]
          refine ⟨HN.out, by simp, fun a ha b' hb' => ?_⟩
          obtain ⟨j, hj, rfl⟩ := List.getElem_of_mem ha
          have hjt : j < ts.length := by have := H.out.len; have := HLB.out; omega
          have := (HV.out j _ _ (List.getElem?_eq_getElem hj) (List.getElem?_eq_getElem hjt)).2.1
          rw [List.mem_singleton] at hb'
          omega
        · intro j b' t' hb' ht'
          have hsz : ((wr.alloc (.cells t.val 136)).setCell ⟨w.heap.size, k, none⟩ (.pointer (some ⟨wr.heap.size, 0, none⟩))).heap.size = wr.heap.size + 1 := by simp [World.setCell]
          rw [List.getElem?_append] at hb'
          split at hb'
          · obtain ⟨h1, h2, h3⟩ := HV.out j b' t' hb' ht'
            have hne : b' ≠ w.heap.size := by
              intro e
              rcases HO.out.2 with ⟨h4, _⟩ | ⟨g', cap, cur, h4, _, hh, _⟩
              · cases h4
              · cases h4
                rw [e] at h3
                unfold Blk at h3
                rw [hh] at h3
                injection h3 with h3; injection h3 with _ h3; cases h3
            exact ⟨h1, by show b' < _; rw [hsz]; omega, (h3.alloc _).far (p := ⟨w.heap.size, k, none⟩) hne _⟩
          · have hj : j = k := by
              have := (List.getElem?_eq_some_iff.1 hb').1
              have := HLB.out
              simp at *; omega
            subst hj
            have e1 : b' = wr.heap.size := by rw [HLB.out, Nat.sub_self] at hb'; simpa using hb'.symm
            subst e1
            have e2 : t' = t := by have := HT.out; rw [this] at ht'; exact (Option.some.inj ht').symm
            subst e2
            exact ⟨hbl, by show wr.heap.size < _; rw [hsz]; omega, (Blk.new wr _ _).far (p := ⟨w.heap.size, j, none⟩) (by show wr.heap.size ≠ w.heap.size; have := HO.out.form hn0; obtain ⟨g', cap', hv', _, hl'⟩ := this; injection hv' with hv'; injection hv' with hv'; injection hv' with hv'; omega) _⟩
      case measure => simp [intOf]; omega
    · obtain rfl : k = bs.length := by omega
      have ho := HO.out
      rw [overL_full _ _ (by rw [HOLD.out, List.length_map, HLB.out]; exact Nat.le_refl _)] at ho
      have HF := Lib.hid ho; clear ho
      go_wp2
      go_ret
      exact ⟨_, _, bs', HLB.out, rfl, HF.out, HN.out, (fun j b t hb ht => ⟨(HV.out j b t hb ht).1, (HV.out j b t hb ht).2.2⟩), HB.out⟩
end Go.Proofs.YtikikddkhikfkaaGreatDoor

set_option linter.all false
namespace Go.Proofs.YtikikddkhikfkaaGreatDoor
open Go.RowKit

set_option maxRecDepth 100000 in
set_option maxHeartbeats 3200000 in
theorem rowCopy_any (lo : Nat) (A : Option Addr) (c : Nat) (bs : List Nat) (ts : List Tv) (w : World) (h : VRow w lo A c bs ts) (hn : bs.length ≤ 1000000) (hA : A ≠ none) :
    Calls Tryz.prog 130 #[.slice A bs.length c] w fun e w' => ∃ (A' : Option Addr) (c' : Nat) (bs' : List Nat), bs'.length = bs.length ∧ e = .returned (.slice A' bs.length c') ∧ w'.ownsRow w.heap.size 126 1 (.slice A' bs.length c') bs.length (bs'.map ptrTo) ∧ bs'.Nodup ∧
      (∀ (j b : Nat) (t : Tv), bs'[j]? = some b → ts[j]? = some t → w.heap.size ≤ b ∧ Blk w' b 136 t.val) ∧ Below w.heap.size w w' := by
  obtain ⟨i0, hi0, hz0, hz1, hz2⟩ := info_parts infoPVal
  have HI := Lib.hid hi0; have HZ0 := Lib.hid hz0; have HZ1 := Lib.hid hz1; have HZ2 := Lib.hid hz2
  clear hi0 hz0 hz1 hz2
  obtain ⟨r, rfl⟩ : ∃ r, A = some ⟨r, 0, none⟩ := by
    rcases h.row.2 with ⟨e, _⟩ | ⟨g', cap, cur, hv, _⟩
    · injection e with e; exact absurd e hA
    · injection hv with hv; exact ⟨g', hv⟩
  have H := Lib.hid h; clear h hA
  have hnil := fun W => Lib.run_eql_slice_nil (P := Tryz.prog) W 125 126 (some ⟨r, 0, none⟩) bs.length c 0 0 Tryz.underlying125
  go_enter Tryz.func130, Tryz.ntmps130
  go_wp2_with (refine wpList_make_full _ rfl (.tmp 9) (.tmp 9) 125 rfl w.heap.size 126 i0 _ 1 Tryz.underlying125 HI.out HZ0.out HZ1.out .i64 .i64 bs.length bs.length bs.length rfl rfl rfl rfl ?b2 ?b3 (Nat.le_refl _) ?_; (case b2 => rw [HZ2.out]; omega); (case b3 => simp only [maxLen]; omega); intro w1 hown hg1; have HO1 := Lib.hid hown; have HB1 := Lib.hid ((Below.refl w.heap.size w).grown hg1 (Nat.le_refl _) (by simp)); clear hown hg1)
  generalize (madeCells (Value.pointer none).cells (bs.length * 1)).toList = old at *
  have hold : old.length = bs.length := by have := HO1.out.1; simpa using this
  have HOLD := Lib.hid hold; clear hold
  go_loopw [13] (fun i wr => ∃ (k : Nat) (bs' : List Nat), k ≤ bs.length ∧ i = .int .i64 k ∧ Hid (bs'.length = k) ∧ Hid (wr.ownsRow w.heap.size 126 1 (.slice (some ⟨w.heap.size, 0, none⟩) bs.length bs.length) bs.length (overL (bs'.map ptrTo) old)) ∧ Hid (bs'.Nodup) ∧
      Hid (∀ (j b : Nat) (t : Tv), bs'[j]? = some b → ts[j]? = some t → w.heap.size ≤ b ∧ b < wr.heap.size ∧ Blk wr b 136 t.val) ∧ Hid (Below w.heap.size w wr)) (fun i _ => bs.length - (intOf i).toNat)
  case atStart => exact ⟨0, [], Nat.zero_le _, rfl, rfl, (by have h1 := HO1.out; show World.ownsRow _ _ _ _ _ _ _; simpa [overL] using h1), List.nodup_nil, (fun j b t h => by simp at h), HB1.out⟩
  case round =>
    obtain ⟨k, bs', hk, rfl, HLB, HO, HN, HV, HB⟩ := hrel
    by_cases hlt : k < bs.length
    · have hv := H.out.keep (KeepV.of_below lo HB.out (Nat.le_refl _))
      obtain ⟨b, t, hb, ht⟩ := hv.at_ hlt
      obtain ⟨r', hr', _, hp⟩ := hv.ptr hb
      have hr2 : r' = r := by injection hr' with e; injection e with e; exact e.symm
      subst hr2
      obtain ⟨_, hbv, hok⟩ := hv.vals k b t hb ht
      have kc := vcopy_any b t wr hbv
      unfold ptrTo at kc
      have KC := Lib.hid kc; clear kc
      have hst := HO.out.alloc (.cells t.val 136)
      have hf := own_free hst
      have hbl := HB.out.size
      have hlk : (bs'.map ptrTo).length = k := by rw [List.length_map]; exact HLB.out
      have hko : k < old.length := by rw [HOLD.out]; exact hlt
      have hgk : (overL (bs'.map ptrTo) old)[k]? = some old[k] := by
        unfold overL
        rw [List.getElem?_append_right (by omega), hlk, Nat.sub_self, List.getElem?_drop]
        simp
      have hck := hst.cells (g := w.heap.size) rfl k _ hgk
      rw [add_flat, Nat.zero_add] at hck
      have hsto := (hst.stored k (ptrTo wr.heap.size)).1
      have hov : (overL (bs'.map ptrTo) old).set k (ptrTo wr.heap.size) = overL ((bs' ++ [wr.heap.size]).map ptrTo) old := by
        have := overL_set (bs'.map ptrTo) old (ptrTo wr.heap.size) (by omega)
        rw [hlk] at this
        rw [this]; simp
      rw [hov] at hsto
      generalize old[k] = ov at *
      have HSTO := Lib.hid hsto
      have hne : ∀ b', Blk wr b' 136 t.val → True := fun _ _ => trivial
      have HBV := Lib.hid hbv; have HT := Lib.hid ht
      clear hr' hb ht hbv hok hv hst hsto hov hgk hlk hko hne
      go_wp2_with (go_at_call 112; refine KC.out.mono ?_; rintro e w5 ⟨rfl, rfl⟩)
      go_roundw
      case rel =>
        refine ⟨k + 1, bs' ++ [wr.heap.size], by omega, by go_num, ?_, HSTO.out, ?_, ?_, (HB.out.alloc hbl _).setCell (p := ⟨w.heap.size, k, none⟩) (Nat.le_refl _) _⟩
        · show _ = _
          rw [List.length_append, HLB.out]; rfl
        · show List.Nodup _
          rw [List.nodup_append]
          refine ⟨HN.out, by simp, fun a ha b' hb' => ?_⟩
          obtain ⟨j, hj, rfl⟩ := List.getElem_of_mem ha
          have hjt : j < ts.length := by have := H.out.len; have := HLB.out; omega
          have := (HV.out j _ _ (List.getElem?_eq_getElem hj) (List.getElem?_eq_getElem hjt)).2.1
          rw [List.mem_singleton] at hb'
          omega
        · intro j b' t' hb' ht'
          have hsz : ((wr.alloc (.cells t.val 136)).setCell ⟨w.heap.size, k, none⟩ (.pointer (some ⟨wr.heap.size, 0, none⟩))).heap.size = wr.heap.size + 1 := by simp [World.setCell]
          rw [List.getElem?_append] at hb'
          split at hb'
          · obtain ⟨h1, h2, h3⟩ := HV.out j b' t' hb' ht'
            have hne : b' ≠ w.heap.size := by
              intro e
              rcases HO.out.2 with ⟨h4, _⟩ | ⟨g', cap, cur, h4, _, hh, _⟩
              · cases h4
              · cases h4
                rw [e] at h3
                unfold Blk at h3
                rw [hh] at h3
                injection h3 with h3; injection h3 with _ h3; cases h3
            exact ⟨h1, by show b' < _; rw [hsz]; omega, (h3.alloc _).far (p := ⟨w.heap.size, k, none⟩) hne _⟩
          · have hj : j = k := by
              have := (List.getElem?_eq_some_iff.1 hb').1
              have := HLB.out
              simp at *; omega
            subst hj
            have e1 : b' = wr.heap.size := by rw [HLB.out, Nat.sub_self] at hb'; simpa using hb'.symm
            subst e1
            have e2 : t' = t := by have := HT.out; rw [this] at ht'; exact (Option.some.inj ht').symm
            subst e2
            exact ⟨hbl, by show wr.heap.size < _; rw [hsz]; omega, (Blk.new wr _ _).far (p := ⟨w.heap.size, j, none⟩) (by show wr.heap.size ≠ w.heap.size; have := HO.out.form (show 0 < bs.length by omega); obtain ⟨g', cap', hv', _, hl'⟩ := this; injection hv' with hv'; injection hv' with hv'; injection hv' with hv'; omega) _⟩
      case measure => simp [intOf]; omega
    · obtain rfl : k = bs.length := by omega
      have ho := HO.out
      rw [overL_full _ _ (by rw [HOLD.out, List.length_map, HLB.out]; exact Nat.le_refl _)] at ho
      have HF := Lib.hid ho; clear ho
      go_wp2
      go_ret
      exact ⟨_, _, bs', HLB.out, rfl, HF.out, HN.out, (fun j b t hb ht => ⟨(HV.out j b t hb ht).1, (HV.out j b t hb ht).2.2⟩), HB.out⟩

/-- the copy as a slice of validators of its own -/
theorem vcopies_any (lo : Nat) (A : Option Addr) (c : Nat) (bs : List Nat) (ts : List Tv) (w : World) (h : VRow w lo A c bs ts) (hn : bs.length ≤ 1000000) (hA : A ≠ none) :
    Calls Tryz.prog 130 #[.slice A bs.length c] w fun e w' => ∃ (A' : Option Addr) (c' : Nat) (bs' : List Nat), bs'.length = bs.length ∧ e = .returned (.slice A' bs'.length c') ∧ VRow w' w.heap.size A' c' bs' ts ∧ Below w.heap.size w w' := by
  refine (rowCopy_any lo A c bs ts w h hn hA).mono ?_
  rintro e w' ⟨A', c', bs', hl, rfl, h1, h2, h3, h4⟩
  rw [← hl] at h1
  refine ⟨A', c', bs', hl, by rw [hl], ⟨h1, by rw [hl]; exact h.len, h2, fun j b t hb ht => ?_⟩, h4⟩
  obtain ⟨g1, g2⟩ := h3 j b t hb ht
  have hj : j < bs.length := by rw [← h.len]; exact (List.getElem?_eq_some_iff.1 ht).1
  have hok := (h.vals j _ t (List.getElem?_eq_getElem hj) ht).2.2
  exact ⟨g1, g2, hok.keep (KeepB.of_below h4)⟩
end Go.Proofs.YtikikddkhikfkaaGreatDoor

set_option linter.all false
namespace Go.Proofs.YtikikddkhikfkaaGreatDoor
open Go.RowKit

/-- is it this address? -/
def isA (a : ByteArray) (x : Sd) : Bool := x.adr.toList == a.toList
/-- the place of an address in a list; below 0: it is not there -/
def atL (a : ByteArray) (l : List Sd) : Int := findAt (isA a) l 0
theorem findAt_cases {α : Type} (p : α → Bool) (l : List α) : ∀ k : Nat, (findAt p l k = -1 ∧ ∀ x ∈ l, p x = false) ∨ ∃ i x, findAt p l k = ((k + i : Nat) : Int) ∧ l[i]? = some x ∧ p x = true := by
  induction l with
  | nil => intro k; exact .inl ⟨rfl, fun x hx => by simp at hx⟩
  | cons y r ih =>
    intro k
    simp only [findAt]
    by_cases h : p y = true
    · rw [if_pos h]; exact .inr ⟨0, y, rfl, rfl, h⟩
    · rw [if_neg h]
      rcases ih (k + 1) with ⟨h1, h2⟩ | ⟨i, x, h1, h2, h3⟩
      · exact .inl ⟨h1, fun x hx => by
          rcases List.mem_cons.1 hx with rfl | hx
          · simpa using h
          · exact h2 x hx⟩
      · exact .inr ⟨i + 1, x, by rw [h1]; congr 1; omega, by simpa using h2, h3⟩
theorem atL_cases (a : ByteArray) (l : List Sd) : (atL a l = -1 ∧ ∀ x ∈ l, isA a x = false) ∨ ∃ (i : Nat) (x : Sd), atL a l = (i : Int) ∧ l[i]? = some x ∧ isA a x = true := by
  rcases findAt_cases (isA a) l 0 with h | ⟨i, x, h1, h2, h3⟩
  · exact .inl h
  · exact .inr ⟨i, x, by unfold atL; rw [h1, Nat.zero_add], h2, h3⟩
/-- the pointer of a place -/
def ptrAt (bs : List Nat) (k : Int) : Value := if k < 0 then .pointer none else ptrTo (bs.getD k.toNat 0)
theorem ptrAt_some {bs : List Nat} {k b : Nat} (h : bs[k]? = some b) : ptrAt bs (k : Int) = .pointer (some ⟨b, 0, none⟩) := by
  unfold ptrAt ptrTo
  rw [if_neg (by omega), Int.toNat_natCast, List.getD_eq_getElem?_getD, h]; rfl
set_option maxRecDepth 100000 in
set_option maxHeartbeats 3200000 in
theorem getMut_any (lo g : Nat) (A : Option Addr) (c : Nat) (bs : List Nat) (ts : List Tv) (prop : Value) (tot : Int) (same : Bool) (w : World) (h : VSet w lo g A c bs ts prop tot same) (hn : bs.length ≤ 1000000) (a : ByteArray) (Aa : Option Addr) (ca : Nat) (ha : Byt w Aa a) :
    Calls Tryz.prog 123 #[ptrTo g, .slice Aa a.size ca] w fun e w' => e = .returned (.tuple #[.int .i32 (atL a (ts.map Tv.x)), ptrAt bs (atL a (ts.map Tv.x))]) ∧ w = w' := by
  unfold ptrTo
  have h0 : w.cell? ⟨g, 0, none⟩ = some (.slice A bs.length c) := h.head.cell 0
  have HLL : Hid ((ts.map Tv.x).length = bs.length) := by show _ = _; rw [List.length_map]; exact h.len
  have H := Lib.hid h; have HA := Lib.hid ha; clear h ha
  go_enter Tryz.func123, Tryz.ntmps123
  go_wp2
  go_loopw [13] (fun i wr => ∃ k : Nat, k ≤ bs.length ∧ i = .int .i64 k ∧ Hid (findAt (isA a) ((ts.map Tv.x).drop k) k = atL a (ts.map Tv.x)) ∧ Hid (w = wr)) (fun i _ => bs.length - (intOf i).toNat)
  case atStart => exact ⟨0, Nat.zero_le _, rfl, rfl, rfl⟩
  case round =>
    obtain ⟨k, hk, rfl, HF, HW⟩ := hrel
    have hW := HW.out
    subst hW
    by_cases hlt : k < bs.length
    · obtain ⟨b, t, hb, ht⟩ := H.out.at_ hlt
      obtain ⟨r, rfl, _, hp⟩ := H.out.ptr hb
      obtain ⟨_, hbv, hok⟩ := H.out.vals k b t hb ht
      obtain ⟨c0, c1, c2, c3⟩ := t.val_cells hbv
      have hxk : (ts.map Tv.x)[k]? = some t.x := by rw [List.getElem?_map, ht]; rfl
      have hd := findAt_drop (isA a) (ts.map Tv.x) k _ hxk
      rw [HF.out] at hd
      have hE := bequal_any t.x.adr a t.A Aa t.c ca w hok.1 HA.out
      have e : (t.x.adr.toList == a.toList) = isA a t.x := rfl
      rw [e] at hE
      have HB := Lib.hid hb; have HD := Lib.hid hd; have HE := Lib.hid hE
      clear hb ht hbv hok hxk hd hE e HF c1 c2 c3
      have hw32 : IntKind.i32.wrap (k : Int) = k := by rw [IntKind.wrap_i32]; omega
      cases hs : isA a t.x with
      | true =>
        rw [hs] at HD HE
        go_wp2_with fail
        refine HE.out.mono ?_
        rintro e w1 ⟨rfl, rfl⟩
        go_wp2
        go_returns
        refine ⟨?_, rfl⟩
        have hd := HD.out
        simp only [if_true] at hd
        rw [hd, ptrAt_some HB.out]
        rfl
      | false =>
        rw [hs] at HD HE
        go_wp2_with fail
        refine HE.out.mono ?_
        rintro e w1 ⟨rfl, rfl⟩
        go_wp2
        go_roundw
        case rel => exact ⟨k + 1, by omega, by go_num, by have hd := HD.out; simp only [Bool.false_eq_true, if_false] at hd; exact hd.symm, trivial⟩
        case measure => simp [intOf]; omega
    · obtain rfl : k = bs.length := by omega
      have hd : atL a (ts.map Tv.x) = -1 := by
        rw [← HF.out, List.drop_of_length_le (by rw [HLL.out]; exact Nat.le_refl _)]; rfl
      have HD := Lib.hid hd; clear hd
      go_wp2
      go_returns
      exact ⟨by rw [HD.out]; rfl, rfl⟩
set_option maxRecDepth 100000 in
set_option maxHeartbeats 3200000 in
theorem has_any (lo g : Nat) (A : Option Addr) (c : Nat) (bs : List Nat) (ts : List Tv) (prop : Value) (tot : Int) (same : Bool) (w : World) (h : VSet w lo g A c bs ts prop tot same) (hn : bs.length ≤ 1000000) (a : ByteArray) (Aa : Option Addr) (ca : Nat) (ha : Byt w Aa a) :
    Calls Tryz.prog 131 #[ptrTo g, .slice Aa a.size ca] w fun e w' => e = .returned (.bool (decide (0 ≤ atL a (ts.map Tv.x)))) ∧ w = w' := by
  unfold ptrTo
  have h0 : w.cell? ⟨g, 0, none⟩ = some (.slice A bs.length c) := h.head.cell 0
  have HLL : Hid ((ts.map Tv.x).length = bs.length) := by show _ = _; rw [List.length_map]; exact h.len
  have H := Lib.hid h; have HA := Lib.hid ha; clear h ha
  go_enter Tryz.func131, Tryz.ntmps131
  go_wp2
  go_loopw [12] (fun i wr => ∃ k : Nat, k ≤ bs.length ∧ i = .int .i64 k ∧ Hid (findAt (isA a) ((ts.map Tv.x).drop k) k = atL a (ts.map Tv.x)) ∧ Hid (w = wr)) (fun i _ => bs.length - (intOf i).toNat)
  case atStart => exact ⟨0, Nat.zero_le _, rfl, rfl, rfl⟩
  case round =>
    obtain ⟨k, hk, rfl, HF, HW⟩ := hrel
    have hW := HW.out
    subst hW
    by_cases hlt : k < bs.length
    · obtain ⟨b, t, hb, ht⟩ := H.out.at_ hlt
      obtain ⟨r, rfl, _, hp⟩ := H.out.ptr hb
      obtain ⟨_, hbv, hok⟩ := H.out.vals k b t hb ht
      obtain ⟨c0, c1, c2, c3⟩ := t.val_cells hbv
      have hxk : (ts.map Tv.x)[k]? = some t.x := by rw [List.getElem?_map, ht]; rfl
      have hd := findAt_drop (isA a) (ts.map Tv.x) k _ hxk
      rw [HF.out] at hd
      have hE := bequal_any t.x.adr a t.A Aa t.c ca w hok.1 HA.out
      have e : (t.x.adr.toList == a.toList) = isA a t.x := rfl
      rw [e] at hE
      have HD := Lib.hid hd; have HE := Lib.hid hE
      clear hb ht hbv hok hxk hd hE e HF c1 c2 c3
      cases hs : isA a t.x with
      | true =>
        rw [hs] at HD HE
        go_wp2_with fail
        refine HE.out.mono ?_
        rintro e w1 ⟨rfl, rfl⟩
        go_wp2
        go_ret
        refine ⟨ret_bool ?_, rfl⟩
        have hd := HD.out
        simp only [if_true] at hd
        rw [hd]; simp
      | false =>
        rw [hs] at HD HE
        go_wp2_with fail
        refine HE.out.mono ?_
        rintro e w1 ⟨rfl, rfl⟩
        go_wp2
        go_roundw
        case rel => exact ⟨k + 1, by omega, by go_num, by have hd := HD.out; simp only [Bool.false_eq_true, if_false] at hd; exact hd.symm, trivial⟩
        case measure => simp [intOf]; omega
    · obtain rfl : k = bs.length := by omega
      have hd : atL a (ts.map Tv.x) = -1 := by
        rw [← HF.out, List.drop_of_length_le (by rw [HLL.out]; exact Nat.le_refl _)]; rfl
      have HD := Lib.hid hd; clear hd
      go_wp2
      go_ret
      exact ⟨ret_bool (by rw [HD.out]; rfl), rfl⟩
set_option maxHeartbeats 1600000 in
theorem sat_any (l : List Sd) (A : Option Addr) (n c : Nat) (a : ByteArray) (w : World) (hr : Rd w w.heap.size 4 A n (cellsOf l)) (hn : n ≤ 1000000) :
    Calls Tryz.prog 37 #[.slice A n c, .string a] w fun e w' => e = .returned (.int .i64 (atL a l)) ∧ Below w.heap.size w w' := by
  have HL := Lib.hid hr.len
  have HR := Lib.hid hr; clear hr
  go_enter Tryz.func37, Tryz.ntmps37
  go_wp2
  go_loopw [8] (fun i wr => ∃ k : Nat, k ≤ n ∧ i = .int .i64 k ∧ Hid (findAt (isA a) (l.drop k) k = atL a l) ∧ Hid (Below w.heap.size w wr)) (fun i _ => n - (intOf i).toNat)
  case atStart => exact ⟨0, Nat.zero_le _, rfl, rfl, Below.refl _ _⟩
  case round =>
    obtain ⟨k, hk, rfl, HF, HW⟩ := hrel
    by_cases hlt : k < n
    · have hk' : k < l.length := by have := HL.out; omega
      have hx : l[k]? = some l[k] := List.getElem?_eq_getElem hk'
      obtain ⟨ad, rfl, _, c0, c1, c2, c3⟩ := (HR.out.below HW.out).seat hx
      have hd := findAt_drop (isA a) l k _ hx
      rw [HF.out] at hd
      generalize l[k] = x at *
      have HX := Lib.hid hx; have HD := Lib.hid hd; clear hx hd HF c1 c2 c3
      by_cases hs : x.adr.toList = a.toList
      · have hs' : isA a x = true := by unfold isA; simpa using hs
        rw [hs'] at HD
        have hsb : (x.adr.toList == a.toList) = true := hs'
        clear hs hs'
        go_wp2
        go_ret
        exact ⟨ret_int (by have hd := HD.out; simp only [if_true] at hd; exact hd.symm), HW.out⟩
      · have hs' : isA a x = false := by unfold isA; simpa using hs
        rw [hs'] at HD
        have hsb : (x.adr.toList == a.toList) = false := hs'
        clear hs hs'
        go_wp2
        go_roundw
        case rel => exact ⟨k + 1, by omega, by go_num, by have hd := HD.out; simp only [Bool.false_eq_true, if_false] at hd; exact hd.symm, HW.out⟩
        case measure => simp [intOf]; omega
    · obtain rfl : k = n := by omega
      have hd : atL a l = -1 := by
        rw [← HF.out, List.drop_of_length_le (by rw [← HL.out]; exact Nat.le_refl _)]; rfl
      have HD := Lib.hid hd; clear hd
      go_wp2
      go_ret
      exact ⟨ret_int HD.out.symm, HW.out⟩
end Go.Proofs.YtikikddkhikfkaaGreatDoor

set_option linter.all false
namespace Go.Proofs.YtikikddkhikfkaaGreatDoor
open Go.RowKit

/-- is nobody of this address in the set? -/
def isNewB (vals : List Sd) (u : Sd) : Bool := !(decide (0 ≤ atL u.adr vals))
/-- the seat of this address -/
def seatAt (vals : List Sd) (a : ByteArray) : Option Sd := if atL a vals < 0 then none else vals[(atL a vals).toNat]?
theorem seatAt_none {vals : List Sd} {a : ByteArray} (h : atL a vals = -1) : seatAt vals a = none := by unfold seatAt; rw [if_pos (by omega)]
theorem seatAt_some {vals : List Sd} {a : ByteArray} {i : Nat} {x : Sd} (h : atL a vals = (i : Int)) (hx : vals[i]? = some x) : seatAt vals a = some x := by unfold seatAt; rw [if_neg (by omega), h, Int.toNat_natCast, hx]
/-- what a change adds to the power -/
def deltaL (vals : List Sd) (u : Sd) : Int := match seatAt vals u.adr with
  | some v => u.pow - v.pow
  | none => u.pow
theorem VRow.validator {w : World} {lo : Nat} {A : Option Addr} {c : Nat} {bs : List Nat} {ts : List Tv} (h : VRow w lo A c bs ts) {k b : Nat} {t : Tv} (hb : bs[k]? = some b) (ht : ts[k]? = some t) : Blk w b 136 t.val ∧ t.ok w := (h.vals k b t hb ht).2
set_option maxRecDepth 100000 in
set_option maxHeartbeats 3200000 in
theorem numNew_any (lo g : Nat) (A : Option Addr) (c : Nat) (bs : List Nat) (ts : List Tv) (prop : Value) (tot : Int) (same : Bool) (w : World) (h : VSet w lo g A c bs ts prop tot same) (hn : bs.length ≤ 1000000) (lo' : Nat) (Au : Option Addr) (cu : Nat) (bu : List Nat) (tu : List Tv) (hu : VRow w lo' Au cu bu tu) (hnu : bu.length ≤ 1000000) :
    Calls Tryz.prog 100 #[.slice Au bu.length cu, ptrTo g] w fun e w' => e = .returned (.int .i64 (((tu.map Tv.x).filter (isNewB (ts.map Tv.x))).length : Nat)) ∧ w = w' := by
  have HLL : Hid (tu.length = bu.length) := hu.len
  have H := Lib.hid h; have HU := Lib.hid hu; clear h hu
  have KH := Lib.hid (fun (a : ByteArray) (Aa : Option Addr) (ca : Nat) (ha : Byt w Aa a) => has_any lo g A c bs ts prop tot same w H.out hn a Aa ca ha)
  unfold ptrTo at KH ⊢
  go_enter Tryz.func100, Tryz.ntmps100
  go_wp2
  go_loopw [5, 10] (fun v i wr => ∃ k : Nat, k ≤ bu.length ∧ i = .int .i64 k ∧ v = .int .i64 (((tu.map Tv.x).take k).filter (isNewB (ts.map Tv.x))).length ∧ Hid (w = wr)) (fun _ i _ => bu.length - (intOf i).toNat)
  case atStart => exact ⟨0, Nat.zero_le _, rfl, rfl, rfl⟩
  case round =>
    obtain ⟨k, hk, rfl, rfl, HW⟩ := hrel
    have hW := HW.out
    subst hW
    have hfl : (((tu.map Tv.x).take k).filter (isNewB (ts.map Tv.x))).length ≤ k := Nat.le_trans (List.length_filter_le _ _) (by rw [List.length_take]; omega)
    by_cases hlt : k < bu.length
    · obtain ⟨b, t, hb, ht⟩ := HU.out.at_ hlt
      obtain ⟨r, rfl, _, hp⟩ := HU.out.ptr hb
      obtain ⟨hbv, hok⟩ := HU.out.validator hb ht
      obtain ⟨c0, c1, c2, c3⟩ := t.val_cells hbv
      have hst : ((tu.map Tv.x).take (k + 1)).filter (isNewB (ts.map Tv.x)) = ((tu.map Tv.x).take k).filter (isNewB (ts.map Tv.x)) ++ (if isNewB (ts.map Tv.x) t.x then [t.x] else []) := by
        have hk' : k < (tu.map Tv.x).length := by rw [List.length_map, HLL.out]; exact hlt
        rw [List.take_succ_eq_append_getElem hk', List.filter_append]
        have e : (tu.map Tv.x)[k] = t.x := by
          have h1 := (List.getElem?_eq_some_iff.1 ht).2
          rw [List.getElem_map, h1]
        rw [e]
        congr 1
        cases hi : isNewB (ts.map Tv.x) t.x <;> simp [List.filter, hi]
      have hE := KH.out t.x.adr t.A t.c hok.1
      have hnb : isNewB (ts.map Tv.x) t.x = !(decide (0 ≤ atL t.x.adr (ts.map Tv.x))) := rfl
      generalize ((tu.map Tv.x).take k).filter (isNewB (ts.map Tv.x)) = fk at *
      have HST := Lib.hid hst; have HE := Lib.hid hE
      clear hb ht hbv hok hst hE c1 c2 c3
      cases hs : decide (0 ≤ atL t.x.adr (ts.map Tv.x)) with
      | true =>
        rw [hs] at HE hnb
        have HNB := Lib.hid hnb; clear hnb hs
        go_wp2_with fail
        refine HE.out.mono ?_
        rintro e w1 ⟨rfl, rfl⟩
        go_wp2
        go_roundw
        case rel => exact ⟨k + 1, by omega, by go_num, by rw [HST.out, HNB.out]; simp, trivial⟩
        case measure => simp [intOf]; omega
      | false =>
        rw [hs] at HE hnb
        have HNB := Lib.hid hnb; clear hnb hs
        go_wp2_with fail
        refine HE.out.mono ?_
        rintro e w1 ⟨rfl, rfl⟩
        go_wp2
        go_roundw
        case rel => exact ⟨k + 1, by omega, by go_num, by rw [HST.out, HNB.out]; simp, trivial⟩
        case measure => simp [intOf]; omega
    · obtain rfl : k = bu.length := by omega
      go_wp2
      go_ret
      refine ⟨ret_int ?_, rfl⟩
      rw [List.take_of_length_le (by rw [List.length_map, HLL.out]; exact Nat.le_refl _)]
set_option maxHeartbeats 1600000 in
theorem delta_any (lo g : Nat) (A : Option Addr) (c : Nat) (bs : List Nat) (ts : List Tv) (prop : Value) (tot : Int) (same : Bool) (w : World) (h : VSet w lo g A c bs ts prop tot same) (hn : bs.length ≤ 1000000) (b : Nat) (t : Tv) (hb : Blk w b 136 t.val) (hok : t.ok w)
    (hp : ∀ t ∈ ts, 0 ≤ t.x.pow ∧ t.x.pow ≤ 2305843009213693952) (hpt : 0 ≤ t.x.pow ∧ t.x.pow ≤ 2305843009213693952) :
    Calls Tryz.prog 132 #[ptrTo b, ptrTo g] w fun e w' => e = .returned (.int .i64 (deltaL (ts.map Tv.x) t.x)) ∧ ∃ q, w' = w.drewN q := by
  obtain ⟨c0, c1, c2, c3⟩ := t.val_cells hb
  have KG := Lib.hid (getMut_any lo g A c bs ts prop tot same w h hn t.x.adr t.A t.c hok.1)
  rcases atL_cases t.x.adr (ts.map Tv.x) with ⟨h1, _⟩ | ⟨i, x, h1, h2, _⟩
  · have hd : deltaL (ts.map Tv.x) t.x = t.x.pow := by unfold deltaL; rw [seatAt_none h1]
    rw [h1] at KG
    rw [hd]
    have e : ptrAt bs (-1) = .pointer none := rfl
    rw [e] at KG
    clear h hb hok hd h1 c1 c3
    unfold ptrTo at KG ⊢
    go_enter Tryz.func132, Tryz.ntmps132
    go_wp2_with fail
    refine KG.out.mono ?_
    rintro e w1 ⟨rfl, rfl⟩
    go_wp2
    go_ret
    exact ⟨rfl, 0, rfl⟩
  · obtain ⟨t', ht', rfl⟩ : ∃ t', ts[i]? = some t' ∧ t'.x = x := by
      rw [List.getElem?_map] at h2
      cases hti : ts[i]? with
      | none => rw [hti] at h2; cases h2
      | some t' => rw [hti] at h2; exact ⟨t', rfl, Option.some.inj h2⟩
    have hi : i < bs.length := by rw [← h.len]; exact (List.getElem?_eq_some_iff.1 ht').1
    have hb' : bs[i]? = some bs[i] := List.getElem?_eq_getElem hi
    obtain ⟨_, hbv, _⟩ := h.vals i _ t' hb' ht'
    obtain ⟨d0, d1, d2, d3⟩ := t'.val_cells hbv
    have hd : deltaL (ts.map Tv.x) t.x = t.x.pow - t'.x.pow := by unfold deltaL; rw [seatAt_some h1 h2]
    have hp' := hp t' (List.mem_of_getElem? ht')
    rw [h1, ptrAt_some hb'] at KG
    rw [hd]
    generalize bs[i] = b' at *
    clear h hb hok hd h1 h2 ht' hbv hb' c1 c3 d0 d1 d3 hp
    unfold ptrTo at KG ⊢
    go_enter Tryz.func132, Tryz.ntmps132
    go_wp2_with fail
    refine KG.out.mono ?_
    rintro e w1 ⟨rfl, rfl⟩
    go_wp2
    go_quiet (fail)
    go_wp2
    go_ret
    exact ⟨rfl, _, rfl⟩
end Go.Proofs.YtikikddkhikfkaaGreatDoor

set_option linter.all false
namespace Go.Proofs.YtikikddkhikfkaaGreatDoor
open Go.RowKit

theorem errnew_any (s : ByteArray) (w : World) : Calls Tryz.prog 99 #[.string s] w fun e w' => e = .returned (.iface 211 (.pointer (some ⟨w.heap.size, 0, none⟩))) ∧ Below w.heap.size w w' := by
  go_enter Tryz.func99, Tryz.ntmps99
  go_wp2
  go_ret
  exact ⟨rfl, (Below.refl _ _).alloc (Nat.le_refl _) _⟩
/-- is everybody who goes there? -/
def okDel (vals us : List Sd) : Bool := us.all fun u => decide (0 ≤ atL u.adr vals)
def powAt (vals : List Sd) (u : Sd) : Int := match seatAt vals u.adr with
  | some v => v.pow
  | none => 0
/-- the power that goes -/
def remSum (vals : List Sd) : List Sd → Int
  | [] => 0
  | u :: r => powAt vals u + remSum vals r
theorem remSum_snoc (vals l : List Sd) (u : Sd) : remSum vals (l ++ [u]) = remSum vals l + powAt vals u := by
  induction l with
  | nil => simp [remSum]
  | cons x r ih => simp only [List.cons_append, remSum, ih]; omega
theorem powAt_bd {vals : List Sd} (h : ∀ x ∈ vals, 0 ≤ x.pow ∧ x.pow ≤ 1125899906842624) (u : Sd) : 0 ≤ powAt vals u ∧ powAt vals u ≤ 1125899906842624 := by
  unfold powAt seatAt
  split
  · rename_i v hv
    split at hv
    · cases hv
    · exact h v (List.mem_of_getElem? hv)
  · omega
theorem remSum_bd {vals : List Sd} (h : ∀ x ∈ vals, 0 ≤ x.pow ∧ x.pow ≤ 1125899906842624) (l : List Sd) : 0 ≤ remSum vals l ∧ remSum vals l ≤ 1125899906842624 * (l.length : Int) := by
  induction l with
  | nil => simp [remSum]
  | cons x r ih =>
    have := powAt_bd h x
    simp only [remSum, List.length_cons]
    omega
set_option maxRecDepth 100000 in
set_option maxHeartbeats 3200000 in
theorem remov_any (lo g : Nat) (A : Option Addr) (c : Nat) (bs : List Nat) (ts : List Tv) (prop : Value) (tot : Int) (same : Bool) (w : World) (h : VSet w lo g A c bs ts prop tot same) (hn : bs.length ≤ 1000000) (lo' : Nat) (Au : Option Addr) (cu : Nat) (bu : List Nat) (tu : List Tv) (hu : VRow w lo' Au cu bu tu) (hnu : bu.length ≤ 1000)
    (hp : ∀ t ∈ ts, 0 ≤ t.x.pow ∧ t.x.pow ≤ 1125899906842624) (hle : okDel (ts.map Tv.x) (tu.map Tv.x) = true → bu.length ≤ bs.length) :
    Calls Tryz.prog 101 #[.slice Au bu.length cu, ptrTo g] w fun e w' => Below w.heap.size w w' ∧
      ((okDel (ts.map Tv.x) (tu.map Tv.x) = true ∧ e = .returned (.tuple #[.int .i64 (remSum (ts.map Tv.x) (tu.map Tv.x)), .nilIface])) ∨ (okDel (ts.map Tv.x) (tu.map Tv.x) = false ∧ ∃ p v, e = .returned (.tuple #[.int .i64 p, .iface 211 v]))) := by
  have HLL : Hid (tu.length = bu.length) := hu.len
  have hps : ∀ x ∈ ts.map Tv.x, 0 ≤ x.pow ∧ x.pow ≤ 1125899906842624 := fun x hx => by
    obtain ⟨t, ht, rfl⟩ := List.mem_map.1 hx
    exact hp t ht
  have h0 : w.cell? ⟨g, 0, none⟩ = some (.slice A bs.length c) := h.head.cell 0
  have H := Lib.hid h; have HU := Lib.hid hu; have HP := Lib.hid hp; have HPS := Lib.hid hps; have HLE := Lib.hid hle; clear h hu hp hps hle
  have KG := Lib.hid (fun (a : ByteArray) (Aa : Option Addr) (ca : Nat) (ha : Byt w Aa a) => getMut_any lo g A c bs ts prop tot same w H.out hn a Aa ca ha)
  have KE := Lib.hid (fun s W => errnew_any s W)
  unfold ptrTo at KG ⊢
  go_enter Tryz.func101, Tryz.ntmps101
  go_wp2
  go_loopw [6, 14] (fun v i wr => ∃ k : Nat, k ≤ bu.length ∧ i = .int .i64 k ∧ v = .int .i64 (remSum (ts.map Tv.x) ((tu.map Tv.x).take k)) ∧ Hid (okDel (ts.map Tv.x) ((tu.map Tv.x).take k) = true) ∧ Hid (w = wr)) (fun _ i _ => bu.length - (intOf i).toNat)
  case atStart => exact ⟨0, Nat.zero_le _, rfl, rfl, rfl, rfl⟩
  case round =>
    obtain ⟨k, hk, rfl, rfl, HD, HW⟩ := hrel
    have hW := HW.out
    subst hW
    have hbd := remSum_bd HPS.out ((tu.map Tv.x).take k)
    have hlk : ((tu.map Tv.x).take k).length ≤ 1000 := by rw [List.length_take]; omega
    by_cases hlt : k < bu.length
    · obtain ⟨b, t, hb, ht⟩ := HU.out.at_ hlt
      obtain ⟨r, rfl, _, hp⟩ := HU.out.ptr hb
      obtain ⟨hbv, hok⟩ := HU.out.validator hb ht
      obtain ⟨c0, c1, c2, c3⟩ := t.val_cells hbv
      have hk' : k < (tu.map Tv.x).length := by rw [List.length_map, HLL.out]; exact hlt
      have e : (tu.map Tv.x)[k] = t.x := by
        have h1 := (List.getElem?_eq_some_iff.1 ht).2
        rw [List.getElem_map, h1]
      have hst : (tu.map Tv.x).take (k + 1) = (tu.map Tv.x).take k ++ [t.x] := by rw [List.take_succ_eq_append_getElem hk', e]
      have hsub : ∀ x ∈ (tu.map Tv.x).take (k + 1), x ∈ tu.map Tv.x := fun x hx => List.mem_of_mem_take hx
      have hE := KG.out t.x.adr t.A t.c hok.1
      rcases atL_cases t.x.adr (ts.map Tv.x) with ⟨h1, _⟩ | ⟨i, x, h1, h2, _⟩
      · have hf : okDel (ts.map Tv.x) (tu.map Tv.x) = false := by
          unfold okDel
          rw [List.all_eq_false]
          exact ⟨t.x, List.mem_map.2 ⟨t, List.mem_of_getElem? ht, rfl⟩, by rw [h1]; simp⟩
        rw [h1, show ptrAt bs (-1) = .pointer none from rfl] at hE
        have HE := Lib.hid hE; have HF := Lib.hid hf
        clear hb ht hbv hok hst hE c1 c2 c3 h1 hf hsub e
        go_wp2_with fail
        refine HE.out.mono ?_
        rintro e w1 ⟨rfl, rfl⟩
        go_wp2_with fail
        refine (KE.out _ _).mono ?_
        rintro e w2 ⟨rfl, hb2⟩
        have HB2 := Lib.hid hb2; clear hb2
        go_wp2
        go_returns
        exact ⟨HB2.out, .inr ⟨HF.out, _, _, rfl⟩⟩
      · obtain ⟨t', ht', rfl⟩ : ∃ t', ts[i]? = some t' ∧ t'.x = x := by
          rw [List.getElem?_map] at h2
          cases hti : ts[i]? with
          | none => rw [hti] at h2; cases h2
          | some t' => rw [hti] at h2; exact ⟨t', rfl, Option.some.inj h2⟩
        have hi : i < bs.length := by rw [← H.out.len]; exact (List.getElem?_eq_some_iff.1 ht').1
        have hb' : bs[i]? = some bs[i] := List.getElem?_eq_getElem hi
        obtain ⟨_, hbv', _⟩ := H.out.vals i _ t' hb' ht'
        obtain ⟨d0, d1, d2, d3⟩ := t'.val_cells hbv'
        have hpw : powAt (ts.map Tv.x) t.x = t'.x.pow := by unfold powAt; rw [seatAt_some h1 h2]
        have hpb := HP.out t' (List.mem_of_getElem? ht')
        have hsn : remSum (ts.map Tv.x) ((tu.map Tv.x).take (k + 1)) = remSum (ts.map Tv.x) ((tu.map Tv.x).take k) + t'.x.pow := by rw [hst, remSum_snoc, hpw]
        have hod : okDel (ts.map Tv.x) ((tu.map Tv.x).take (k + 1)) = true := by
          have hd := HD.out
          unfold okDel at hd ⊢
          rw [hst, List.all_append, hd]; simp [h1]
        rw [h1, ptrAt_some hb'] at hE
        have hbd2 : remSum (ts.map Tv.x) ((tu.map Tv.x).take k) ≤ 1125899906842624000 := by omega
        generalize bs[i] = b' at *
        generalize remSum (ts.map Tv.x) ((tu.map Tv.x).take k) = S at *
        have HE := Lib.hid hE; have HSN := Lib.hid hsn; have HOD := Lib.hid hod
        clear hb ht hbv hok hst hE c1 c2 c3 h1 h2 hsub e ht' hb' hbv' d0 d1 d3 hpw hsn hod
        go_wp2_with fail
        refine HE.out.mono ?_
        rintro e w1 ⟨rfl, rfl⟩
        go_wp2
        go_roundw
        case rel => exact ⟨k + 1, by omega, by go_num, by rw [HSN.out], HOD.out, trivial⟩
        case measure => simp [intOf]; omega
    · obtain rfl : k = bu.length := by omega
      have hd := HD.out
      have hS : (tu.map Tv.x).take bu.length = tu.map Tv.x := List.take_of_length_le (by rw [List.length_map, HLL.out]; exact Nat.le_refl _)
      rw [hS] at hd
      have hle := HLE.out hd
      have hgt : ¬ ((bs.length : Int) < (bu.length : Int)) := by omega
      have HSS := Lib.hid hS; have HDD := Lib.hid hd; clear hS hd
      go_wp2
      go_returns
      exact ⟨Below.refl _ _, .inl ⟨HDD.out, by rw [HSS.out]; rfl⟩⟩
end Go.Proofs.YtikikddkhikfkaaGreatDoor
