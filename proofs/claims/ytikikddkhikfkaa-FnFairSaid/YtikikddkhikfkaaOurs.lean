/-
  types.Seats and impl.ours: walks. By the session.
-/
import Derived.Test.YtikikddkhikfkaaType
import Derived.Test.YtikikddkhikfkaaSeats
import Derived.Test.YtikikddkhikfkaaLast
import Derived.Test.YtikikddkhikfkaaBack
import Derived.RegionTactic
import Derived.Deep.RegionHeld3
set_option linter.unusedSimpArgs false
namespace Go.Proofs.Ytikikddkhikfkaa
open Go.RowKit

set_option maxRecDepth 100000 in
set_option maxHeartbeats 3200000 in
theorem tseats_any (lo g : Nat) (A : Option Addr) (c : Nat) (bs : List Nat) (ts : List Tv) (prop : Value) (tot : Int) (same : Bool) (w : World) (h : VSet w lo g A c bs ts prop tot same) (hn : bs.length ≤ 1000000) :
    Calls Try.prog 66 #[ptrTo g] w fun e w' => ∃ (A' : Option Addr) (c' : Nat), e = .returned (.slice A' bs.length c') ∧ Rd w' w'.heap.size 4 A' bs.length (ts.flatMap Tv.seat) ∧ Below w.heap.size w w' := by
  unfold ptrTo
  obtain ⟨i0, hi0, hz0, hz1, hz2⟩ := info_parts infoTSeat
  have HI := Lib.hid hi0; have HZ0 := Lib.hid hz0; have HZ1 := Lib.hid hz1; have HZ2 := Lib.hid hz2
  clear hi0 hz0 hz1 hz2
  have h0 : w.cell? ⟨g, 0, none⟩ = some (.slice A bs.length c) := h.head.cell 0
  have H := Lib.hid h; clear h
  go_enter Try.func66, Try.ntmps66
  go_wp2
  go_loopw [3, 11] (fun v i wr => ∃ (k : Nat) (A1 : Option Addr) (c1 : Nat), k ≤ bs.length ∧ i = .int .i64 k ∧ v = .slice A1 k c1 ∧ Hid (wr.ownsRow w.heap.size 130 4 (.slice A1 k c1) k ((ts.take k).flatMap Tv.seat)) ∧ Hid (Below w.heap.size w wr)) (fun _ i _ => bs.length - (intOf i).toNat)
  case atStart => exact ⟨0, none, 0, Nat.zero_le _, rfl, rfl, World.ownsRow_nil _ _ _ _, Below.refl _ _⟩
  case round =>
    obtain ⟨k, A1, c1, hk, rfl, rfl, HO, HB⟩ := hrel
    have hz := HB.out.size
    by_cases hlt : k < bs.length
    · have hv := H.out.keep (KeepV.of_below lo HB.out (Nat.le_refl _))
      obtain ⟨b, t, hb, ht⟩ := hv.at_ hlt
      obtain ⟨r, rfl, _, hp⟩ := hv.ptr hb
      obtain ⟨_, hbv, hok⟩ := hv.vals k b t hb ht
      obtain ⟨d0, d1, d2, d3⟩ := t.val_cells hbv
      have hst : ts.take (k + 1) = ts.take k ++ [t] := by
        have h1 := List.getElem?_eq_some_iff.1 ht
        rw [List.take_succ_eq_append_getElem h1.1, h1.2]
      have hbl := hbv.lt
      have HST := Lib.hid hst; have HBV := Lib.hid hbv; have HBB := Lib.hid hb; have HTT := Lib.hid ht; have HVV := Lib.hid hv; have HOK := Lib.hid hok
      clear hst hbv hb ht hv hok
      have km := fun W => method_bytes t.K t.A t.x.key.size t.d t.x.adr.size t.c W
      go_wp2_with fail
      have HS : Hid ((fun w' : World => w'.cell? ⟨b, 0, none⟩ = some (.slice t.A t.x.adr.size t.c) ∧ w'.cell? ⟨b, 1, none⟩ = some (.iface 132 (.agg #[.slice t.K t.x.key.size t.d, .slice t.A t.x.adr.size t.c, .bool false])) ∧ w'.cell? ⟨b, 2, none⟩ = some (.int .i64 t.x.pow) ∧ w'.cell? ⟨b, 3, none⟩ = some (.int .i64 t.x.pri)) wr.drew) := Lib.hid ⟨d0, d1, d2, d3⟩
      refine wp_region_L (fun w' : World => w'.cell? ⟨b, 0, none⟩ = some (.slice t.A t.x.adr.size t.c) ∧ w'.cell? ⟨b, 1, none⟩ = some (.iface 132 (.agg #[.slice t.K t.x.key.size t.d, .slice t.A t.x.adr.size t.c, .bool false])) ∧ w'.cell? ⟨b, 2, none⟩ = some (.int .i64 t.x.pow) ∧ w'.cell? ⟨b, 3, none⟩ = some (.int .i64 t.x.pri)) 21 (by kernel_rfl) ?_
      refine wpAnyL_take 0 (v := .slice A1 k c1) rfl (by kernel_rfl) (fun _ _ _ h => h) (yields_in rfl (fun w' hw' => by obtain ⟨y0, y1, y2, y3⟩ := hw'; go_simp)) HS.out ?_
      simp only [Act.put, List.setIfInBounds_toArray, List.set_cons_zero, List.set_cons_succ]
      refine wpAnyL_take 1 (v := .pointer (some ⟨b, 0, none⟩)) rfl (by kernel_rfl) (fun _ _ _ h => h) (yields_in rfl (fun w' hw' => by obtain ⟨y0, y1, y2, y3⟩ := hw'; go_simp)) HS.out ?_
      simp only [Act.put, List.setIfInBounds_toArray, List.set_cons_zero, List.set_cons_succ]
      refine wpAnyL_take 2 (v := .pointer (some ⟨b, 0, none⟩)) rfl (by kernel_rfl) (fun _ _ _ h => h) (yields_in rfl (fun w' hw' => by obtain ⟨y0, y1, y2, y3⟩ := hw'; go_simp)) HS.out ?_
      simp only [Act.put, List.setIfInBounds_toArray, List.set_cons_zero, List.set_cons_succ]
      refine wpAnyL_take 3 (v := .pointer (some ⟨b, 0, none⟩)) rfl (by kernel_rfl) (fun _ _ _ h => h) (yields_in rfl (fun w' hw' => by obtain ⟨y0, y1, y2, y3⟩ := hw'; go_simp)) HS.out ?_
      simp only [Act.put, List.setIfInBounds_toArray, List.set_cons_zero, List.set_cons_succ]
      refine wpAnyL_take 4 (v := .slice t.A t.x.adr.size t.c) rfl (by kernel_rfl) (fun _ _ _ h => h) (yields_in rfl (fun w' hw' => by obtain ⟨y0, y1, y2, y3⟩ := hw'; go_simp)) HS.out ?_
      simp only [Act.put, List.setIfInBounds_toArray, List.set_cons_zero, List.set_cons_succ]
      refine wpAnyL_take 5 (v := .pointer (some ⟨b, 0, none⟩)) rfl (by kernel_rfl) (fun _ _ _ h => h) (yields_in rfl (fun w' hw' => by obtain ⟨y0, y1, y2, y3⟩ := hw'; go_simp)) HS.out ?_
      simp only [Act.put, List.setIfInBounds_toArray, List.set_cons_zero, List.set_cons_succ]
      refine wpAnyL_take 6 (v := .pointer (some ⟨b, 0, none⟩)) rfl (by kernel_rfl) (fun _ _ _ h => h) (yields_in rfl (fun w' hw' => by obtain ⟨y0, y1, y2, y3⟩ := hw'; go_simp)) HS.out ?_
      simp only [Act.put, List.setIfInBounds_toArray, List.set_cons_zero, List.set_cons_succ]
      refine wpAnyL_take 7 (v := .pointer (some ⟨b, 1, none⟩)) rfl (by kernel_rfl) (fun _ _ _ h => h) (yields_in rfl (fun w' hw' => by obtain ⟨y0, y1, y2, y3⟩ := hw'; go_simp)) HS.out ?_
      simp only [Act.put, List.setIfInBounds_toArray, List.set_cons_zero, List.set_cons_succ]
      refine wpAnyL_take 8 (v := .iface 132 (.agg #[.slice t.K t.x.key.size t.d, .slice t.A t.x.adr.size t.c, .bool false])) rfl (by kernel_rfl) (fun _ _ _ h => h) (yields_in rfl (fun w' hw' => by obtain ⟨y0, y1, y2, y3⟩ := hw'; go_simp)) HS.out ?_
      simp only [Act.put, List.setIfInBounds_toArray, List.set_cons_zero, List.set_cons_succ]
      refine wpAnyL_take 10 (v := .pointer (some ⟨b, 0, none⟩)) rfl (by kernel_rfl) (fun _ _ _ h => h) (yields_in rfl (fun w' hw' => by obtain ⟨y0, y1, y2, y3⟩ := hw'; go_simp)) HS.out ?_
      simp only [Act.put, List.setIfInBounds_toArray, List.set_cons_zero, List.set_cons_succ]
      refine wpAnyL_take 11 (v := .pointer (some ⟨b, 0, none⟩)) rfl (by kernel_rfl) (fun _ _ _ h => h) (yields_in rfl (fun w' hw' => by obtain ⟨y0, y1, y2, y3⟩ := hw'; go_simp)) HS.out ?_
      simp only [Act.put, List.setIfInBounds_toArray, List.set_cons_zero, List.set_cons_succ]
      refine wpAnyL_take 12 (v := .pointer (some ⟨b, 2, none⟩)) rfl (by kernel_rfl) (fun _ _ _ h => h) (yields_in rfl (fun w' hw' => by obtain ⟨y0, y1, y2, y3⟩ := hw'; go_simp)) HS.out ?_
      simp only [Act.put, List.setIfInBounds_toArray, List.set_cons_zero, List.set_cons_succ]
      refine wpAnyL_take 13 (v := .int .i64 t.x.pow) rfl (by kernel_rfl) (fun _ _ _ h => h) (yields_in rfl (fun w' hw' => by obtain ⟨y0, y1, y2, y3⟩ := hw'; go_simp)) HS.out ?_
      simp only [Act.put, List.setIfInBounds_toArray, List.set_cons_zero, List.set_cons_succ]
      refine wpAnyL_take 14 (v := .pointer (some ⟨b, 0, none⟩)) rfl (by kernel_rfl) (fun _ _ _ h => h) (yields_in rfl (fun w' hw' => by obtain ⟨y0, y1, y2, y3⟩ := hw'; go_simp)) HS.out ?_
      simp only [Act.put, List.setIfInBounds_toArray, List.set_cons_zero, List.set_cons_succ]
      refine wpAnyL_take 15 (v := .pointer (some ⟨b, 0, none⟩)) rfl (by kernel_rfl) (fun _ _ _ h => h) (yields_in rfl (fun w' hw' => by obtain ⟨y0, y1, y2, y3⟩ := hw'; go_simp)) HS.out ?_
      simp only [Act.put, List.setIfInBounds_toArray, List.set_cons_zero, List.set_cons_succ]
      refine wpAnyL_take 16 (v := .pointer (some ⟨b, 3, none⟩)) rfl (by kernel_rfl) (fun _ _ _ h => h) (yields_in rfl (fun w' hw' => by obtain ⟨y0, y1, y2, y3⟩ := hw'; go_simp)) HS.out ?_
      simp only [Act.put, List.setIfInBounds_toArray, List.set_cons_zero, List.set_cons_succ]
      refine wpAnyL_take 17 (v := .int .i64 t.x.pri) rfl (by kernel_rfl) (fun _ _ _ h => h) (yields_in rfl (fun w' hw' => by obtain ⟨y0, y1, y2, y3⟩ := hw'; go_simp)) HS.out ?_
      simp only [Act.put, List.setIfInBounds_toArray, List.set_cons_zero, List.set_cons_succ]
      refine wpAnyL_one 9 rfl (by kernel_rfl) rfl ?_
      go_simp
      refine (kbytes_any _ _ _ _ _ _ _).mono ?_
      rintro e w1 ⟨rfl, hb1⟩
      have HB1 := Lib.hid hb1; clear hb1
      have hz1 : wr.heap.size ≤ w1.heap.size := HB1.out.size
      have hv1 := HBV.out.drew.belowS HB1.out
      have HV1 := Lib.hid hv1; clear hv1
      refine ⟨⟨HV1.out.cell 0, HV1.out.cell 1, HV1.out.cell 2, HV1.out.cell 3⟩, ?_⟩
      refine wpAnyL_one 18 rfl (by kernel_rfl) rfl ?_
      go_simp
      refine ⟨⟨HV1.out.cell 0, HV1.out.cell 1, HV1.out.cell 2, HV1.out.cell 3⟩, ?_⟩
      refine wpAnyL_one 19 rfl (by kernel_rfl) rfl ?_
      go_simp
      have HV2 := Lib.hid (HV1.out.alloc (.cells #[.slice t.A t.x.adr.size t.c, .slice t.K t.x.key.size t.d, .int .i64 t.x.pow, .int .i64 t.x.pri] 130))
      refine ⟨⟨HV2.out.cell 0, HV2.out.cell 1, HV2.out.cell 2, HV2.out.cell 3⟩, ?_⟩
      refine wpAnyL_one 20 rfl (by kernel_rfl) rfl ?_
      refine wp_app _ (.tmp 15) (.tmp 34) 87 rfl w.heap.size 130 i0 _ 4 64 Try.underlying87 HI.out HZ0.out HZ1.out HZ2.out rfl (by decide) (.slice A1 k c1) k ((ts.take k).flatMap Tv.seat) rfl ?ho (w1.heap.size + 1) (some ⟨w1.heap.size, 0, none⟩) 1 1 t.seat rfl ?hr (Tv.seat_one _) ?q1 ?q2 ?hb ?_
      case q1 => simp only [maxLen]; omega
      case q2 => omega
      case hr => exact (Rd.new _ _ _ 4 1 _ rfl rfl)
      case ho => exact (own_below (own_below (own_drewN HO.out 1) HB1.out (Nat.le_refl _)) ((Below.refl _ _).alloc (Nat.le_refl _) _) (Nat.le_refl _))
      case hb => simp; omega
      intro A2 c2 w2 hown2 hg2 hat2
      rw [flat_snoc] at hown2
      have HO2 := Lib.hid hown2; clear hown2
      have HG2 := Lib.hid hg2; clear hg2
      have HV3 := Lib.hid (HV2.out.grown HG2.out (own_ne_blk HO.out HBV.out (by decide)))
      refine ⟨fun _ => ⟨HV3.out.cell 0, HV3.out.cell 1, HV3.out.cell 2, HV3.out.cell 3⟩, ?_⟩
      simp only [Act.put, List.setIfInBounds_toArray, List.set_cons_zero, List.set_cons_succ]
      refine wpAnyL_one 21 rfl (by kernel_rfl) rfl ?_
      go_simp
      refine wpAnyL_done (by kernel_rfl) ?_ _
      go_wp2
      go_roundw
      case rel =>
        refine ⟨k + 1, A2, c2, by omega, by go_num, rfl, ?_, ?_⟩
        · rw [HST.out]; exact HO2.out
        · exact ((HB.out.drew.trans (HB1.out.mono hz)).alloc (by omega) _).grown HG2.out (by simp; omega) (own_base HO.out)
      case measure => simp [intOf]; omega
    · have hkn : k = bs.length := by omega
      subst hkn
      go_wp2_with fail
      go_ret
      refine ⟨A1, c1, rfl, ?_, HB.out⟩
      have h1 := Rd.of_own HO.out
      rw [List.take_of_length_le (by have := H.out.len; omega)] at h1
      exact h1

set_option maxRecDepth 100000 in
set_option maxHeartbeats 3200000 in
theorem ours_any (lo g : Nat) (A : Option Addr) (c : Nat) (bs : List Nat) (ts : List Tv) (prop : Value) (tot : Int) (same : Bool) (w : World) (h : VSet w lo g A c bs ts prop tot same) (hn : bs.length ≤ 1000000) :
    Calls Try.prog 46 #[ptrTo g] w fun e w' => ∃ (A' : Option Addr) (c' : Nat), e = .returned (.slice A' bs.length c') ∧ Rd w' w'.heap.size 4 A' bs.length (cellsOf (ts.map Tv.x)) ∧ Below w.heap.size w w' := by
  have hc := tseats_any lo g A c bs ts prop tot same w h hn
  obtain ⟨i0, hi0, hz0, hz1, hz2⟩ := info_parts infoISeat
  have HI := Lib.hid hi0; have HZ0 := Lib.hid hz0; have HZ1 := Lib.hid hz1; have HZ2 := Lib.hid hz2
  clear hi0 hz0 hz1 hz2
  have hlen : bs.length = ts.length := h.len.symm
  have hok : ∀ t ∈ ts, t.ok w := fun t ht => by
    obtain ⟨j, hj, rfl⟩ := List.getElem_of_mem ht
    exact (h.vals j _ _ (List.getElem?_eq_getElem (by omega)) (List.getElem?_eq_getElem hj)).2.2
  have HL := Lib.hid hlen; have HOK := Lib.hid hok; have HC := Lib.hid hc
  clear h hlen hok hc
  unfold ptrTo
  go_enter Try.func46, Try.ntmps46
  go_wp2_with (refine HC.out.mono ?_; rintro e w1 ⟨A1, c1, rfl, hr1, hb1⟩; have HR1 := Lib.hid hr1; have HB1 := Lib.hid hb1; clear hr1 hb1)
  go_loopw [3, 9] (fun v i wr => ∃ (k : Nat) (A2 : Option Addr) (c2 : Nat), k ≤ bs.length ∧ i = .int .i64 k ∧ v = .slice A2 k c2 ∧ Hid (wr.ownsRow w1.heap.size 79 4 (.slice A2 k c2) k (cellsOf ((ts.take k).map Tv.x))) ∧ Hid (Below w1.heap.size w1 wr)) (fun _ i _ => bs.length - (intOf i).toNat)
  case atStart => exact ⟨0, none, 0, Nat.zero_le _, rfl, rfl, World.ownsRow_nil _ _ _ _, Below.refl _ _⟩
  case round =>
    obtain ⟨k, A2, c2, hk, rfl, rfl, HO, HB⟩ := hrel
    have hz := HB.out.size
    by_cases hlt : k < bs.length
    · have hk' : k < ts.length := by have := HL.out; omega
      have hx : ts[k]? = some ts[k] := List.getElem?_eq_getElem hk'
      obtain ⟨ad, rfl, _, c0, c1', c2', c3⟩ := (HR1.out.below HB.out).four (fun _ => rfl) hx
      have hst : ts.take (k + 1) = ts.take k ++ [ts[k]] := List.take_succ_eq_append_getElem hk'
      have hto : ts[k].ok (wr.alloc (.cells ts[k].seat.toArray 130)) := (((HOK.out _ (List.getElem_mem hk')).keep (KeepB.of_below HB1.out)).keep (KeepB.of_below HB.out)).keep (KeepB.alloc _ _)
      generalize ts[k] = t at *
      have HST := Lib.hid hst; have HX := Lib.hid hx
      clear hst hx
      simp only [Tv.seat, List.getElem?_cons_zero, List.getElem?_cons_succ] at c0 c1' c2' c3
      have HTO := Lib.hid hto; clear hto
      have kc := HTO.out.1.back (P := Try.prog) 22 9 t.c Try.underlying22 Try.underlying5 Try.underlying9
      have kd := HTO.out.2.back (P := Try.prog) 22 9 t.d Try.underlying22 Try.underlying5 Try.underlying9
      simp only [Tv.seat] at kc kd
      go_wp2_with (at_builtin; refine wpList_app _ rfl (.tmp 13) (.tmp 25) 39 rfl w1.heap.size 79 i0 _ 4 48 Try.underlying39 HI.out HZ0.out HZ1.out HZ2.out rfl (by decide) (.slice A2 k c2) k (cellsOf ((ts.take k).map Tv.x)) rfl ?ho (wr.heap.size + 1 + 1) (some ⟨wr.heap.size + 1, 0, none⟩) 1 1 t.x.cells rfl ?hr ?h1 ?q1 ?q2 ?hb ?_; (case q1 => simp only [maxLen]; omega); (case q2 => omega); (case hr => exact Rd.new _ _ _ 4 1 _ rfl (by simp)); (case h1 => intro u hu; simp only [Sd.cells, List.mem_cons, List.not_mem_nil, or_false] at hu; rcases hu with rfl | rfl | rfl | rfl <;> rfl); (case ho => exact (HO.out.alloc _).alloc _); (case hb => simp; omega); intro A3 c3 w3 hown3 hg3 _)
      have HO3 := Lib.hid hown3; have HG3 := Lib.hid hg3; clear hown3 hg3
      go_roundw
      case rel =>
        refine ⟨k + 1, A3, c3, by omega, by go_num, rfl, ?_, ?_⟩
        · show World.ownsRow _ _ _ _ _ _ _
          rw [HST.out, List.map_append, cellsOf_append]
          have := HO3.out
          simpa [cellsOf] using this
        · exact ((HB.out.alloc hz _).alloc (by simp; omega) _).grown HG3.out (by simp; omega) (own_base HO.out)
      case measure => simp [intOf]; omega
    · have hkn : k = bs.length := by omega
      subst hkn
      have h1 := Rd.of_own HO.out
      rw [List.take_of_length_le (by have := HL.out; omega)] at h1
      have H1 := Lib.hid h1; clear h1
      go_wp2_with fail
      go_ret
      exact ⟨A2, c2, rfl, H1.out, HB1.out.trans (HB.out.mono HB1.out.size)⟩
end Go.Proofs.Ytikikddkhikfkaa
