/-
  ValidatorSet.Copy, CopyIncrementProposerPriority, impl.Copied: walks. By the session.
-/
import Derived.Test.YtikikddkhikfkaaCopy
set_option linter.unusedSimpArgs false
namespace Go.Proofs.Ytikikddkhikfkaa
open Go.RowKit

set_option maxRecDepth 100000 in
set_option maxHeartbeats 3200000 in
theorem setCopy_any (lo g : Nat) (A : Option Addr) (c : Nat) (bs : List Nat) (ts : List Tv) (u : Option Addr) (tot : Int) (same : Bool) (w : World) (h : VSet w lo g A c bs ts (.pointer u) tot same) (hn : bs.length ≤ 1000000) (hn0 : 0 < bs.length) :
    Calls Try.prog 73 #[ptrTo g] w fun e w' => ∃ (g' : Nat) (A' : Option Addr) (c' : Nat) (bs' : List Nat), e = .returned (ptrTo g') ∧ bs'.length = bs.length ∧ VSet w' w.heap.size g' A' c' bs' ts (.pointer u) tot same ∧ Below w.heap.size w w' := by
  have KC := Lib.hid (listCopy_any lo g A c bs ts (.pointer u) tot same w.drew (h.keep (KeepV.drewN lo w 1)) hn hn0)
  have hg := h.head.lt
  have h0 : w.cell? ⟨g, 0, none⟩ = some (.slice A bs.length c) := h.head.cell 0
  have h1 : w.cell? ⟨g, 1, none⟩ = some (.pointer u) := h.head.cell 1
  have h2 : w.cell? ⟨g, 2, none⟩ = some (.int .i64 tot) := h.head.cell 2
  have h3 : w.cell? ⟨g, 3, none⟩ = some (.bool same) := h.head.cell 3
  have HS : Hid ((fun w' : World => w'.cell? ⟨g, 0, none⟩ = some (.slice A bs.length c) ∧ w'.cell? ⟨g, 1, none⟩ = some (.pointer u) ∧ w'.cell? ⟨g, 2, none⟩ = some (.int .i64 tot) ∧ w'.cell? ⟨g, 3, none⟩ = some (.bool same)) w.drew) := Lib.hid ⟨h0, h1, h2, h3⟩
  have H := Lib.hid h; clear h
  unfold ptrTo
  go_enter Try.func73, Try.ntmps73
  go_wp2_with fail
  refine wp_region_L (fun w' : World => w'.cell? ⟨g, 0, none⟩ = some (.slice A bs.length c) ∧ w'.cell? ⟨g, 1, none⟩ = some (.pointer u) ∧ w'.cell? ⟨g, 2, none⟩ = some (.int .i64 tot) ∧ w'.cell? ⟨g, 3, none⟩ = some (.bool same)) 19 (by kernel_rfl) ?_
  refine wpAnyL_take 0 (v := .pointer (some ⟨g, 0, none⟩)) rfl (by kernel_rfl) (fun _ _ _ h => h) (yields_in rfl (fun w' hw' => by obtain ⟨y0, y1, y2, y3⟩ := hw'; go_simp)) HS.out ?_
  simp only [Act.put, List.setIfInBounds_toArray, List.set_cons_zero, List.set_cons_succ]
  refine wpAnyL_take 1 (v := .pointer (some ⟨g, 0, none⟩)) rfl (by kernel_rfl) (fun _ _ _ h => h) (yields_in rfl (fun w' hw' => by obtain ⟨y0, y1, y2, y3⟩ := hw'; go_simp)) HS.out ?_
  simp only [Act.put, List.setIfInBounds_toArray, List.set_cons_zero, List.set_cons_succ]
  refine wpAnyL_take 2 (v := .pointer (some ⟨g, 0, none⟩)) rfl (by kernel_rfl) (fun _ _ _ h => h) (yields_in rfl (fun w' hw' => by obtain ⟨y0, y1, y2, y3⟩ := hw'; go_simp)) HS.out ?_
  simp only [Act.put, List.setIfInBounds_toArray, List.set_cons_zero, List.set_cons_succ]
  refine wpAnyL_take 3 (v := .slice A bs.length c) rfl (by kernel_rfl) (fun _ _ _ h => h) (yields_in rfl (fun w' hw' => by obtain ⟨y0, y1, y2, y3⟩ := hw'; go_simp)) HS.out ?_
  simp only [Act.put, List.setIfInBounds_toArray, List.set_cons_zero, List.set_cons_succ]
  refine wpAnyL_take 5 (v := .pointer (some ⟨g, 0, none⟩)) rfl (by kernel_rfl) (fun _ _ _ h => h) (yields_in rfl (fun w' hw' => by obtain ⟨y0, y1, y2, y3⟩ := hw'; go_simp)) HS.out ?_
  simp only [Act.put, List.setIfInBounds_toArray, List.set_cons_zero, List.set_cons_succ]
  refine wpAnyL_take 6 (v := .pointer (some ⟨g, 0, none⟩)) rfl (by kernel_rfl) (fun _ _ _ h => h) (yields_in rfl (fun w' hw' => by obtain ⟨y0, y1, y2, y3⟩ := hw'; go_simp)) HS.out ?_
  simp only [Act.put, List.setIfInBounds_toArray, List.set_cons_zero, List.set_cons_succ]
  refine wpAnyL_take 7 (v := .pointer (some ⟨g, 1, none⟩)) rfl (by kernel_rfl) (fun _ _ _ h => h) (yields_in rfl (fun w' hw' => by obtain ⟨y0, y1, y2, y3⟩ := hw'; go_simp)) HS.out ?_
  simp only [Act.put, List.setIfInBounds_toArray, List.set_cons_zero, List.set_cons_succ]
  refine wpAnyL_take 8 (v := .pointer u) rfl (by kernel_rfl) (fun _ _ _ h => h) (yields_in rfl (fun w' hw' => by obtain ⟨y0, y1, y2, y3⟩ := hw'; go_simp)) HS.out ?_
  simp only [Act.put, List.setIfInBounds_toArray, List.set_cons_zero, List.set_cons_succ]
  refine wpAnyL_take 9 (v := .pointer (some ⟨g, 0, none⟩)) rfl (by kernel_rfl) (fun _ _ _ h => h) (yields_in rfl (fun w' hw' => by obtain ⟨y0, y1, y2, y3⟩ := hw'; go_simp)) HS.out ?_
  simp only [Act.put, List.setIfInBounds_toArray, List.set_cons_zero, List.set_cons_succ]
  refine wpAnyL_take 10 (v := .pointer (some ⟨g, 0, none⟩)) rfl (by kernel_rfl) (fun _ _ _ h => h) (yields_in rfl (fun w' hw' => by obtain ⟨y0, y1, y2, y3⟩ := hw'; go_simp)) HS.out ?_
  simp only [Act.put, List.setIfInBounds_toArray, List.set_cons_zero, List.set_cons_succ]
  refine wpAnyL_take 11 (v := .pointer (some ⟨g, 2, none⟩)) rfl (by kernel_rfl) (fun _ _ _ h => h) (yields_in rfl (fun w' hw' => by obtain ⟨y0, y1, y2, y3⟩ := hw'; go_simp)) HS.out ?_
  simp only [Act.put, List.setIfInBounds_toArray, List.set_cons_zero, List.set_cons_succ]
  refine wpAnyL_take 12 (v := .int .i64 tot) rfl (by kernel_rfl) (fun _ _ _ h => h) (yields_in rfl (fun w' hw' => by obtain ⟨y0, y1, y2, y3⟩ := hw'; go_simp)) HS.out ?_
  simp only [Act.put, List.setIfInBounds_toArray, List.set_cons_zero, List.set_cons_succ]
  refine wpAnyL_take 13 (v := .pointer (some ⟨g, 0, none⟩)) rfl (by kernel_rfl) (fun _ _ _ h => h) (yields_in rfl (fun w' hw' => by obtain ⟨y0, y1, y2, y3⟩ := hw'; go_simp)) HS.out ?_
  simp only [Act.put, List.setIfInBounds_toArray, List.set_cons_zero, List.set_cons_succ]
  refine wpAnyL_take 14 (v := .pointer (some ⟨g, 0, none⟩)) rfl (by kernel_rfl) (fun _ _ _ h => h) (yields_in rfl (fun w' hw' => by obtain ⟨y0, y1, y2, y3⟩ := hw'; go_simp)) HS.out ?_
  simp only [Act.put, List.setIfInBounds_toArray, List.set_cons_zero, List.set_cons_succ]
  refine wpAnyL_take 15 (v := .pointer (some ⟨g, 3, none⟩)) rfl (by kernel_rfl) (fun _ _ _ h => h) (yields_in rfl (fun w' hw' => by obtain ⟨y0, y1, y2, y3⟩ := hw'; go_simp)) HS.out ?_
  simp only [Act.put, List.setIfInBounds_toArray, List.set_cons_zero, List.set_cons_succ]
  refine wpAnyL_take 16 (v := .bool same) rfl (by kernel_rfl) (fun _ _ _ h => h) (yields_in rfl (fun w' hw' => by obtain ⟨y0, y1, y2, y3⟩ := hw'; go_simp)) HS.out ?_
  simp only [Act.put, List.setIfInBounds_toArray, List.set_cons_zero, List.set_cons_succ]
  refine wpAnyL_one 4 rfl (by kernel_rfl) rfl ?_
  go_simp
  refine KC.out.mono ?_
  rintro e w1 ⟨A1, c1, bs1, hl1, rfl, ho1, hd1, hv1, hb1⟩
  have hb1' : Below w.heap.size w w1 := (Below.refl _ _).drew.trans hb1
  have HB1 := Lib.hid hb1'; have HO1 := Lib.hid ho1; have HV1 := Lib.hid hv1; have HD1 := Lib.hid hd1; have HL1 := Lib.hid hl1
  clear hb1 hb1' ho1 hv1 hd1 hl1 KC
  refine ⟨⟨(HB1.out.cell (p := ⟨g, 0, none⟩) hg).trans h0, (HB1.out.cell (p := ⟨g, 1, none⟩) hg).trans h1, (HB1.out.cell (p := ⟨g, 2, none⟩) hg).trans h2, (HB1.out.cell (p := ⟨g, 3, none⟩) hg).trans h3⟩, ?_⟩
  refine wpAnyL_one 17 rfl (by kernel_rfl) rfl ?_
  go_simp
  refine ⟨⟨(HB1.out.cell (p := ⟨g, 0, none⟩) hg).trans h0, (HB1.out.cell (p := ⟨g, 1, none⟩) hg).trans h1, (HB1.out.cell (p := ⟨g, 2, none⟩) hg).trans h2, (HB1.out.cell (p := ⟨g, 3, none⟩) hg).trans h3⟩, ?_⟩
  refine wpAnyL_one 18 rfl (by kernel_rfl) rfl ?_
  go_simp
  have hb2 := HB1.out.alloc HB1.out.size (.cells #[.slice A1 bs.length c1, .pointer u, .int .i64 tot, .bool same] 128)
  refine ⟨⟨(hb2.cell (p := ⟨g, 0, none⟩) hg).trans h0, (hb2.cell (p := ⟨g, 1, none⟩) hg).trans h1, (hb2.cell (p := ⟨g, 2, none⟩) hg).trans h2, (hb2.cell (p := ⟨g, 3, none⟩) hg).trans h3⟩, ?_⟩
  have HB2 := Lib.hid hb2; clear hb2
  refine wpAnyL_one 19 rfl (by kernel_rfl) rfl ?_
  go_simp
  refine wpAnyL_done (by kernel_rfl) ?_ _
  go_wp2
  go_ret
  refine ⟨w1.heap.size, A1, c1, bs1, rfl, HL1.out, ⟨?_, ?_, ?_, HD1.out, ?_, HB1.out.size⟩, HB2.out⟩
  · rw [HL1.out]; exact Blk.new _ _ _
  · rw [HL1.out]; exact HO1.out.alloc _
  · rw [HL1.out]; exact H.out.len
  · intro j b t hb ht
    obtain ⟨g1, g2⟩ := HV1.out j b t hb ht
    have hj : j < bs.length := by have := (List.getElem?_eq_some_iff.1 ht).1; have := H.out.len; omega
    have hok := (H.out.vals j _ t (List.getElem?_eq_getElem hj) ht).2.2
    exact ⟨g1, g2.alloc _, hok.keep (KeepB.of_below HB2.out)⟩

set_option maxHeartbeats 1600000 in
theorem copyIncr_any (lo g : Nat) (A : Option Addr) (c : Nat) (bs : List Nat) (ts : List Tv) (u : Option Addr) (tot : Int) (same : Bool) (times : Nat) (w : World) (h : VSet w lo g A c bs ts (.pointer u) tot same) (hn : bs.length ≤ 1000) (hn0 : 0 < bs.length)
    (ht : tot = 0 ∨ tot = totL (ts.map Tv.x)) (hd : distinct (ts.map Tv.x)) (hp : ∀ t ∈ ts, -1152921504606846976 < t.x.pri ∧ t.x.pri < 1152921504606846976) (hw : ∀ t ∈ ts, 1 ≤ t.x.pow ∧ t.x.pow ≤ 1125899906842624)
    (htm : 0 < times) (htm2 : times ≤ 100000) :
    Calls Try.prog 52 #[ptrTo g, .int .i32 times] w fun e w' => ∃ (g' : Nat) (A' : Option Addr) (c' : Nat) (bs' : List Nat) (ts' : List Tv) (prop : Value), e = .returned (ptrTo g') ∧ bs'.length = bs.length ∧ ts'.map Tv.x = turnsL (totL (ts.map Tv.x)) times (startL (ts.map Tv.x)) ∧
      VSet w' w.heap.size g' A' c' bs' ts' prop (totL (ts.map Tv.x)) same ∧ Below w.heap.size w w' := by
  have KC := Lib.hid (setCopy_any lo g A c bs ts u tot same w h (by omega) hn0)
  have HD := Lib.hid hd; have HP := Lib.hid hp; have HW := Lib.hid hw; have HT := Lib.hid ht
  clear h hd hp hw ht
  unfold ptrTo at *
  go_enter Try.func52, Try.ntmps52
  go_wp2_with fail
  refine KC.out.mono ?_
  rintro e w1 ⟨g1, A1, c1, bs1, rfl, hl1, hv1, hb1⟩
  have HL1 := Lib.hid hl1; have HB1 := Lib.hid hb1; have HV1 := Lib.hid hv1
  have KI := Lib.hid (incr_any w.heap.size g1 A1 c1 bs1 ts (.pointer u) tot same times w1 hv1 (by omega) (by omega) HT.out HD.out HP.out HW.out htm htm2)
  clear hl1 hb1 hv1
  unfold ptrTo at KI
  go_wp2_with fail
  refine KI.out.mono ?_
  rintro e w2 ⟨rfl, ts2, hm2, hv2, ho2⟩
  have HM2 := Lib.hid hm2; have HV2 := Lib.hid hv2; have HB2 := Lib.hid (HV1.out.below ho2)
  clear hm2 hv2 ho2
  go_wp2
  go_ret
  exact ⟨g1, A1, c1, bs1, ts2, _, rfl, HL1.out, HM2.out, HV2.out, HB1.out.trans HB2.out⟩

set_option maxRecDepth 100000 in
set_option maxHeartbeats 1600000 in
theorem copied_any (l : List Sd) (A : Option Addr) (n c times : Nat) (w : World) (hr : Rd w w.heap.size 4 A n (cellsOf l)) (hl : turnable l) (htm : 0 < times) (htm2 : times ≤ 100000) :
    Calls Try.prog 22 #[.slice A n c, .int .i64 times] w fun e w' => ∃ A1 c1 A2 c2, e = .returned (.tuple #[.slice A1 n c1, .slice A2 n c2]) ∧ Rd w' w'.heap.size 4 A1 n (cellsOf (turnsL (totL l) times (startL l))) ∧ Rd w' w'.heap.size 4 A2 n (cellsOf l) ∧ Below w.heap.size w w' := by
  have hln := hr.len
  have hn : n ≤ 500 := by have := hl.len; omega
  have hn0 : 0 < n := by have := List.length_pos_iff.2 hl.ne; omega
  have HC := Lib.hid (seats_any l A n c w hr (by omega))
  have HL := Lib.hid hln; have HTN := Lib.hid hl; clear hr hl hln
  go_enter Try.func22, Try.ntmps22
  go_wp2_with fail
  refine HC.out.mono ?_
  rintro e w1 ⟨A1, c1, ts, rfl, hr1, hm, hok, hb1⟩
  have HM := Lib.hid hm; have HB1 := Lib.hid hb1
  have hC2 := setOf_any ts A1 n c1 w1 hr1 hok (by omega)
  have HC2 := Lib.hid hC2
  clear hr1 hm hok hb1 hC2
  go_wp2_with fail
  refine HC2.out.mono ?_
  rintro e w2 ⟨A2, c2, bs, rfl, hv2, hb2⟩
  have HV2 := Lib.hid hv2; have HB2 := Lib.hid hb2; clear hb2
  have hbl : bs.length = n := by have h1 := HV2.out.len; have h2 := congrArg List.length HM.out; have h3 := HL.out; simp at h2; omega
  have hmem : ∀ t ∈ ts, t.x ∈ l := fun t ht => by rw [← HM.out]; exact List.mem_map_of_mem ht
  have hpv : ∃ u, pval bs (propOf (ts.map Tv.x)) = .pointer u := by cases propOf (ts.map Tv.x) <;> exact ⟨_, rfl⟩
  obtain ⟨u, hu⟩ := hpv
  rw [hu] at hv2
  have hC3 := copyIncr_any w1.heap.size w1.heap.size A2 c2 bs ts u _ _ times w2 hv2 (by omega) (by omega) (.inl rfl) (by rw [HM.out]; exact HTN.out.dist) (fun t ht => HTN.out.pri _ (hmem t ht)) (fun t ht => HTN.out.pow _ (hmem t ht)) htm htm2
  have HC3 := Lib.hid hC3; have HBL := Lib.hid hbl; have HVU := Lib.hid hv2; clear hC3 hbl hmem hv2 hu HV2
  go_wp2_with fail
  refine HC3.out.mono ?_
  rintro e w3 ⟨g', A3, c3, bs3, ts3, prop3, rfl, hl3, hm3, hv3, hb3⟩
  have hC4 := ours_any _ _ _ _ _ _ _ _ _ w3 hv3 (by have := HBL.out; omega)
  have hvo := HVU.out.keep (KeepV.of_below _ hb3 (Nat.le_refl _))
  rw [hm3, HM.out, hl3, HBL.out] at hC4
  have HC4 := Lib.hid hC4; have HB3 := Lib.hid hb3; have HVO := Lib.hid hvo; clear hC4 hb3 hvo hm3 hv3 hl3
  go_wp2_with fail
  refine HC4.out.mono ?_
  rintro e w4 ⟨A4, c4, rfl, hr4, hb4⟩
  have hC5 := ours_any _ _ _ _ _ _ _ _ _ w4 (HVO.out.keep (KeepV.of_below _ hb4 (Nat.le_refl _))) (by have := HBL.out; omega)
  rw [HM.out, HBL.out] at hC5
  have HC5 := Lib.hid hC5; have HR4 := Lib.hid hr4; have HB4 := Lib.hid hb4; clear hC5 hr4 hb4
  go_wp2_with fail
  refine HC5.out.mono ?_
  rintro e w5 ⟨A5, c5, rfl, hr5, hb5⟩
  have HR5 := Lib.hid hr5; have HB5 := Lib.hid hb5; clear hr5 hb5
  have z1 := HB1.out.size; have z2 := HB2.out.size; have z3 := HB3.out.size; have z4 := HB4.out.size
  go_wp2
  go_ret2
  exact ⟨A4, c4, A5, c5, rfl, (HR4.out.below HB5.out).more HB5.out.size, HR5.out, (((HB1.out.trans (HB2.out.mono z1)).trans (HB3.out.mono (by omega))).trans (HB4.out.mono (by omega))).trans (HB5.out.mono (by omega))⟩
end Go.Proofs.Ytikikddkhikfkaa
