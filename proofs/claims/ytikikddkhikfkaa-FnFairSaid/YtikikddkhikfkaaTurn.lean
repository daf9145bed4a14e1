/-
  Validator.Copy, GetProposer, impl.first, impl.Turned: walks. By the session.
-/
import Derived.Test.YtikikddkhikfkaaIncr
set_option linter.unusedSimpArgs false
namespace Go.Proofs.Ytikikddkhikfkaa
open Go.RowKit

theorem vcopy_any (b : Nat) (t : Tv) (w : World) (h : Blk w b 136 t.val) :
    Calls Try.prog 87 #[ptrTo b] w fun e w' => e = .returned (ptrTo w.heap.size) ∧ w' = w.alloc (.cells t.val 136) := by
  unfold ptrTo
  obtain ⟨c0, c1, c2, c3⟩ := t.val_cells h
  clear h
  go_enter Try.func87, Try.ntmps87
  go_wp2
  go_ret
  exact ⟨rfl, rfl⟩

theorem getProp_any (lo g : Nat) (A : Option Addr) (c : Nat) (bs : List Nat) (ts : List Tv) (b : Nat) (t : Tv) (tot : Int) (same : Bool) (w : World) (h : VSet w lo g A c bs ts (ptrTo b) tot same) (hn0 : 0 < bs.length) (hb : Blk w b 136 t.val) :
    Calls Try.prog 70 #[ptrTo g] w fun e w' => e = .returned (ptrTo w.heap.size) ∧ w' = w.alloc (.cells t.val 136) := by
  have KC := Lib.hid (vcopy_any b t w hb)
  have h0 : w.cell? ⟨g, 0, none⟩ = some (.slice A bs.length c) := h.head.cell 0
  have h1 : w.cell? ⟨g, 1, none⟩ = some (ptrTo b) := h.head.cell 1
  have hz : ((bs.length : Int) == 0) = false := by rw [beq_eq_false_iff_ne]; omega
  unfold ptrTo at *
  clear h hb
  go_enter Try.func70, Try.ntmps70
  go_wp2_with (go_at_call 87; refine KC.out.mono ?_; rintro e w1 ⟨rfl, rfl⟩)
  go_ret
  exact ⟨rfl, rfl⟩

theorem first_any (lo g : Nat) (A : Option Addr) (c : Nat) (bs : List Nat) (ts : List Tv) (b : Nat) (t : Tv) (tot : Int) (same : Bool) (w : World) (h : VSet w lo g A c bs ts (ptrTo b) tot same) (hn0 : 0 < bs.length) (hb : Blk w b 136 t.val) (hok : t.ok w) :
    Calls Try.prog 48 #[ptrTo g] w fun e w' => e = .returned (.string t.x.adr) ∧ Below w.heap.size w w' := by
  have KC := Lib.hid (getProp_any lo g A c bs ts b t tot same w h hn0 hb)
  have hw1 : Blk (w.alloc (.cells t.val 136)) w.heap.size 136 t.val := Blk.new _ _ _
  obtain ⟨c0, _⟩ := t.val_cells hw1
  have hto := hok.keep (KeepB.alloc w (.cells t.val 136))
  have kc := hto.1.back (P := Try.prog) 104 9 t.c Try.underlying104 Try.underlying5 Try.underlying9
  have hb1 := Lib.hid ((Below.refl w.heap.size w).alloc (Nat.le_refl _) (.cells t.val 136))
  unfold ptrTo at *
  clear h hb hok hto hw1
  go_enter Try.func48, Try.ntmps48
  go_wp2_with (go_at_call 70; refine KC.out.mono ?_; rintro e w1 ⟨rfl, rfl⟩)
  go_ret
  exact ⟨rfl, hb1.out⟩

/-- who proposes in the next turn -/
def nextP (l : List Sd) : ByteArray :=
  match propOf (l.map addP) with
  | none => .empty
  | some q => q.1.adr
theorem nextP_at {l l' : List Sd} (h : l'.map core = l.map core) (hne : l ≠ []) : ∃ q, propOf (l'.map addP) = some q ∧ nextP l' = q.1.adr ∧ ∃ x, l[q.2]? = some x ∧ x.adr = q.1.adr := by
  have hne' : l'.map addP ≠ [] := fun e => by
    have h1 := congrArg List.length e
    have h2 := length_of_core h
    simp at h1
    rw [h1] at h2
    exact hne (List.length_eq_zero_iff.1 h2.symm)
  obtain ⟨q, h1, h2⟩ := propOf_at _ hne'
  refine ⟨q, h1, by unfold nextP; rw [h1], ?_⟩
  have h3 : (l.map core)[q.2]? = some (core q.1) := by
    rw [← h, ← map_core core_addP l', List.getElem?_map, h2]; rfl
  rw [List.getElem?_map] at h3
  cases hx : l[q.2]? with
  | none => rw [hx] at h3; simp at h3
  | some x =>
    rw [hx] at h3
    simp only [Option.map_some, Option.some.injEq] at h3
    exact ⟨x, rfl, (congrArg Sd.adr h3 : (core x).adr = (core q.1).adr)⟩

/-- what the laws ask of a list of seats that takes turns -/
structure turnable (l : List Sd) : Prop where
  ne : l ≠ []
  len : l.length ≤ 500
  dist : distinct l
  pri : ∀ x ∈ l, -1152921504606846976 < x.pri ∧ x.pri < 1152921504606846976
  pow : ∀ x ∈ l, 1 ≤ x.pow ∧ x.pow ≤ 1125899906842624

set_option maxRecDepth 100000 in
set_option maxHeartbeats 1600000 in
theorem iturned_any (l : List Sd) (A : Option Addr) (n c times : Nat) (w : World) (hr : Rd w w.heap.size 4 A n (cellsOf l)) (hl : turnable l) (htm : 0 < times) (htm2 : times ≤ 100000) :
    Calls Try.prog 20 #[.slice A n c, .int .i64 times] w fun e w' => ∃ A' c', e = .returned (.tuple #[.slice A' n c', .string (nextP (turnsL (totL l) (times - 1) (startL l)))]) ∧ Rd w' w'.heap.size 4 A' n (cellsOf (turnsL (totL l) times (startL l))) ∧ Below w.heap.size w w' := by
  have hln := hr.len
  have hn : n ≤ 1000 := by have := hl.len; omega
  have hn0 : 0 < n := by have := List.length_pos_iff.2 hl.ne; omega
  have HC := Lib.hid (seats_any l A n c w hr (by omega))
  have HL := Lib.hid hln; have HTN := Lib.hid hl; clear hr hl hln
  go_enter Try.func20, Try.ntmps20
  go_wp2_with fail
  refine HC.out.mono ?_
  rintro e w1 ⟨A1, c1, ts, rfl, hr1, hm, hok, hb1⟩
  have HM := Lib.hid hm; have HB1 := Lib.hid hb1
  have hC2 := setOf_any ts A1 n c1 w1 hr1 hok (by omega)
  have HC2 := Lib.hid hC2
  clear hr1 hm hok hb1 hC2
  go_wp2_with fail
  refine HC2.out.mono ?_
  rintro e w2 ⟨A2, c2, bs, rfl, hv2, hb2⟩
  have HV2 := Lib.hid hv2; have HB2 := Lib.hid hb2; clear hv2 hb2
  have hbl : bs.length = n := by have h1 := HV2.out.len; have h2 := congrArg List.length HM.out; have h3 := HL.out; simp at h2; omega
  have hmem : ∀ t ∈ ts, t.x ∈ l := fun t ht => by rw [← HM.out]; exact List.mem_map_of_mem ht
  have hC3 := incr_any w1.heap.size w1.heap.size A2 c2 bs ts _ _ _ times w2 HV2.out (by omega) (by omega) (.inl rfl) (by rw [HM.out]; exact HTN.out.dist) (fun t ht => HTN.out.pri _ (hmem t ht)) (fun t ht => HTN.out.pow _ (hmem t ht)) htm htm2
  have HC3 := Lib.hid hC3; have HBL := Lib.hid hbl; clear hC3 hbl hmem
  go_wp2_with fail
  refine HC3.out.mono ?_
  rintro e w3 ⟨rfl, ts', hm', hv3, ho3⟩
  have hb3 := HV2.out.below ho3
  have HB3 := Lib.hid hb3
  rw [HM.out] at hm' hv3
  have hcore : (turnsL (totL l) (times - 1) (startL l)).map core = l.map core := (turnsL_core _ _ _).trans (startL_core _)
  have hcore' : (turnsL (totL l) times (startL l)).map core = l.map core := (turnsL_core _ _ _).trans (startL_core _)
  obtain ⟨q, hq, hqa, x, hx, hxa⟩ := nextP_at hcore HTN.out.ne
  have hq2 : q.2 < bs.length := by have := (List.getElem?_eq_some_iff.1 hx).1; have := HL.out; have := HBL.out; omega
  obtain ⟨b, t, hb, ht⟩ := hv3.at_ hq2
  have hta : t.x.adr = nextP (turnsL (totL l) (times - 1) (startL l)) := by
    have h1 : (turnsL (totL l) times (startL l))[q.2]? = some t.x := by rw [← hm', List.getElem?_map, ht]; rfl
    have h2 : ((turnsL (totL l) times (startL l)).map core)[q.2]? = some (core t.x) := by rw [List.getElem?_map, h1]; rfl
    rw [hcore', List.getElem?_map, hx] at h2
    simp only [Option.map_some, Option.some.injEq] at h2
    rw [hqa, ← hxa]
    exact (congrArg Sd.adr h2 : (core x).adr = (core t.x).adr).symm
  obtain ⟨_, hbv, hokt⟩ := hv3.vals q.2 b t hb ht
  have hpv : pval bs (propOf ((turnsL (totL l) (times - 1) (startL l)).map addP)) = ptrTo b := by
    rw [hq]; show ptrTo (bs.getD q.2 0) = _; rw [List.getD_eq_getElem?_getD, hb]; rfl
  rw [hpv] at hv3
  have hC4 := ours_any _ _ _ _ _ _ _ _ _ w3 hv3 (by have := HBL.out; omega)
  rw [hm', HBL.out] at hC4
  have HM' := Lib.hid hm'; have HV3 := Lib.hid hv3; have HBV := Lib.hid hbv; have HOKT := Lib.hid hokt; have HTA := Lib.hid hta
  have HC4 := Lib.hid hC4; clear hv3 ho3 hb3 hm' hC4 hpv hbv hokt hta hb ht hx hxa hq hqa hcore hcore'
  go_wp2_with fail
  refine HC4.out.mono ?_
  rintro e w4 ⟨A4, c4, rfl, hr4, hb4⟩
  have hC5 := first_any w1.heap.size w1.heap.size A2 c2 bs ts' b t _ _ w4 (HV3.out.keep (KeepV.of_below _ hb4 (Nat.le_refl _))) (by have := HBL.out; omega) (HBV.out.belowS hb4) (HOKT.out.keep (KeepB.of_below hb4))
  rw [HTA.out] at hC5
  have HC5 := Lib.hid hC5
  have HR4 := Lib.hid hr4; have HB4 := Lib.hid hb4; clear hr4 hb4 hC5
  have z1 := HB1.out.size; have z2 := HB2.out.size; have z3 := HB3.out.size; have z4 := HB4.out.size
  go_wp2_with fail
  refine HC5.out.mono ?_
  rintro e w5 ⟨rfl, hb5⟩
  have HB5 := Lib.hid hb5; clear hb5
  go_wp2
  go_ret2
  exact ⟨A4, c4, rfl, (HR4.out.below HB5.out).more HB5.out.size, ((((HB1.out.trans (HB2.out.mono z1)).trans (HB3.out.mono z1)).trans (HB4.out.mono (by omega)))).trans (HB5.out.mono (by omega))⟩
end Go.Proofs.Ytikikddkhikfkaa
