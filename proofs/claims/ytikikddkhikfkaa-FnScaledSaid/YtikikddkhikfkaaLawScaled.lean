/-
  For every slice of seats and every number: FnScaled answers true, and both read behind the call as they did before: the set's scaled priorities are those of the specification.
-/
import Derived.Test.YtikikddkhikfkaaScaled
import Derived.Test.YtikikddkhikfkaaPure
import Derived.Test.YtikikddkhikfkaaSame
set_option linter.unusedSimpArgs false
namespace Go.Proofs.Ytikikddkhikfkaa
open Go.ChangeShapes Go.WideShapes Go.ChangeAt Go.RowKit

set_option maxHeartbeats 1600000 in
theorem fnScaled_any (l : List Sd) (A : Option Addr) (n c : Nat) (apart : Int) (w : World) (hr : Rd w w.heap.size 4 A n (cellsOf l)) (hnc : n ≤ c) (hcm : c ≤ maxLen) (hl : ∀ s ∈ l, s.fits) :
    Calls Try.prog 4 #[.slice A n c, .int .i64 apart] w fun e w' => e = .returned (.bool true) ∧ Below w.heap.size w w' := by
  have hlen := hr.len
  simp only [maxLen] at hcm
  have hF := fits1_any l A n c w hr (by omega) (fun x hx => by have := hl x hx; simp only [Sd.fits, maxLen] at this; omega)
  have HF := Lib.hid hF; have HR := Lib.hid hr; have HL := Lib.hid hl; have HLEN := Lib.hid hlen
  clear hF hr hl hlen
  cases hfb : fitsB l with
  | false =>
    rw [hfb] at HF
    go_enter Try.func4, Try.ntmps4
    go_wp2_with fail
    refine HF.out.mono ?_
    rintro e w1 ⟨rfl, hb1⟩
    have HB1 := Lib.hid hb1; clear hb1
    go_wp2
    go_ret
    exact ⟨rfl, HB1.out⟩
  | true =>
    have hn31 := fitsB_length hfb
    rw [hfb] at HF
    go_enter Try.func4, Try.ntmps4
    go_wp2_with fail
    refine HF.out.mono ?_
    rintro e w1 ⟨rfl, hb1⟩
    have HB1 := Lib.hid hb1; clear hb1
    have hS := set_any l A n c w1 ((HR.out.below HB1.out).more HB1.out.size) (by have := HLEN.out; omega) hnc (fun x hx => by have := HL.out x hx; simp only [Sd.fits] at this; omega)
    have HS := Lib.hid hS; clear hS
    go_wp2_with fail
    refine HS.out.mono ?_
    rintro e w2 ⟨A2, c2, n2, rfl, hr2, hb2⟩
    have hn2 : n2 = (theSet l).length := hr2.len
    have hle := theSet_length l
    have hgood := theSet_good l HL.out
    have e2 : rankedL (setL l) = theSet l := rfl
    rw [e2] at hr2
    have HR2 := Lib.hid hr2; have HB2 := Lib.hid hb2; have HN2 := Lib.hid hn2; have HG := Lib.hid hgood
    clear hr2 hb2 hn2 hgood e2
    generalize theSet l = x at *
    have hn60 : n2 ≤ 60 := by have := HN2.out; omega
    have z1 := HB1.out.size; have z2 := HB2.out.size
    by_cases h0 : n2 = 0
    · subst h0
      go_wp2
      go_ret
      exact ⟨rfl, HB1.out.trans (HB2.out.mono z1)⟩
    · have hz : ((n2 : Int) == 0) = false := by simp; omega
      have hpri : ∀ s ∈ x, -1152921504606846976 < s.pri ∧ s.pri < 1152921504606846976 := fun s hs => (HG.out s hs).pri
      have hap : apart.tmod 1152921504606846976 ≤ 1152921504606846976 := by
        have := Int.tmod_lt_of_pos apart (b := 1152921504606846976) (by omega)
        omega
      have hC := back_any x A2 n2 c2 w2 HR2.out (by omega)
      have HC := Lib.hid hC; have HPRI := Lib.hid hpri; have HAP := Lib.hid hap; clear hC hpri hap
      go_wp2_with fail
      refine HC.out.mono ?_
      rintro e w3 ⟨A3, c3, rfl, hr3, hb3⟩
      have HR3 := Lib.hid hr3; have HB3 := Lib.hid hb3; clear hr3 hb3
      have z3 := HB3.out.size
      have hC3 := iscaled_any x A3 n2 c3 (apart.tmod 1152921504606846976) w3 HR3.out (by omega) (by omega) HPRI.out HAP.out
      have HC3 := Lib.hid hC3; clear hC3
      go_wp2_with fail
      refine HC3.out.mono ?_
      rintro e w4 ⟨A4, c4, rfl, hr4, hb4⟩
      have HR4 := Lib.hid hr4; have HB4 := Lib.hid hb4; clear hr4 hb4
      have z4 := HB4.out.size
      have hb34 : Below w2.heap.size w2 w4 := HB3.out.trans (HB4.out.mono z3)
      have hC4 := sscaled_any x A2 n2 c2 (apart.tmod 1152921504606846976) w4 ((HR2.out.below hb34).more hb34.size) (by omega) (by omega) HPRI.out HAP.out
      have HC4 := Lib.hid hC4; have HB34 := Lib.hid hb34; clear hC4 hb34
      go_wp2_with fail
      refine HC4.out.mono ?_
      rintro e w5 ⟨A5, c5, rfl, hr5, hb5⟩
      have HR5 := Lib.hid hr5; have HB5 := Lib.hid hb5; clear hr5 hb5
      have hC5 := same_any _ A4 A5 n2 c4 c5 w5 ((HR4.out.below HB5.out).more HB5.out.size) HR5.out (by omega)
      have HC5 := Lib.hid hC5; clear hC5
      go_wp2_with fail
      refine HC5.out.mono ?_
      rintro e w6 ⟨rfl, hb6⟩
      have HB6 := Lib.hid hb6; clear hb6
      have z5 := HB5.out.size
      go_wp2
      go_ret
      exact ⟨rfl, (((HB1.out.trans (HB2.out.mono z1)).trans (HB34.out.mono (by omega))).trans (HB5.out.mono (by omega))).trans (HB6.out.mono (by omega))⟩

set_option maxRecDepth 100000 in
theorem fnScaled_lifted (os : Os) (started : os.Started) (H : Type) (enc : TypeId × Value → H) :
    ReturnsInHanded {} Try.checked os 4 .any (Rows.fnScaledSpec.pre6 enc Try.prog Try.f4 Rows.fnScaledRow.domain false) (Rows.fnScaledSpec.post enc Try.prog Try.f4 false true false false) := by
  refine returnsInHanded_of_change (C := Try.checked) Try.own started (by kernel_rfl) Try.func4
    (ChangeSpec.witness6 (enc := enc) (C := Try.checked) false ⟨#[], #[.slice none 0 0, .int .i64 0], []⟩ 8 (by kernel_rfl) (by kernel_rfl) (by kernel_rfl) (by kernel_rfl)) ?_
  intro W base args ds gs before hval0 hW hcnd _
  have hval : ∀ (j : Nat) t v, Try.f4.params[j]? = some t → args[j]? = some v → Value.okWide Try.prog W .any base t v := hval0
  have hW' := hW
  obtain ⟨p, q, hA0, hV, rfl, hfz, hnd⟩ := hW
  have hA : DataW.TrodAll enc Try.prog W 0 (fun _ => true) true Try.f4.params.toList args.toList ds p := hA0
  have hA1 := hA
  rw [Try.params4] at hA hval
  obtain ⟨v0, v1, d0, d1, p0, p1, rfl, rfl, rfl, h0, h1⟩ := trodAll_two hA
  obtain ⟨rfl, rfl⟩ := trodVars_none hV
  obtain ⟨A, n, c, l, rfl, hnc, hcm, hr, hl⟩ := open_seats (okWide_slice Try.underlying39 (hval 0 39 v0 rfl rfl)) h0
  obtain ⟨b, rfl, rfl, rfl, wb⟩ := open_int Try.underlying3 (hval 1 3 v1 rfl rfl) h1
  clear hA0 hval0 hA
  simp only [List.append_nil] at hW' hA1
  refine (fnScaled_any l A n c b W hr hnc hcm hl).mono fun e W' ⟨he, hw⟩ => ?_
  subst he
  exact ⟨_, rfl, post_true (tb := 4) Try.laidOut rfl Try.underlying4 rfl rfl (by kernel_rfl) hW' hA1 hw⟩

theorem fnScaled_holds : Rows.FnScaledSaid :=
  OpenClaim.holds_of_wide 4 Try.f4 rfl rfl rfl rfl rfl rfl rfl ⟨rfl, rfl, rfl, rfl, rfl⟩ rfl rfl rfl rfl rfl (by kernel_rfl) Try.func4 (by kernel_rfl)
    (of_decide_eq_true (by kernel_rfl)) (by unfold Func.isWrapper; first | (rw [if_pos (by decide +kernel)]; kernel_rfl) | (rw [if_neg (by decide +kernel)]; exact ⟨rfl, rfl⟩))
    (fun os started H enc _ => fnScaled_lifted os started H enc)
#print axioms fnScaled_holds
end Go.Proofs.Ytikikddkhikfkaa
