/-
  For every slice of seats and every number of turns: FnTurned answers true, and both read behind the call as they did before: turns leave the priorities of the specification, the proposer is the one of the last turn, and a copy's turns leave the set as it is.
-/
import Derived.Test.YtikikddkhikfkaaCopied
import Derived.Test.YtikikddkhikfkaaSTurned
import Derived.Test.YtikikddkhikfkaaPure
import Derived.Test.YtikikddkhikfkaaSame
set_option linter.unusedSimpArgs false
namespace Go.Proofs.Ytikikddkhikfkaa
open Go.ChangeShapes Go.WideShapes Go.ChangeAt Go.RowKit

theorem distinct_of_apart {l : List Sd} (h : l.Pairwise apartS) : distinct l := by
  intro i j x y hx hy hij he
  have hi := List.getElem?_eq_some_iff.1 hx
  have hj := List.getElem?_eq_some_iff.1 hy
  rw [List.pairwise_iff_getElem] at h
  have key : ∀ (a b : Sd), apartS a b → a.adr.toList ≠ b.adr.toList := fun a b hab e => by
    unfold apartS sameB at hab
    rw [e] at hab
    simp at hab
  rcases Nat.lt_or_gt_of_ne hij with hlt | hlt
  · have := h i j hi.1 hj.1 hlt
    rw [hi.2, hj.2] at this
    exact key _ _ this he
  · have := h j i hj.1 hi.1 hlt
    rw [hi.2, hj.2] at this
    exact key _ _ this he.symm
theorem theSet_turnable (l : List Sd) (h : ∀ s ∈ l, s.fits) (hne : theSet l ≠ []) : turnable (theSet l) :=
  ⟨hne, by have := theSet_length l; omega, distinct_of_apart (theSet_apart l), fun x hx => (theSet_good l h x hx).pri, fun x hx => (theSet_good l h x hx).pow⟩

set_option maxHeartbeats 1600000 in
theorem fnTurned_any (l : List Sd) (A : Option Addr) (n c : Nat) (times : Int) (w : World) (hr : Rd w w.heap.size 4 A n (cellsOf l)) (hnc : n ≤ c) (hcm : c ≤ maxLen) (hl : ∀ s ∈ l, s.fits) (htm : in64 times) :
    Calls Try.prog 6 #[.slice A n c, .int .i64 times] w fun e w' => e = .returned (.bool true) ∧ Below w.heap.size w w' := by
  have hlen := hr.len
  simp only [maxLen] at hcm
  have hF := fits1_any l A n c w hr (by omega) (fun x hx => by have := hl x hx; simp only [Sd.fits, maxLen] at this; omega)
  have HF := Lib.hid hF; have HR := Lib.hid hr; have HL := Lib.hid hl; have HLEN := Lib.hid hlen
  clear hF hr hl hlen
  cases hfb : fitsB l with
  | false =>
    rw [hfb] at HF
    go_enter Try.func6, Try.ntmps6
    go_wp2_with fail
    refine HF.out.mono ?_
    rintro e w1 ⟨rfl, hb1⟩
    have HB1 := Lib.hid hb1; clear hb1
    go_wp2
    go_ret
    exact ⟨rfl, HB1.out⟩
  | true =>
    have hn31 := fitsB_length hfb
    rw [hfb] at HF
    obtain ⟨tm, ht1, ht2, ht3⟩ : ∃ tm : Nat, 0 < tm ∧ tm ≤ 100000 ∧ wrap64 (1 + (if times < wrap64 (-wrap64 (times + 1)) then wrap64 (-wrap64 (times + 1)) else times).tmod 300) = (tm : Int) := by
      have e1 : (if times < wrap64 (-wrap64 (times + 1)) then wrap64 (-wrap64 (times + 1)) else times) = mag times := by
        unfold mag wrap64 in64 at *
        by_cases h : 0 ≤ times
        · rw [if_pos h, if_neg (by omega)]
        · rw [if_neg h, if_pos (by omega)]; omega
      rw [e1]
      have h0 : 0 ≤ mag times := by unfold mag; split <;> omega
      rw [Int.tmod_eq_emod_of_nonneg h0]
      refine ⟨(1 + mag times % 300).toNat, by omega, by omega, ?_⟩
      unfold wrap64
      omega
    by_cases hm : times < wrap64 (-wrap64 (times + 1))
    all_goals (first | rw [if_pos hm] at ht3 | rw [if_neg hm] at ht3)
    all_goals
      go_enter Try.func6, Try.ntmps6
      go_wp2_with fail
      refine HF.out.mono ?_
      rintro e w1 ⟨rfl, hb1⟩
      have HB1 := Lib.hid hb1; clear hb1
      have hS := set_any l A n c w1 ((HR.out.below HB1.out).more HB1.out.size) (by have := HLEN.out; omega) hnc (fun x hx => by have := HL.out x hx; simp only [Sd.fits] at this; omega)
      have HS := Lib.hid hS; clear hS
      go_wp2_with fail
      refine HS.out.mono ?_
      rintro e w2 ⟨A2, c2, n2, rfl, hr2, hb2⟩
      have hn2 : n2 = (theSet l).length := hr2.len
      have hle := theSet_length l
      have hturn := theSet_turnable l HL.out
      have e2 : rankedL (setL l) = theSet l := rfl
      rw [e2] at hr2
      have HR2 := Lib.hid hr2; have HB2 := Lib.hid hb2; have HN2 := Lib.hid hn2; have HT := Lib.hid hturn
      clear hr2 hb2 hn2 hturn e2
      generalize theSet l = x at *
      have hn60 : n2 ≤ 60 := by have := HN2.out; omega
      have z1 := HB1.out.size; have z2 := HB2.out.size
      have HTM := Lib.hid htm; clear htm
      by_cases h0 : n2 = 0
      · subst h0
        go_wp2
        go_ret
        exact ⟨rfl, HB1.out.trans (HB2.out.mono z1)⟩
      · have hz : ((n2 : Int) == 0) = false := by simp; omega
        have htn : turnable x := HT.out (by rintro rfl; have := HN2.out; simp at this; omega)
        have HTN := Lib.hid htn; clear htn HT
        have hC := back_any x A2 n2 c2 w2 HR2.out (by omega)
        have HC := Lib.hid hC; clear hC
        go_wp2_with fail
        refine HC.out.mono ?_
        rintro e w3 ⟨A3, c3, rfl, hr3, hb3⟩
        have HR3 := Lib.hid hr3; have HB3 := Lib.hid hb3; clear hr3 hb3
        have z3 := HB3.out.size
        have hC3 := iturned_any x A3 n2 c3 tm w3 HR3.out HTN.out ht1 ht2
        have HC3 := Lib.hid hC3; clear hC3
        go_wp2_with fail
        refine HC3.out.mono ?_
        rintro e w4 ⟨A4, c4, rfl, hr4, hb4⟩
        have HR4 := Lib.hid hr4; have HB4 := Lib.hid (HB3.out.trans (hb4.mono z3)); clear hr4 hb4
        have z4 := HB4.out.size
        have hC4 := sturned_any x A2 n2 c2 tm w4 ((HR2.out.below HB4.out).more z4) HTN.out ht1 ht2
        have HC4 := Lib.hid hC4; clear hC4
        go_wp2_with fail
        refine HC4.out.mono ?_
        rintro e w5 ⟨A5, c5, rfl, hr5, hb5⟩
        have HR5 := Lib.hid hr5; have HB5 := Lib.hid hb5; clear hr5 hb5
        have z5 := HB5.out.size
        have hb25 := HB4.out.trans (HB5.out.mono z4)
        have HB25 := Lib.hid hb25
        have hC5 := back_any x A2 n2 c2 w5 ((HR2.out.below hb25).more hb25.size) (by omega)
        have HC5 := Lib.hid hC5; clear hC5 hb25
        go_wp2_with fail
        refine HC5.out.mono ?_
        rintro e w6 ⟨A6, c6, rfl, hr6, hb6⟩
        have HR6 := Lib.hid hr6; have HB6 := Lib.hid hb6; clear hr6 hb6
        have z6 := HB6.out.size
        have hC6 := copied_any x A6 n2 c6 tm w6 HR6.out HTN.out ht1 ht2
        have HC6 := Lib.hid hC6; clear hC6
        go_wp2_with fail
        refine HC6.out.mono ?_
        rintro e w7 ⟨A7, c7, A8, c8, rfl, hr7, hr8, hb7⟩
        have HR7 := Lib.hid hr7; have HR8 := Lib.hid hr8; have HB7 := Lib.hid (HB6.out.trans (hb7.mono z6)); clear hr7 hr8 hb7
        have z7 := HB7.out.size
        have KS := Lib.hid (fun W (hw : Below w7.heap.size w7 W) => (same_any _ A4 A5 n2 c4 c5 W ((((HR4.out.below HB5.out).more z5).below HB7.out).more z7 |>.below hw |>.more hw.size) (((HR5.out.below HB7.out).more z7).below hw |>.more hw.size) (by omega)))
        have KS2 := Lib.hid (fun W (hw : Below w7.heap.size w7 W) => (same_any _ A7 A5 n2 c7 c5 W ((HR7.out.below hw).more hw.size) (((HR5.out.below HB7.out).more z7).below hw |>.more hw.size) (by omega)))
        have KS3 := Lib.hid (fun W (hw : Below w7.heap.size w7 W) => (same_any _ A8 A2 n2 c8 c2 W ((HR8.out.below hw).more hw.size) ((((HR2.out.below HB25.out).more HB25.out.size).below HB7.out).more z7 |>.below hw |>.more hw.size) (by omega)))
        go_wp2_with fail
        refine (KS.out _ (Below.refl _ _)).mono ?_
        rintro e w8 ⟨rfl, hb8⟩
        have HB8 := Lib.hid hb8; clear hb8
        go_wp2_with fail
        refine (KS2.out _ HB8.out).mono ?_
        rintro e w9 ⟨rfl, hb9⟩
        have HB9 := Lib.hid (HB8.out.trans (hb9.mono HB8.out.size)); clear hb9
        go_wp2_with fail
        refine (KS3.out _ HB9.out).mono ?_
        rintro e w10 ⟨rfl, hb10⟩
        have HB10 := Lib.hid (HB9.out.trans (hb10.mono HB9.out.size)); clear hb10
        have zz := HB25.out.size
        go_wp2
        go_ret
        exact ⟨rfl, ((((HB1.out.trans (HB2.out.mono z1)).trans (HB25.out.mono (by omega))).trans (HB7.out.mono (by omega))).trans (HB10.out.mono (by omega)))⟩

set_option maxRecDepth 100000 in
theorem fnTurned_lifted (os : Os) (started : os.Started) (H : Type) (enc : TypeId × Value → H) :
    ReturnsInHanded {} Try.checked os 6 .any (Rows.fnTurnedSpec.pre6 enc Try.prog Try.f6 Rows.fnTurnedRow.domain false) (Rows.fnTurnedSpec.post enc Try.prog Try.f6 false true false false) := by
  refine returnsInHanded_of_change (C := Try.checked) Try.own started (by kernel_rfl) Try.func6
    (ChangeSpec.witness6 (enc := enc) (C := Try.checked) false ⟨#[], #[.slice none 0 0, .int .i64 0], []⟩ 8 (by kernel_rfl) (by kernel_rfl) (by kernel_rfl) (by kernel_rfl)) ?_
  intro W base args ds gs before hval0 hW hcnd _
  have hval : ∀ (j : Nat) t v, Try.f6.params[j]? = some t → args[j]? = some v → Value.okWide Try.prog W .any base t v := hval0
  have hW' := hW
  obtain ⟨p, q, hA0, hV, rfl, hfz, hnd⟩ := hW
  have hA : DataW.TrodAll enc Try.prog W 0 (fun _ => true) true Try.f6.params.toList args.toList ds p := hA0
  have hA1 := hA
  rw [Try.params6] at hA hval
  obtain ⟨v0, v1, d0, d1, p0, p1, rfl, rfl, rfl, h0, h1⟩ := trodAll_two hA
  obtain ⟨rfl, rfl⟩ := trodVars_none hV
  obtain ⟨A, n, c, l, rfl, hnc, hcm, hr, hl⟩ := open_seats (okWide_slice Try.underlying39 (hval 0 39 v0 rfl rfl)) h0
  obtain ⟨b, rfl, rfl, rfl, wb⟩ := open_int Try.underlying3 (hval 1 3 v1 rfl rfl) h1
  clear hA0 hval0 hA
  simp only [List.append_nil] at hW' hA1
  refine (fnTurned_any l A n c b W hr hnc hcm hl (wf64 wb)).mono fun e W' ⟨he, hw⟩ => ?_
  subst he
  exact ⟨_, rfl, post_true (tb := 4) Try.laidOut rfl Try.underlying4 rfl rfl (by kernel_rfl) hW' hA1 hw⟩

theorem fnTurned_holds : Rows.FnTurnedSaid :=
  OpenClaim.holds_of_wide 6 Try.f6 rfl rfl rfl rfl rfl rfl rfl ⟨rfl, rfl, rfl, rfl, rfl⟩ rfl rfl rfl rfl rfl (by kernel_rfl) Try.func6 (by kernel_rfl)
    (of_decide_eq_true (by kernel_rfl)) (by unfold Func.isWrapper; first | (rw [if_pos (by decide +kernel)]; kernel_rfl) | (rw [if_neg (by decide +kernel)]; exact ⟨rfl, rfl⟩))
    (fun os started H enc _ => fnTurned_lifted os started H enc)
#print axioms fnTurned_holds
end Go.Proofs.Ytikikddkhikfkaa
