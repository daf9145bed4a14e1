/-
  For every commit and every header, while the package's table of round constants reads as its initialiser lays it: FnSums answers true, and all reads behind the call as it did before: a commit's sum is that of all that is said, a header's that of its fourteen parts. Printed by gen_lsums.py. By the session.
-/
import Derived.Test.YtikikddkhikfkaaDoorSu26
import Derived.Test.YtikikddkhikfkaaDoorSu28
import Derived.Test.YtikikddkhikfkaaDoorSu30
import Derived.Test.YtikikddkhikfkaaDoorSu34
import Derived.Deep.Cut
set_option linter.all false
namespace Go.Proofs.YtikikddkhikfkaaDoor
open Go.ChangeShapes Go.WideShapes Go.ChangeAt Go.RowKit

set_option maxRecDepth 100000 in
set_option maxHeartbeats 12800000 in
theorem fnSums_any (hgt rnd : Int) (b : Bk) (A : Option Addr) (n c : Nat) (l : List Sg) (y : Hd) (ver app hh sec nan parts : Int) (w : World) (hx : (⟨hgt, rnd, b, A, n, c, l⟩ : Cm).ok w w.heap.size) (hf : (⟨hgt, rnd, b, A, n, c, l⟩ : Cm).fits) (hy : y.ok w) (hg : y.fitsR ver app hh sec nan parts) (hK : Kw w) :
    Calls Tryd.prog 3 #[.agg #[.int .i64 hgt, .int .i64 rnd, .slice b.S b.sum.length b.sc, .int .i64 b.parts, .slice b.R b.root.length b.rc, .slice A n c], .agg (y.raw ver app hh sec nan parts)] w fun e w' => e = .returned (.bool true) ∧ Below w.heap.size w w' := by
  have hr : Rd w w.heap.size 5 A n (signsOf l) := hx.row
  have hbk : b.ok w w.heap.size := hx.blk
  have hln := hr.slen
  have hcap := hf.cap; have hbf := hf.blk; have hsg := hf.signs
  simp only [maxLen] at hcap
  have hs1 := hbf.sum; have hs2 := hbf.root
  simp only [maxLen] at hs1 hs2
  have HR := Lib.hid hr; have HBK := Lib.hid hbk; have HF := Lib.hid hf; have HLN := Lib.hid hln; have HX := Lib.hid hx; have HY := Lib.hid hy; have HG := Lib.hid hg; have HKW := Lib.hid hK
  have hs0 := SS.start w #[.int .i64 hgt, .int .i64 rnd, .slice b.S b.sum.length b.sc, .int .i64 b.parts, .slice b.R b.root.length b.rc, .slice A n c] (y.raw ver app hh sec nan parts)
  have K1 := Lib.hid (fits3_any hgt rnd b l A n c _ ((HR.out.below hs0.2.2).more hs0.2.2.size) (by omega) (fun x hx => ⟨by have := (hsg x hx).adr; simp only [maxLen] at this; omega, by have := (hsg x hx).sig; simp only [maxLen] at this; omega⟩) (by omega) (by omega))
  have K2 := Lib.hid (fun W => fits7_any y ver app hh sec nan parts W (by have := hg.sum; simp only [maxLen] at this; omega) (by have := hg.root; simp only [maxLen] at this; omega))
  unfold Hd.raw at hs0 K1 K2 ⊢
  have HS0 := Lib.hid hs0
  clear hs0 hr hbk hf hx hln hsg hbf hy hg hK
  cases hf3 : fit3 b l with
  | false =>
    rw [hf3] at K1
    go_enter Tryd.func3, Tryd.ntmps3
    go_wp2_with fail
    refine K1.out.mono ?_
    rintro e w1 ⟨rfl, hb1⟩
    have HS1 := Lib.hid (HS0.out.call hb1); clear hb1
    go_wp2
    go_ret
    exact ⟨rfl, HS1.out.2.2⟩
  | true =>
    rw [hf3] at K1
    have hn31 : b.sum.length ≤ 2147483647 ∧ b.root.length ≤ 2147483647 ∧ n ≤ 2147483647 := by
      have hln := HLN.out
      unfold fit3 fit4 fit5 at hf3
      simp only [Bool.and_eq_true, Bool.not_eq_true', decide_eq_false_iff_not] at hf3
      omega
    have hsz : ∀ s ∈ l, s.adr.size ≤ 2147483647 ∧ s.sig.length ≤ 2147483647 := by
      intro s hs
      unfold fit3 fit5 at hf3
      simp only [Bool.and_eq_true, List.all_eq_true] at hf3
      have := hf3.2.2 s hs
      unfold fit6 at this
      simp only [Bool.and_eq_true, Bool.not_eq_true', decide_eq_false_iff_not] at this
      omega
    have HN31 := Lib.hid hn31; have HSZ := Lib.hid hsz; clear hn31 hf3 hsz
    cases hf7 : fit7 y with
    | false =>
      rw [hf7] at K2
      go_enter Tryd.func3, Tryd.ntmps3
      go_wp2_with fail
      refine K1.out.mono ?_
      rintro e w1 ⟨rfl, hb1⟩
      have hs1 := HS0.out.call hb1
      have HS1 := Lib.hid hs1; clear hb1 hs1
      go_wp2_with (refine wpList_load_row_on (by kernel_rfl) 32 (.tmp 3) rfl (w.heap.size + 1) rfl 32 _ _ HS1.out.2.1 Tryd.underlying32 rfl (by kernel_rfl) ?_)
      refine (K2.out _).mono ?_
      rintro e w2 ⟨rfl, hb2⟩
      have HS2 := Lib.hid (HS1.out.call hb2); clear hb2
      go_wp2
      go_ret
      exact ⟨rfl, HS2.out.2.2⟩
    | true =>
      rw [hf7] at K2
      have HF7 := Lib.hid hf7; clear hf7
      go_enter Tryd.func3, Tryd.ntmps3
      go_wp2_with fail
      refine K1.out.mono ?_
      rintro e w1 ⟨rfl, hb1⟩
      have hs1 := HS0.out.call hb1
      have HS1 := Lib.hid hs1; clear hb1 hs1 K1 HS0
      as_aux_lemma =>
        go_wp2_with (refine wpList_load_row_on (by kernel_rfl) 32 (.tmp 3) rfl (w.heap.size + 1) rfl 32 _ _ HS1.out.2.1 Tryd.underlying32 rfl (by kernel_rfl) ?_)
        refine (K2.out _).mono ?_
        rintro e w2 ⟨rfl, hb2⟩
        have hs2 := HS1.out.call hb2
        have r2 : ∀ i, w2.cell? ⟨w.heap.size, i, none⟩ = (#[.int .i64 hgt, .int .i64 rnd, .slice b.S b.sum.length b.sc, .int .i64 b.parts, .slice b.R b.root.length b.rc, .slice A n c] : Array Value)[i]? := fun i => hs2.1.cell i
        have HS2 := Lib.hid hs2; clear hb2 hs2 K2 HS1
        have KL := Lib.hid (lcommit_any hgt rnd b A n c l w2 ((HR.out.below HS2.out.2.2).more HS2.out.2.2.size) hcap.1 HN31.out.2.2 HF.out.height HF.out.round HF.out.blk.parts HF.out.signs)
        as_aux_lemma =>
          go_wp2_with fail
          refine KL.out.mono ?_
          rintro e w6 ⟨A1, c1, A2, c2, m, rfl, hm60, hr1, hr2, hb6⟩
          have hs6 := HS2.out.call hb6
          have r6 : ∀ i, w6.cell? ⟨w.heap.size, i, none⟩ = (#[.int .i64 hgt, .int .i64 rnd, .slice b.S b.sum.length b.sc, .int .i64 b.parts, .slice b.R b.root.length b.rc, .slice A n c] : Array Value)[i]? := fun i => hs6.1.cell i
          have f6 : ∀ i, w6.frozen? ⟨w.heap.size, i, none⟩ = false := fun i => hs6.1.free i
          have hl6 : w.heap.size < w6.heap.size := hs6.1.lt
          have HS6 := Lib.hid hs6; have HR1 := Lib.hid hr1; have HR2 := Lib.hid hr2; have HM := Lib.hid hm60
          clear hr1 hr2 hb6 hs6 r2 KL HS2
          as_aux_lemma =>
            go_upto_region 4 with (first | refine wpList_store_row rfl 27 (.tmp 2) (.tmp 18) rfl w.heap.size #[.int .i64 (mag hgt % 1152921504606846976), .int .i64 (mag rnd % 1073741824), .slice b.S b.sum.length b.sc, .int .i64 (mag b.parts % 1073741824), .slice b.R b.root.length b.rc, .slice A1 m c1] rfl rfl 27 _ (HS6.out.1.alloc _) (by kernel_rfl) rfl (by simp [Value.oneCell']) ?_ | refine wpList_store_row rfl 38 (.tmp 5) (.tmp 19) rfl w6.heap.size #[.int .i64 (mag hgt % 1152921504606846976), .int .i64 (mag rnd % 1073741824), .slice b.S b.sum.length b.sc, .int .i64 (mag b.parts % 1073741824), .slice b.R b.root.length b.rc, .slice A2 m c2] rfl rfl 38 _ ((setRow_other _ _ _ _ (by omega)).trans (Blk.new _ _ _)) (by kernel_rfl) rfl (by simp [Value.oneCell']) ?_)
            have hs7 := SumS.start2 (Z := #[.int .i64 0, .int .i64 0, .slice none 0 0, .int .i64 0, .slice none 0 0, .slice none 0 0]) (C1 := #[.int .i64 (mag hgt % 1152921504606846976), .int .i64 (mag rnd % 1073741824), .slice b.S b.sum.length b.sc, .int .i64 (mag b.parts % 1073741824), .slice b.R b.root.length b.rc, .slice A1 m c1]) (X1 := #[.int .i64 (mag hgt % 1152921504606846976), .int .i64 (mag rnd % 1073741824), .slice b.S b.sum.length b.sc, .int .i64 (mag b.parts % 1073741824), .slice b.R b.root.length b.rc, .slice A2 m c2]) HS6.out HR1.out HR2.out
            change Code.wp _ _ _ _ (((w6.alloc (.cells #[.int .i64 0, .int .i64 0, .slice none 0 0, .int .i64 0, .slice none 0 0, .slice none 0 0] 38)).setRow w.heap.size #[.int .i64 (mag hgt % 1152921504606846976), .int .i64 (mag rnd % 1073741824), .slice b.S b.sum.length b.sc, .int .i64 (mag b.parts % 1073741824), .slice b.R b.root.length b.rc, .slice A1 m c1]).setRow w6.heap.size #[.int .i64 (mag hgt % 1152921504606846976), .int .i64 (mag rnd % 1073741824), .slice b.S b.sum.length b.sc, .int .i64 (mag b.parts % 1073741824), .slice b.R b.root.length b.rc, .slice A2 m c2])
            have HS7 := Lib.hid hs7
            clear hs7 r6 f6 hl6 HS6 HR1 HR2
            generalize (((w6.alloc (.cells #[.int .i64 0, .int .i64 0, .slice none 0 0, .int .i64 0, .slice none 0 0, .slice none 0 0] 38)).setRow w.heap.size #[.int .i64 (mag hgt % 1152921504606846976), .int .i64 (mag rnd % 1073741824), .slice b.S b.sum.length b.sc, .int .i64 (mag b.parts % 1073741824), .slice b.R b.root.length b.rc, .slice A1 m c1]).setRow w6.heap.size #[.int .i64 (mag hgt % 1152921504606846976), .int .i64 (mag rnd % 1073741824), .slice b.S b.sum.length b.sc, .int .i64 (mag b.parts % 1073741824), .slice b.R b.root.length b.rc, .slice A2 m c2]) = w7 at HS7 ⊢
            generalize w6.heap.size = g7 at HS7 ⊢
            as_aux_lemma =>
              have hall := norm_all (l.take 60)
              have HALL := Lib.hid hall; clear hall
              have r7 : ∀ i, w7.cell? ⟨w.heap.size + 1, i, none⟩ = (#[.int .i64 ver, .int .i64 app, .string y.chain, .int .i64 hh, .int .i64 sec, .int .i64 nan, .slice y.S y.sum.length y.sc, .int .i64 parts, .slice y.R y.root.length y.rc, .slice y.q0.a y.q0.s.length y.q0.c, .slice y.q1.a y.q1.s.length y.q1.c, .slice y.q2.a y.q2.s.length y.q2.c, .slice y.q3.a y.q3.s.length y.q3.c, .slice y.q4.a y.q4.s.length y.q4.c, .slice y.q5.a y.q5.s.length y.q5.c, .slice y.q6.a y.q6.s.length y.q6.c, .slice y.q7.a y.q7.s.length y.q7.c, .string y.prop] : Array Value)[i]? := fun i => HS7.out.hed.cell i
              have f7 : ∀ i, w7.frozen? ⟨w.heap.size + 1, i, none⟩ = false := fun i => HS7.out.hed.free i
              have hl7 : w.heap.size + 1 < w7.heap.size := HS7.out.hed.lt
              obtain ⟨V, hV⟩ : ∃ V : Nat, mag ver = (V : Int) := ⟨(mag ver).toNat, by have := mag_pos ver; omega⟩
              obtain ⟨AP, hAP⟩ : ∃ V : Nat, mag app = (V : Int) := ⟨(mag app).toNat, by have := mag_pos app; omega⟩
              have e1 := (mag_max HG.out.ver).trans hV
              have e2 := (mag_max HG.out.app).trans hAP
              have e3 := mag_max HG.out.hgt
              have HV := Lib.hid hV; have HAP := Lib.hid hAP
              clear hV hAP
              go_upto_region 5 with fail
              have hs8 : SumS w g7 #[.int .i64 (mag hgt % 1152921504606846976), .int .i64 (mag rnd % 1073741824), .slice b.S b.sum.length b.sc, .int .i64 (mag b.parts % 1073741824), .slice b.R b.root.length b.rc, .slice A1 m c1] #[.int .i64 (V : Int), .int .i64 (AP : Int), .string y.chain, .int .i64 (mag hh), .int .i64 sec, .int .i64 nan, .slice y.S y.sum.length y.sc, .int .i64 parts, .slice y.R y.root.length y.rc, .slice y.q0.a y.q0.s.length y.q0.c, .slice y.q1.a y.q1.s.length y.q1.c, .slice y.q2.a y.q2.s.length y.q2.c, .slice y.q3.a y.q3.s.length y.q3.c, .slice y.q4.a y.q4.s.length y.q4.c, .slice y.q5.a y.q5.s.length y.q5.c, .slice y.q6.a y.q6.s.length y.q6.c, .slice y.q7.a y.q7.s.length y.q7.c, .string y.prop] #[.int .i64 (mag hgt % 1152921504606846976), .int .i64 (mag rnd % 1073741824), .slice b.S b.sum.length b.sc, .int .i64 (mag b.parts % 1073741824), .slice b.R b.root.length b.rc, .slice A2 m c2] A1 A2 m ((l.take 60).map normG) (((w7.setCell ⟨w.heap.size + 1, 0, none⟩ (.int .i64 (V : Int))).setCell ⟨w.heap.size + 1, 1, none⟩ (.int .i64 (AP : Int))).setCell ⟨w.heap.size + 1, 3, none⟩ (.int .i64 (mag hh))) := (((HS7.out.put 0 (.int .i64 (V : Int))).put 1 (.int .i64 (AP : Int))).put 3 (.int .i64 (mag hh)))
              have HS8 := Lib.hid hs8
              clear hs8 r7 f7 hl7 e1 e2 e3 HS7
              generalize (((w7.setCell ⟨w.heap.size + 1, 0, none⟩ (.int .i64 (V : Int))).setCell ⟨w.heap.size + 1, 1, none⟩ (.int .i64 (AP : Int))).setCell ⟨w.heap.size + 1, 3, none⟩ (.int .i64 (mag hh))) = w8 at HS8 ⊢
              as_aux_lemma =>
                have r7 : ∀ i, w8.cell? ⟨w.heap.size + 1, i, none⟩ = (#[.int .i64 (V : Int), .int .i64 (AP : Int), .string y.chain, .int .i64 (mag hh), .int .i64 sec, .int .i64 nan, .slice y.S y.sum.length y.sc, .int .i64 parts, .slice y.R y.root.length y.rc, .slice y.q0.a y.q0.s.length y.q0.c, .slice y.q1.a y.q1.s.length y.q1.c, .slice y.q2.a y.q2.s.length y.q2.c, .slice y.q3.a y.q3.s.length y.q3.c, .slice y.q4.a y.q4.s.length y.q4.c, .slice y.q5.a y.q5.s.length y.q5.c, .slice y.q6.a y.q6.s.length y.q6.c, .slice y.q7.a y.q7.s.length y.q7.c, .string y.prop] : Array Value)[i]? := fun i => HS8.out.hed.cell i
                have f7 : ∀ i, w8.frozen? ⟨w.heap.size + 1, i, none⟩ = false := fun i => HS8.out.hed.free i
                have hl7 : w.heap.size + 1 < w8.heap.size := HS8.out.hed.lt
                have e1 := mag_max HG.out.nan
                have p1 := mag_pos nan
                have t1 := HG.out.sec
                go_upto_region 6 with fail
                have hs9 : SumS w g7 #[.int .i64 (mag hgt % 1152921504606846976), .int .i64 (mag rnd % 1073741824), .slice b.S b.sum.length b.sc, .int .i64 (mag b.parts % 1073741824), .slice b.R b.root.length b.rc, .slice A1 m c1] #[.int .i64 (V : Int), .int .i64 (AP : Int), .string y.chain, .int .i64 (mag hh), .int .i64 (sec.tmod 1099511627776), .int .i64 (mag nan % 1000000000), .slice y.S y.sum.length y.sc, .int .i64 parts, .slice y.R y.root.length y.rc, .slice y.q0.a y.q0.s.length y.q0.c, .slice y.q1.a y.q1.s.length y.q1.c, .slice y.q2.a y.q2.s.length y.q2.c, .slice y.q3.a y.q3.s.length y.q3.c, .slice y.q4.a y.q4.s.length y.q4.c, .slice y.q5.a y.q5.s.length y.q5.c, .slice y.q6.a y.q6.s.length y.q6.c, .slice y.q7.a y.q7.s.length y.q7.c, .string y.prop] #[.int .i64 (mag hgt % 1152921504606846976), .int .i64 (mag rnd % 1073741824), .slice b.S b.sum.length b.sc, .int .i64 (mag b.parts % 1073741824), .slice b.R b.root.length b.rc, .slice A2 m c2] A1 A2 m ((l.take 60).map normG) ((w8.setCell ⟨w.heap.size + 1, 4, none⟩ (.int .i64 (sec.tmod 1099511627776))).setCell ⟨w.heap.size + 1, 5, none⟩ (.int .i64 (mag nan % 1000000000))) := ((HS8.out.put 4 (.int .i64 (sec.tmod 1099511627776))).put 5 (.int .i64 (mag nan % 1000000000)))
                have HS9 := Lib.hid hs9
                clear hs9 r7 f7 hl7 e1 p1 t1 HS8
                generalize ((w8.setCell ⟨w.heap.size + 1, 4, none⟩ (.int .i64 (sec.tmod 1099511627776))).setCell ⟨w.heap.size + 1, 5, none⟩ (.int .i64 (mag nan % 1000000000))) = w9 at HS9 ⊢
                as_aux_lemma =>
                  have r7 : ∀ i, w9.cell? ⟨w.heap.size + 1, i, none⟩ = (#[.int .i64 (V : Int), .int .i64 (AP : Int), .string y.chain, .int .i64 (mag hh), .int .i64 (sec.tmod 1099511627776), .int .i64 (mag nan % 1000000000), .slice y.S y.sum.length y.sc, .int .i64 parts, .slice y.R y.root.length y.rc, .slice y.q0.a y.q0.s.length y.q0.c, .slice y.q1.a y.q1.s.length y.q1.c, .slice y.q2.a y.q2.s.length y.q2.c, .slice y.q3.a y.q3.s.length y.q3.c, .slice y.q4.a y.q4.s.length y.q4.c, .slice y.q5.a y.q5.s.length y.q5.c, .slice y.q6.a y.q6.s.length y.q6.c, .slice y.q7.a y.q7.s.length y.q7.c, .string y.prop] : Array Value)[i]? := fun i => HS9.out.hed.cell i
                  have f7 : ∀ i, w9.frozen? ⟨w.heap.size + 1, i, none⟩ = false := fun i => HS9.out.hed.free i
                  have hl7 : w.heap.size + 1 < w9.heap.size := HS9.out.hed.lt
                  have e1 := mag_max HG.out.parts
                  have p1 := mag_pos parts
                  go_upto_region 7 with fail
                  have hs10 : SumS w g7 #[.int .i64 (mag hgt % 1152921504606846976), .int .i64 (mag rnd % 1073741824), .slice b.S b.sum.length b.sc, .int .i64 (mag b.parts % 1073741824), .slice b.R b.root.length b.rc, .slice A1 m c1] #[.int .i64 (V : Int), .int .i64 (AP : Int), .string y.chain, .int .i64 (mag hh), .int .i64 (sec.tmod 1099511627776), .int .i64 (mag nan % 1000000000), .slice y.S y.sum.length y.sc, .int .i64 (mag parts % 1073741824), .slice y.R y.root.length y.rc, .slice y.q0.a y.q0.s.length y.q0.c, .slice y.q1.a y.q1.s.length y.q1.c, .slice y.q2.a y.q2.s.length y.q2.c, .slice y.q3.a y.q3.s.length y.q3.c, .slice y.q4.a y.q4.s.length y.q4.c, .slice y.q5.a y.q5.s.length y.q5.c, .slice y.q6.a y.q6.s.length y.q6.c, .slice y.q7.a y.q7.s.length y.q7.c, .string y.prop] #[.int .i64 (mag hgt % 1152921504606846976), .int .i64 (mag rnd % 1073741824), .slice b.S b.sum.length b.sc, .int .i64 (mag b.parts % 1073741824), .slice b.R b.root.length b.rc, .slice A2 m c2] A1 A2 m ((l.take 60).map normG) (w9.setCell ⟨w.heap.size + 1, 7, none⟩ (.int .i64 (mag parts % 1073741824))) := (HS9.out.put 7 (.int .i64 (mag parts % 1073741824)))
                  have HS10 := Lib.hid hs10
                  clear hs10 r7 f7 hl7 e1 p1 HS9
                  generalize (w9.setCell ⟨w.heap.size + 1, 7, none⟩ (.int .i64 (mag parts % 1073741824))) = w10 at HS10 ⊢
                  as_aux_lemma =>
                    have r7 : ∀ i, w10.cell? ⟨w.heap.size + 1, i, none⟩ = (#[.int .i64 (V : Int), .int .i64 (AP : Int), .string y.chain, .int .i64 (mag hh), .int .i64 (sec.tmod 1099511627776), .int .i64 (mag nan % 1000000000), .slice y.S y.sum.length y.sc, .int .i64 (mag parts % 1073741824), .slice y.R y.root.length y.rc, .slice y.q0.a y.q0.s.length y.q0.c, .slice y.q1.a y.q1.s.length y.q1.c, .slice y.q2.a y.q2.s.length y.q2.c, .slice y.q3.a y.q3.s.length y.q3.c, .slice y.q4.a y.q4.s.length y.q4.c, .slice y.q5.a y.q5.s.length y.q5.c, .slice y.q6.a y.q6.s.length y.q6.c, .slice y.q7.a y.q7.s.length y.q7.c, .string y.prop] : Array Value)[i]? := fun i => HS10.out.hed.cell i
                    have hl7 : w.heap.size + 1 < w10.heap.size := HS10.out.hed.lt
                    go_upto_region 8 with (first | refine wpList_build_to rfl 43 _ rfl #[.int .i64 (V : Int), .int .i64 (AP : Int), .string y.chain, .int .i64 (mag hh), .int .i64 (sec.tmod 1099511627776), .int .i64 (mag nan % 1000000000), .slice y.S y.sum.length y.sc, .int .i64 (mag parts % 1073741824), .slice y.R y.root.length y.rc, .slice y.q0.a y.q0.s.length y.q0.c, .slice y.q1.a y.q1.s.length y.q1.c, .slice y.q2.a y.q2.s.length y.q2.c, .slice y.q3.a y.q3.s.length y.q3.c, .slice y.q4.a y.q4.s.length y.q4.c, .slice y.q5.a y.q5.s.length y.q5.c, .slice y.q6.a y.q6.s.length y.q6.c, .slice y.q7.a y.q7.s.length y.q7.c, .string y.prop] (Eq.trans (congrArg (Tryd.prog.built 43) (show _ = ([(0, .int .i64 (V : Int)), (1, .int .i64 (AP : Int)), (2, .string y.chain), (3, .int .i64 (mag hh)), (4, .agg #[.int .i64 (sec.tmod 1099511627776), .int .i64 (mag nan % 1000000000)]), (5, .agg #[.slice y.S y.sum.length y.sc, .int .i64 (mag parts % 1073741824), .slice y.R y.root.length y.rc]), (6, .agg #[.slice y.q0.a y.q0.s.length y.q0.c, .slice y.q1.a y.q1.s.length y.q1.c, .slice y.q2.a y.q2.s.length y.q2.c, .slice y.q3.a y.q3.s.length y.q3.c, .slice y.q4.a y.q4.s.length y.q4.c, .slice y.q5.a y.q5.s.length y.q5.c, .slice y.q6.a y.q6.s.length y.q6.c, .slice y.q7.a y.q7.s.length y.q7.c]), (7, .string y.prop)] : List (Nat × Value)) from rfl)) (build_header _ _ _ _ _ _ _ _ _ _ _ _ _ _ _ _ _ _ _ _ _ _ _ _ _ _ _ _ _ _ _ _ _ _ _ _ _ _)) ?_ | refine wpList_store_row rfl 43 (.tmp 6) (.tmp 90) rfl w10.heap.size #[.int .i64 (V : Int), .int .i64 (AP : Int), .string y.chain, .int .i64 (mag hh), .int .i64 (sec.tmod 1099511627776), .int .i64 (mag nan % 1000000000), .slice y.S y.sum.length y.sc, .int .i64 (mag parts % 1073741824), .slice y.R y.root.length y.rc, .slice y.q0.a y.q0.s.length y.q0.c, .slice y.q1.a y.q1.s.length y.q1.c, .slice y.q2.a y.q2.s.length y.q2.c, .slice y.q3.a y.q3.s.length y.q3.c, .slice y.q4.a y.q4.s.length y.q4.c, .slice y.q5.a y.q5.s.length y.q5.c, .slice y.q6.a y.q6.s.length y.q6.c, .slice y.q7.a y.q7.s.length y.q7.c, .string y.prop] rfl rfl 43 _ (Blk.new _ _ _) (by kernel_rfl) rfl (by simp [Value.oneCell']) ?_)
                    have hb10 : Below w10.heap.size w10 ((w10.alloc (.cells #[.int .i64 0, .int .i64 0, .string { data := #[] }, .int .i64 0, .int .i64 0, .int .i64 0, .slice none 0 0, .int .i64 0, .slice none 0 0, .slice none 0 0, .slice none 0 0, .slice none 0 0, .slice none 0 0, .slice none 0 0, .slice none 0 0, .slice none 0 0, .slice none 0 0, .string { data := #[] }] 43)).setRow w10.heap.size #[.int .i64 (V : Int), .int .i64 (AP : Int), .string y.chain, .int .i64 (mag hh), .int .i64 (sec.tmod 1099511627776), .int .i64 (mag nan % 1000000000), .slice y.S y.sum.length y.sc, .int .i64 (mag parts % 1073741824), .slice y.R y.root.length y.rc, .slice y.q0.a y.q0.s.length y.q0.c, .slice y.q1.a y.q1.s.length y.q1.c, .slice y.q2.a y.q2.s.length y.q2.c, .slice y.q3.a y.q3.s.length y.q3.c, .slice y.q4.a y.q4.s.length y.q4.c, .slice y.q5.a y.q5.s.length y.q5.c, .slice y.q6.a y.q6.s.length y.q6.c, .slice y.q7.a y.q7.s.length y.q7.c, .string y.prop]) := below_setRow ((Below.refl _ _).alloc (Nat.le_refl _) _) (Nat.le_refl _) _
                    have hs11 := HS10.out.call hb10
                    have hg11 : Blk ((w10.alloc (.cells #[.int .i64 0, .int .i64 0, .string { data := #[] }, .int .i64 0, .int .i64 0, .int .i64 0, .slice none 0 0, .int .i64 0, .slice none 0 0, .slice none 0 0, .slice none 0 0, .slice none 0 0, .slice none 0 0, .slice none 0 0, .slice none 0 0, .slice none 0 0, .slice none 0 0, .string { data := #[] }] 43)).setRow w10.heap.size #[.int .i64 (V : Int), .int .i64 (AP : Int), .string y.chain, .int .i64 (mag hh), .int .i64 (sec.tmod 1099511627776), .int .i64 (mag nan % 1000000000), .slice y.S y.sum.length y.sc, .int .i64 (mag parts % 1073741824), .slice y.R y.root.length y.rc, .slice y.q0.a y.q0.s.length y.q0.c, .slice y.q1.a y.q1.s.length y.q1.c, .slice y.q2.a y.q2.s.length y.q2.c, .slice y.q3.a y.q3.s.length y.q3.c, .slice y.q4.a y.q4.s.length y.q4.c, .slice y.q5.a y.q5.s.length y.q5.c, .slice y.q6.a y.q6.s.length y.q6.c, .slice y.q7.a y.q7.s.length y.q7.c, .string y.prop]) w10.heap.size 43 #[.int .i64 (V : Int), .int .i64 (AP : Int), .string y.chain, .int .i64 (mag hh), .int .i64 (sec.tmod 1099511627776), .int .i64 (mag nan % 1000000000), .slice y.S y.sum.length y.sc, .int .i64 (mag parts % 1073741824), .slice y.R y.root.length y.rc, .slice y.q0.a y.q0.s.length y.q0.c, .slice y.q1.a y.q1.s.length y.q1.c, .slice y.q2.a y.q2.s.length y.q2.c, .slice y.q3.a y.q3.s.length y.q3.c, .slice y.q4.a y.q4.s.length y.q4.c, .slice y.q5.a y.q5.s.length y.q5.c, .slice y.q6.a y.q6.s.length y.q6.c, .slice y.q7.a y.q7.s.length y.q7.c, .string y.prop] := setRow_heap _ _ _ _ _ _ (Blk.new _ _ _)
                    change Code.wp _ _ _ _ ((w10.alloc (.cells #[.int .i64 0, .int .i64 0, .string { data := #[] }, .int .i64 0, .int .i64 0, .int .i64 0, .slice none 0 0, .int .i64 0, .slice none 0 0, .slice none 0 0, .slice none 0 0, .slice none 0 0, .slice none 0 0, .slice none 0 0, .slice none 0 0, .slice none 0 0, .slice none 0 0, .string { data := #[] }] 43)).setRow w10.heap.size #[.int .i64 (V : Int), .int .i64 (AP : Int), .string y.chain, .int .i64 (mag hh), .int .i64 (sec.tmod 1099511627776), .int .i64 (mag nan % 1000000000), .slice y.S y.sum.length y.sc, .int .i64 (mag parts % 1073741824), .slice y.R y.root.length y.rc, .slice y.q0.a y.q0.s.length y.q0.c, .slice y.q1.a y.q1.s.length y.q1.c, .slice y.q2.a y.q2.s.length y.q2.c, .slice y.q3.a y.q3.s.length y.q3.c, .slice y.q4.a y.q4.s.length y.q4.c, .slice y.q5.a y.q5.s.length y.q5.c, .slice y.q6.a y.q6.s.length y.q6.c, .slice y.q7.a y.q7.s.length y.q7.c, .string y.prop])
                    have HS11 := Lib.hid hs11; have HG11 := Lib.hid hg11
                    clear hs11 hg11 hb10 r7 hl7 HS10
                    generalize ((w10.alloc (.cells #[.int .i64 0, .int .i64 0, .string { data := #[] }, .int .i64 0, .int .i64 0, .int .i64 0, .slice none 0 0, .int .i64 0, .slice none 0 0, .slice none 0 0, .slice none 0 0, .slice none 0 0, .slice none 0 0, .slice none 0 0, .slice none 0 0, .slice none 0 0, .slice none 0 0, .string { data := #[] }] 43)).setRow w10.heap.size #[.int .i64 (V : Int), .int .i64 (AP : Int), .string y.chain, .int .i64 (mag hh), .int .i64 (sec.tmod 1099511627776), .int .i64 (mag nan % 1000000000), .slice y.S y.sum.length y.sc, .int .i64 (mag parts % 1073741824), .slice y.R y.root.length y.rc, .slice y.q0.a y.q0.s.length y.q0.c, .slice y.q1.a y.q1.s.length y.q1.c, .slice y.q2.a y.q2.s.length y.q2.c, .slice y.q3.a y.q3.s.length y.q3.c, .slice y.q4.a y.q4.s.length y.q4.c, .slice y.q5.a y.q5.s.length y.q5.c, .slice y.q6.a y.q6.s.length y.q6.c, .slice y.q7.a y.q7.s.length y.q7.c, .string y.prop]) = w11 at HS11 HG11 ⊢
                    generalize w10.heap.size = g10 at HG11 ⊢
                    as_aux_lemma =>
                      obtain ⟨PA, hPA⟩ : ∃ V : Nat, mag parts % 1073741824 = (V : Int) := ⟨(mag parts % 1073741824).toNat, by have := (mag_mod parts 1073741824 (by decide)).1; omega⟩
                      have hPA2 := (mag_mod parts 1073741824 (by decide)).2
                      have hmR := mag_mod rnd 1073741824 (by decide)
                      have hmP := mag_mod b.parts 1073741824 (by decide)
                      rw [hPA] at HS11 HG11 hPA2
                      generalize mag rnd % 1073741824 = Rn at HS11 hmR
                      generalize mag b.parts % 1073741824 = PB at HS11 hmP
                      generalize mag hgt % 1152921504606846976 = H at HS11
                      have hz : ∃ z : Hd, z.ok w ∧ z.can ∧ z.cells = #[.int .i64 (V : Int), .int .i64 (AP : Int), .string y.chain, .int .i64 (mag hh), .int .i64 (sec.tmod 1099511627776), .int .i64 (mag nan % 1000000000), .slice y.S y.sum.length y.sc, .int .i64 (PA : Int), .slice y.R y.root.length y.rc, .slice y.q0.a y.q0.s.length y.q0.c, .slice y.q1.a y.q1.s.length y.q1.c, .slice y.q2.a y.q2.s.length y.q2.c, .slice y.q3.a y.q3.s.length y.q3.c, .slice y.q4.a y.q4.s.length y.q4.c, .slice y.q5.a y.q5.s.length y.q5.c, .slice y.q6.a y.q6.s.length y.q6.c, .slice y.q7.a y.q7.s.length y.q7.c, .string y.prop] := by
                        have hf := HF7.out
                        unfold fit7 fit4 fit8 at hf
                        simp only [Bool.and_eq_true, Bool.not_eq_true', decide_eq_false_iff_not, List.all_eq_true] at hf
                        obtain ⟨f1, ⟨f2, f3⟩, f4, f5⟩ := hf
                        have fq : ∀ x ∈ y.qs, x.s.length ≤ 10000000000 := fun x hx => by have := f4 x hx; omega
                        have hy := HY.out
                        have b1 : V ≤ 9223372036854775807 := by have := HG.out.ver; have := HV.out; unfold mag at this; split at this <;> omega
                        have b2 : AP ≤ 9223372036854775807 := by have := HG.out.app; have := HAP.out; unfold mag at this; split at this <;> omega
                        have b3 : 0 ≤ mag hh ∧ mag hh ≤ 9223372036854775807 := by have := HG.out.hgt; unfold mag; split <;> omega
                        have b4 := Int.tmod_lt_of_pos sec (b := 1099511627776) (by decide)
                        have b5 := Int.lt_tmod_of_pos sec (b := 1099511627776) (by decide)
                        have b6 := mag_mod nan 1000000000 (by decide)
                        refine ⟨{ y with ver := V, app := AP, hgt := mag hh, sec := sec.tmod 1099511627776, nan := mag nan % 1000000000, parts := PA }, ⟨hy.sum, hy.root, hy.q0, hy.q1, hy.q2, hy.q3, hy.q4, hy.q5, hy.q6, hy.q7⟩, ?_, rfl⟩
                        exact ⟨b1, b2, b3, ⟨by show (-4611686018427387904 : Int) ≤ sec.tmod 1099511627776; omega, by show sec.tmod 1099511627776 ≤ 4611686018427387904; omega⟩, ⟨b6.1, by show mag nan % 1000000000 ≤ 2147483647; omega⟩, by show PA ≤ 4294967295; omega, by show y.chain.size ≤ 10000000000; omega, by show y.sum.length ≤ 10000000000; omega, by show y.root.length ≤ 10000000000; omega,
                          fq _ (by simp [Hd.qs]), fq _ (by simp [Hd.qs]), fq _ (by simp [Hd.qs]), fq _ (by simp [Hd.qs]), fq _ (by simp [Hd.qs]), fq _ (by simp [Hd.qs]), fq _ (by simp [Hd.qs]), fq _ (by simp [Hd.qs]), by show y.prop.size ≤ 10000000000; omega⟩
                      obtain ⟨z, hzo, hzc, hze⟩ := hz
                      rw [← hze] at HS11 HG11
                      unfold Hd.cells at HS11 HG11
                      have hsg : ∀ s ∈ (l.take 60).map normG, Rd w w.heap.size 1 s.S s.sig.length (bc s.sig) := by
                        intro s hs
                        obtain ⟨s0, h0, rfl⟩ := List.mem_map.1 hs
                        exact HX.out.signs s0 (List.mem_of_mem_take h0)
                      have hcan : ∀ s ∈ (l.take 60).map normG, s.can := by
                        intro s hs
                        obtain ⟨k1, k2, k3⟩ := HALL.out s hs
                        obtain ⟨s0, h0, rfl⟩ := List.mem_map.1 hs
                        have h2 := HSZ.out s0 (List.mem_of_mem_take h0)
                        exact ⟨k1, k2, k3, by show s0.adr.size ≤ 10000000000; omega, by show s0.sig.length ≤ 10000000000; omega⟩
                      clear HALL HX HSZ
                      generalize (l.take 60).map normG = ls at HS11 hsg hcan
                      have HB : Hid (∀ W, Below w11.heap.size w11 W → Below w.heap.size w W) := Lib.hid fun W hW => HS11.out.below.trans (hW.mono HS11.out.below.size)
                      have KC1 := Lib.hid (fun W (hW : Below w11.heap.size w11 W) => icsum_any H Rn ⟨b.S, b.sc, b.sum, PB, b.R, b.rc, b.root⟩ A1 m c1 ls W (HS11.out.call hW).row (by have := HM.out; omega) (by show 0 ≤ PB ∧ PB ≤ 4294967295; omega) (by omega) (fun s hs => ((hsg s hs).below (HB.out W hW)).sized) hcan (HKW.out.belowS (HB.out W hW)))
                      have KC2 := Lib.hid (fun W (hW : Below w11.heap.size w11 W) => scsum_any H Rn ⟨b.S, b.sc, b.sum, PB, b.R, b.rc, b.root⟩ A2 m c2 ls W (HS11.out.call hW).row2 (by have := HM.out; omega) (fun s hs => ((hsg s hs).below (HB.out W hW)).sized) hcan)
                      have KC3 := Lib.hid (fun W (hW : Below w11.heap.size w11 W) => ihsum_any z W (hzo.below (HB.out W hW)) hzc (HKW.out.belowS (HB.out W hW)))
                      have KC4 := Lib.hid (fun W (hW : Below w11.heap.size w11 W) => shsum_any z W (hzo.below (HB.out W hW)) hzc)
                      unfold Hd.cells at KC3 KC4
                      simp only at KC1 KC2
                      have HQ : Hid (∀ W, Below w11.heap.size w11 W → Blk W w.heap.size 27 #[.int .i64 H, .int .i64 Rn, .slice b.S b.sum.length b.sc, .int .i64 PB, .slice b.R b.root.length b.rc, .slice A1 m c1] ∧ Blk W (w.heap.size + 1) 32 #[.int .i64 (z.ver : Int), .int .i64 (z.app : Int), .string z.chain, .int .i64 z.hgt, .int .i64 z.sec, .int .i64 z.nan, .slice z.S z.sum.length z.sc, .int .i64 (z.parts : Int), .slice z.R z.root.length z.rc, .slice z.q0.a z.q0.s.length z.q0.c, .slice z.q1.a z.q1.s.length z.q1.c, .slice z.q2.a z.q2.s.length z.q2.c, .slice z.q3.a z.q3.s.length z.q3.c, .slice z.q4.a z.q4.s.length z.q4.c, .slice z.q5.a z.q5.s.length z.q5.c, .slice z.q6.a z.q6.s.length z.q6.c, .slice z.q7.a z.q7.s.length z.q7.c, .string z.prop] ∧ Blk W g7 38 #[.int .i64 H, .int .i64 Rn, .slice b.S b.sum.length b.sc, .int .i64 PB, .slice b.R b.root.length b.rc, .slice A2 m c2] ∧ Blk W g10 43 #[.int .i64 (z.ver : Int), .int .i64 (z.app : Int), .string z.chain, .int .i64 z.hgt, .int .i64 z.sec, .int .i64 z.nan, .slice z.S z.sum.length z.sc, .int .i64 (z.parts : Int), .slice z.R z.root.length z.rc, .slice z.q0.a z.q0.s.length z.q0.c, .slice z.q1.a z.q1.s.length z.q1.c, .slice z.q2.a z.q2.s.length z.q2.c, .slice z.q3.a z.q3.s.length z.q3.c, .slice z.q4.a z.q4.s.length z.q4.c, .slice z.q5.a z.q5.s.length z.q5.c, .slice z.q6.a z.q6.s.length z.q6.c, .slice z.q7.a z.q7.s.length z.q7.c, .string z.prop]) :=
                        Lib.hid fun W hW => ⟨(HS11.out.call hW).com, (HS11.out.call hW).hed, (HS11.out.call hW).ref, HG11.out.belowS hW⟩
                      generalize rootL (ls.map sgB) = rt1 at KC1 KC2
                      generalize z.sumB = rt2 at KC3 KC4
                      clear hze hzo hzc hsg hcan HS11 HG11 hPA2 hmR hmP HV HAP HN31 HF7 HF HG HR HBK HLN HKW HM HY
                      as_aux_lemma =>
                        refine sums_end (N := w.heap.size) (by kernel_rfl) (by intro c a d v w h; cases d <;> exact h) KC1 KC2 KC3 KC4 HQ rfl rfl rfl ?_
                        intro r0 r1 r2 r3 r4 r5 r6 r7 r8 r9 r10 r11 r12 r13 r14 r15 w12 hb12
                        have HB12 := Lib.hid (HB.out _ hb12)
                        clear hb12 KC1 KC2 KC3 KC4 HQ
                        go_wp2_with fail
                        go_ret
                        exact ⟨rfl, HB12.out⟩
end Go.Proofs.YtikikddkhikfkaaDoor
