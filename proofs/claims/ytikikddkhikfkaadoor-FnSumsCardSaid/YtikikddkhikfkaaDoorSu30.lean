/-
  Sizes of a header: laws.zzFits8, zzFits7: walks. By the session. How an argument that is a header opens. By the session.
-/
import Derived.Test.YtikikddkhikfkaaDoorSu29
import Derived.Test.YtikikddkhikfkaaDoorSu25
import Derived.Test.YtikikddkhikfkaaDoorSu23
import Derived.OpenShut
set_option linter.all false
namespace Go.Proofs.YtikikddkhikfkaaDoor
open Go.RowKit

def fit8 (h : Hd) : Bool := h.qs.all fun x => !(decide (2147483647 < x.s.length))
set_option maxRecDepth 100000 in
set_option maxHeartbeats 1600000 in
theorem fits8_any (h : Hd) (w : World) :
    Calls Tryd.prog 28 #[.agg #[.slice h.q0.a h.q0.s.length h.q0.c, .slice h.q1.a h.q1.s.length h.q1.c, .slice h.q2.a h.q2.s.length h.q2.c, .slice h.q3.a h.q3.s.length h.q3.c, .slice h.q4.a h.q4.s.length h.q4.c, .slice h.q5.a h.q5.s.length h.q5.c, .slice h.q6.a h.q6.s.length h.q6.c, .slice h.q7.a h.q7.s.length h.q7.c]] w fun e w' => e = .returned (.bool (fit8 h)) ∧ Below w.heap.size w w' := by
  have hb0 : Below w.heap.size w (w.alloc (.cells #[.slice h.q0.a h.q0.s.length h.q0.c, .slice h.q1.a h.q1.s.length h.q1.c, .slice h.q2.a h.q2.s.length h.q2.c, .slice h.q3.a h.q3.s.length h.q3.c, .slice h.q4.a h.q4.s.length h.q4.c, .slice h.q5.a h.q5.s.length h.q5.c, .slice h.q6.a h.q6.s.length h.q6.c, .slice h.q7.a h.q7.s.length h.q7.c] 30)) := (Below.refl _ _).alloc (Nat.le_refl _) _
  have HB0 := Lib.hid hb0; clear hb0
  go_enter Tryd.func28, Tryd.ntmps28
  go_wp2
  go_loopw [6] (fun i wr => ∃ k : Nat, k ≤ 8 ∧ i = .int .i64 k ∧ Hid (((h.qs.take k).all fun x => !(decide (2147483647 < x.s.length))) = true) ∧ Hid (Below w.heap.size w wr)) (fun i _ => 8 - (intOf i).toNat)
  case atStart => exact ⟨0, Nat.zero_le _, rfl, rfl, HB0.out⟩
  case round =>
    obtain ⟨k, hk, rfl, HA, hb⟩ := hrel
    by_cases hlt : k < 8
    · obtain ⟨x, hx⟩ : ∃ x, h.qs[k]? = some x := ⟨_, List.getElem?_eq_getElem (show k < h.qs.length from hlt)⟩
      have hix := fun W => idx_qs h k x hx W
      have HMEM := Lib.hid (List.mem_of_getElem? hx)
      have HST := Lib.hid (show ((h.qs.take (k + 1)).all fun x => !(decide (2147483647 < x.s.length))) = !(decide (2147483647 < x.s.length)) by
        rw [List.take_succ, hx, List.all_append, HA.out]; simp)
      clear hx
      by_cases hbig : 2147483647 < x.s.length
      · go_wp2
        go_ret
        exact ⟨ret_bool (by unfold fit8; symm; rw [List.all_eq_false]; exact ⟨x, HMEM.out, by simp; omega⟩), hb.out⟩
      · go_wp2
        go_roundw
        case rel => exact ⟨k + 1, by omega, by go_num, Lib.hid (by rw [HST.out]; simp; omega), hb⟩
        case measure => simp [intOf]; omega
    · obtain rfl : k = 8 := by omega
      go_wp2
      go_ret
      exact ⟨ret_bool (by unfold fit8; rw [← HA.out, List.take_of_length_le (by simp [Hd.qs])]), hb.out⟩
/-- a header as it comes in: the numbers unbridled -/
def Hd.raw (h : Hd) (ver app hgt sec nan parts : Int) : Array Value := #[.int .i64 ver, .int .i64 app, .string h.chain, .int .i64 hgt, .int .i64 sec, .int .i64 nan, .slice h.S h.sum.length h.sc, .int .i64 parts, .slice h.R h.root.length h.rc, .slice h.q0.a h.q0.s.length h.q0.c, .slice h.q1.a h.q1.s.length h.q1.c, .slice h.q2.a h.q2.s.length h.q2.c, .slice h.q3.a h.q3.s.length h.q3.c, .slice h.q4.a h.q4.s.length h.q4.c, .slice h.q5.a h.q5.s.length h.q5.c, .slice h.q6.a h.q6.s.length h.q6.c, .slice h.q7.a h.q7.s.length h.q7.c, .string h.prop]
def fit7 (h : Hd) : Bool := !(decide (2147483647 < h.chain.size)) && (fit4 ⟨h.S, h.sc, h.sum, 0, h.R, h.rc, h.root⟩ && (fit8 h && !(decide (2147483647 < h.prop.size))))
set_option maxRecDepth 100000 in
set_option maxHeartbeats 3200000 in
theorem fits7_any (h : Hd) (ver app hgt sec nan parts : Int) (w : World) (h1 : h.sum.length ≤ 9223372036854775807) (h2 : h.root.length ≤ 9223372036854775807) :
    Calls Tryd.prog 7 #[.agg (h.raw ver app hgt sec nan parts)] w fun e w' => e = .returned (.bool (fit7 h)) ∧ Below w.heap.size w w' := by
  have K1 := Lib.hid (fun W => fits4_any ⟨h.S, h.sc, h.sum, parts, h.R, h.rc, h.root⟩ W h1 h2)
  have K2 := Lib.hid (fun W => fits8_any h W)
  have e4 : fit4 ⟨h.S, h.sc, h.sum, parts, h.R, h.rc, h.root⟩ = fit4 ⟨h.S, h.sc, h.sum, 0, h.R, h.rc, h.root⟩ := rfl
  have hs0 := SB.start w 32 (h.raw ver app hgt sec nan parts)
  unfold Hd.raw at hs0 ⊢
  have HS0 := Lib.hid hs0; clear hs0 h1 h2
  by_cases hc : 2147483647 < h.chain.size
  · have HF : Hid (fit7 h = false) := by show _ = _; unfold fit7; simp [hc]
    go_enter Tryd.func7, Tryd.ntmps7
    go_wp2
    go_ret
    exact ⟨ret_bool HF.out.symm, (Below.refl _ _).alloc (Nat.le_refl _) _⟩
  · cases hf4 : fit4 ⟨h.S, h.sc, h.sum, 0, h.R, h.rc, h.root⟩ with
    | false =>
      have HF : Hid (fit7 h = false) := by show _ = _; unfold fit7; rw [hf4]; simp
      rw [e4, hf4] at K1
      clear e4
      go_enter Tryd.func7, Tryd.ntmps7
      go_wp2_with fail
      refine (K1.out _).mono ?_
      rintro e w1 ⟨rfl, hb1⟩
      have HS1 := Lib.hid (HS0.out.call hb1); clear hb1
      go_wp2
      go_ret
      exact ⟨ret_bool HF.out.symm, HS1.out.2⟩
    | true =>
      rw [e4, hf4] at K1
      clear e4
      have hF : fit7 h = (fit8 h && !(decide (2147483647 < h.prop.size))) := by unfold fit7; rw [hf4]; simp; omega
      have HF := Lib.hid hF; clear hF
      cases hf8 : fit8 h with
      | false =>
        rw [hf8] at K2 HF
        go_enter Tryd.func7, Tryd.ntmps7
        go_wp2_with fail
        refine (K1.out _).mono ?_
        rintro e w1 ⟨rfl, hb1⟩
        have hs1 := HS0.out.call hb1
        have q9 : w1.cell? ⟨w.heap.size, 9, none⟩ = some (.slice h.q0.a h.q0.s.length h.q0.c) := hs1.1.cell 9
        have q10 : w1.cell? ⟨w.heap.size, 10, none⟩ = some (.slice h.q1.a h.q1.s.length h.q1.c) := hs1.1.cell 10
        have q11 : w1.cell? ⟨w.heap.size, 11, none⟩ = some (.slice h.q2.a h.q2.s.length h.q2.c) := hs1.1.cell 11
        have q12 : w1.cell? ⟨w.heap.size, 12, none⟩ = some (.slice h.q3.a h.q3.s.length h.q3.c) := hs1.1.cell 12
        have q13 : w1.cell? ⟨w.heap.size, 13, none⟩ = some (.slice h.q4.a h.q4.s.length h.q4.c) := hs1.1.cell 13
        have q14 : w1.cell? ⟨w.heap.size, 14, none⟩ = some (.slice h.q5.a h.q5.s.length h.q5.c) := hs1.1.cell 14
        have q15 : w1.cell? ⟨w.heap.size, 15, none⟩ = some (.slice h.q6.a h.q6.s.length h.q6.c) := hs1.1.cell 15
        have q16 : w1.cell? ⟨w.heap.size, 16, none⟩ = some (.slice h.q7.a h.q7.s.length h.q7.c) := hs1.1.cell 16
        have HS1 := Lib.hid hs1; clear hb1 hs1
        go_wp2_with fail
        refine (K2.out _).mono ?_
        rintro e w2 ⟨rfl, hb2⟩
        have HS2 := Lib.hid (HS1.out.call hb2); clear hb2 q9 q10 q11 q12 q13 q14 q15 q16
        go_wp2
        go_ret
        exact ⟨ret_bool HF.out.symm, HS2.out.2⟩
      | true =>
        rw [hf8] at K2 HF
        simp only [Bool.true_and] at HF
        by_cases hp : 2147483647 < h.prop.size
        · have HF' : Hid (fit7 h = false) := by have := HF.out; show _ = _; rw [this]; simp [hp]
          go_enter Tryd.func7, Tryd.ntmps7
          go_wp2_with fail
          refine (K1.out _).mono ?_
          rintro e w1 ⟨rfl, hb1⟩
          have hs1 := HS0.out.call hb1
          have q9 : w1.cell? ⟨w.heap.size, 9, none⟩ = some (.slice h.q0.a h.q0.s.length h.q0.c) := hs1.1.cell 9
          have q10 : w1.cell? ⟨w.heap.size, 10, none⟩ = some (.slice h.q1.a h.q1.s.length h.q1.c) := hs1.1.cell 10
          have q11 : w1.cell? ⟨w.heap.size, 11, none⟩ = some (.slice h.q2.a h.q2.s.length h.q2.c) := hs1.1.cell 11
          have q12 : w1.cell? ⟨w.heap.size, 12, none⟩ = some (.slice h.q3.a h.q3.s.length h.q3.c) := hs1.1.cell 12
          have q13 : w1.cell? ⟨w.heap.size, 13, none⟩ = some (.slice h.q4.a h.q4.s.length h.q4.c) := hs1.1.cell 13
          have q14 : w1.cell? ⟨w.heap.size, 14, none⟩ = some (.slice h.q5.a h.q5.s.length h.q5.c) := hs1.1.cell 14
          have q15 : w1.cell? ⟨w.heap.size, 15, none⟩ = some (.slice h.q6.a h.q6.s.length h.q6.c) := hs1.1.cell 15
          have q16 : w1.cell? ⟨w.heap.size, 16, none⟩ = some (.slice h.q7.a h.q7.s.length h.q7.c) := hs1.1.cell 16
          have HS1 := Lib.hid hs1; clear hb1 hs1
          go_wp2_with fail
          refine (K2.out _).mono ?_
          rintro e w2 ⟨rfl, hb2⟩
          have hs2 := HS1.out.call hb2
          have q17 : w2.cell? ⟨w.heap.size, 17, none⟩ = some (.string h.prop) := hs2.1.cell 17
          have HS2 := Lib.hid hs2; clear hb2 hs2 q9 q10 q11 q12 q13 q14 q15 q16
          go_wp2
          go_ret
          exact ⟨ret_bool HF'.out.symm, HS2.out.2⟩
        · have HF' : Hid (fit7 h = true) := by have := HF.out; show _ = _; rw [this]; simp; omega
          go_enter Tryd.func7, Tryd.ntmps7
          go_wp2_with fail
          refine (K1.out _).mono ?_
          rintro e w1 ⟨rfl, hb1⟩
          have hs1 := HS0.out.call hb1
          have q9 : w1.cell? ⟨w.heap.size, 9, none⟩ = some (.slice h.q0.a h.q0.s.length h.q0.c) := hs1.1.cell 9
          have q10 : w1.cell? ⟨w.heap.size, 10, none⟩ = some (.slice h.q1.a h.q1.s.length h.q1.c) := hs1.1.cell 10
          have q11 : w1.cell? ⟨w.heap.size, 11, none⟩ = some (.slice h.q2.a h.q2.s.length h.q2.c) := hs1.1.cell 11
          have q12 : w1.cell? ⟨w.heap.size, 12, none⟩ = some (.slice h.q3.a h.q3.s.length h.q3.c) := hs1.1.cell 12
          have q13 : w1.cell? ⟨w.heap.size, 13, none⟩ = some (.slice h.q4.a h.q4.s.length h.q4.c) := hs1.1.cell 13
          have q14 : w1.cell? ⟨w.heap.size, 14, none⟩ = some (.slice h.q5.a h.q5.s.length h.q5.c) := hs1.1.cell 14
          have q15 : w1.cell? ⟨w.heap.size, 15, none⟩ = some (.slice h.q6.a h.q6.s.length h.q6.c) := hs1.1.cell 15
          have q16 : w1.cell? ⟨w.heap.size, 16, none⟩ = some (.slice h.q7.a h.q7.s.length h.q7.c) := hs1.1.cell 16
          have HS1 := Lib.hid hs1; clear hb1 hs1
          go_wp2_with fail
          refine (K2.out _).mono ?_
          rintro e w2 ⟨rfl, hb2⟩
          have hs2 := HS1.out.call hb2
          have q17 : w2.cell? ⟨w.heap.size, 17, none⟩ = some (.string h.prop) := hs2.1.cell 17
          have HS2 := Lib.hid hs2; clear hb2 hs2 q9 q10 q11 q12 q13 q14 q15 q16
          go_wp2
          go_ret
          exact ⟨ret_bool HF'.out.symm, HS2.out.2⟩
end Go.Proofs.YtikikddkhikfkaaDoor

set_option linter.all false
namespace Go.Proofs.YtikikddkhikfkaaDoor
open Go.ChangeShapes Go.WideShapes Go.ChangeAt Go.RowKit

/-- what Go's kinds hold -/
structure Hd.fitsR (h : Hd) (ver app hgt sec nan parts : Int) : Prop where
  ver : -9223372036854775808 ≤ ver ∧ ver ≤ 9223372036854775807
  app : -9223372036854775808 ≤ app ∧ app ≤ 9223372036854775807
  hgt : -9223372036854775808 ≤ hgt ∧ hgt ≤ 9223372036854775807
  sec : -9223372036854775808 ≤ sec ∧ sec ≤ 9223372036854775807
  nan : -9223372036854775808 ≤ nan ∧ nan ≤ 9223372036854775807
  parts : -9223372036854775808 ≤ parts ∧ parts ≤ 9223372036854775807
  sum : h.sum.length ≤ maxLen
  root : h.root.length ≤ maxLen
section
variable {H : Type} {enc : TypeId × Value → H}
set_option maxRecDepth 100000 in
theorem sums_read {W : World} {spare : Nat → Bool} {held : Bool} {n : Nat} {cs : List Value} {x : DataW H × List MemPlace} (h : DataW.trod enc Tryd.prog W 0 spare held n 30 cs = some x) :
    ∃ a b c d e f g i : Sb, cs = [.slice a.a a.s.length a.c, .slice b.a b.s.length b.c, .slice c.a c.s.length c.c, .slice d.a d.s.length d.c, .slice e.a e.s.length e.c, .slice f.a f.s.length f.c, .slice g.a g.s.length g.c, .slice i.a i.s.length i.c] ∧
      Rd8 W W.heap.size a.a a.s ∧ Rd8 W W.heap.size b.a b.s ∧ Rd8 W W.heap.size c.a c.s ∧ Rd8 W W.heap.size d.a d.s ∧ Rd8 W W.heap.size e.a e.s ∧ Rd8 W W.heap.size f.a f.s ∧ Rd8 W W.heap.size g.a g.s ∧ Rd8 W W.heap.size i.a i.s := by
  obtain ⟨xs, m, _, _, hlen, hxs, hf⟩ := DataW.trod_array Tryd.underlying30 h
  have hC : Tryd.prog.cellsOf 30 = 8 := by kernel_rfl
  have d3 : Tryd.prog.cellsOf 22 = 1 := by kernel_rfl
  rw [hC] at hlen
  rw [d3] at hf
  match cs, hlen with
  | [c0, c1, c2, c3, c4, c5, c6, c7], _ =>
    match xs, hxs with
    | [y0, y1, y2, y3, y4, y5, y6, y7], _ =>
      obtain ⟨A0, k0, s0, e0, _, _, r0⟩ := bytes_read Tryd.underlying22 Tryd.underlying5 (by kernel_rfl) (hf 0 (by decide))
      obtain ⟨A1, k1, s1, e1, _, _, r1⟩ := bytes_read Tryd.underlying22 Tryd.underlying5 (by kernel_rfl) (hf 1 (by decide))
      obtain ⟨A2, k2, s2, e2, _, _, r2⟩ := bytes_read Tryd.underlying22 Tryd.underlying5 (by kernel_rfl) (hf 2 (by decide))
      obtain ⟨A3, k3, s3, e3, _, _, r3⟩ := bytes_read Tryd.underlying22 Tryd.underlying5 (by kernel_rfl) (hf 3 (by decide))
      obtain ⟨A4, k4, s4, e4, _, _, r4⟩ := bytes_read Tryd.underlying22 Tryd.underlying5 (by kernel_rfl) (hf 4 (by decide))
      obtain ⟨A5, k5, s5, e5, _, _, r5⟩ := bytes_read Tryd.underlying22 Tryd.underlying5 (by kernel_rfl) (hf 5 (by decide))
      obtain ⟨A6, k6, s6, e6, _, _, r6⟩ := bytes_read Tryd.underlying22 Tryd.underlying5 (by kernel_rfl) (hf 6 (by decide))
      obtain ⟨A7, k7, s7, e7, _, _, r7⟩ := bytes_read Tryd.underlying22 Tryd.underlying5 (by kernel_rfl) (hf 7 (by decide))
      simp only [Nat.reduceMul, List.drop_zero, List.drop_succ_cons, List.take_succ_cons, List.take_zero, List.cons.injEq, and_true] at e0 e1 e2 e3 e4 e5 e6 e7
      subst e0 e1 e2 e3 e4 e5 e6 e7
      exact ⟨⟨A0, k0, s0⟩, ⟨A1, k1, s1⟩, ⟨A2, k2, s2⟩, ⟨A3, k3, s3⟩, ⟨A4, k4, s4⟩, ⟨A5, k5, s5⟩, ⟨A6, k6, s6⟩, ⟨A7, k7, s7⟩, rfl, r0, r1, r2, r3, r4, r5, r6, r7⟩
set_option maxRecDepth 100000 in
theorem header_reads {W : World} {spare : Nat → Bool} {held : Bool} {n : Nat} {cs : List Value} {x : DataW H × List MemPlace} (h : DataW.trod enc Tryd.prog W 0 spare held n 32 cs = some x) :
    ∃ (y : Hd) (ver app hgt sec nan parts : Int), cs = (y.raw ver app hgt sec nan parts).toList ∧ y.fitsR ver app hgt sec nan parts ∧ y.ok W := by
  obtain ⟨xs, m, _, _, hlen, hxs, hf⟩ := DataW.trod_struct Tryd.underlying32 h
  have hC : Tryd.prog.cellsOf 32 = 18 := by kernel_rfl
  have d0 : Tryd.prog.cellsOf 3 = 1 := by kernel_rfl
  have d1 : Tryd.prog.cellsOf 9 = 1 := by kernel_rfl
  have d2 : Tryd.prog.cellsOf 29 = 2 := by kernel_rfl
  have d3 : Tryd.prog.cellsOf 24 = 3 := by kernel_rfl
  have d4 : Tryd.prog.cellsOf 30 = 8 := by kernel_rfl
  rw [hC] at hlen
  match cs, hlen with
  | [c0, c1, c2, c3, c4, c5, c6, c7, c8, c9, c10, c11, c12, c13, c14, c15, c16, c17], _ =>
    match xs, hxs with
    | [y0, y1, y2, y3, y4, y5, y6, y7], _ =>
      have g0 := hf 0 _ rfl
      have g1 := hf 1 _ rfl
      have g2 := hf 2 _ rfl
      have g3 := hf 3 _ rfl
      have g4 := hf 4 _ rfl
      have g5 := hf 5 _ rfl
      have g6 := hf 6 _ rfl
      have g7 := hf 7 _ rfl
      simp only [d0, List.drop_zero, List.take_succ_cons, List.take_zero, List.getElem?_cons_zero] at g0
      simp only [d0, List.drop_succ_cons, List.drop_zero, List.take_succ_cons, List.take_zero, List.getElem?_cons_succ, List.getElem?_cons_zero] at g1
      simp only [d1, List.drop_succ_cons, List.drop_zero, List.take_succ_cons, List.take_zero, List.getElem?_cons_succ, List.getElem?_cons_zero] at g2
      simp only [d0, List.drop_succ_cons, List.drop_zero, List.take_succ_cons, List.take_zero, List.getElem?_cons_succ, List.getElem?_cons_zero] at g3
      simp only [d2, List.drop_succ_cons, List.drop_zero, List.take_succ_cons, List.take_zero, List.getElem?_cons_succ, List.getElem?_cons_zero] at g4
      simp only [d3, List.drop_succ_cons, List.drop_zero, List.take_succ_cons, List.take_zero, List.getElem?_cons_succ, List.getElem?_cons_zero] at g5
      simp only [d4, List.drop_succ_cons, List.drop_zero, List.take_succ_cons, List.take_zero, List.getElem?_cons_succ, List.getElem?_cons_zero] at g6
      simp only [d1, List.drop_succ_cons, List.drop_zero, List.take_succ_cons, List.take_zero, List.getElem?_cons_succ, List.getElem?_cons_zero] at g7
      obtain ⟨ver, e0, _, b0⟩ := DataW.trod_int Tryd.underlying3 g0
      obtain ⟨app, e1, _, b1⟩ := DataW.trod_int Tryd.underlying3 g1
      obtain ⟨chain, e2, _, b2⟩ := DataW.trod_string Tryd.underlying9 g2
      obtain ⟨hgt, e3, _, b3⟩ := DataW.trod_int Tryd.underlying3 g3
      obtain ⟨sec, nan, e4, b4, b5⟩ := moment_reads Tryd.underlying29 d2 ⟨rfl, d0, Tryd.underlying3⟩ ⟨rfl, d0, Tryd.underlying3⟩ g4
      obtain ⟨bk, e5, k5, o5⟩ := block_reads g5
      obtain ⟨q0, q1, q2, q3, q4, q5, q6, q7, e6, r0, r1, r2, r3, r4, r5, r6, r7⟩ := sums_read g6
      obtain ⟨prop, e7, _, b7⟩ := DataW.trod_string Tryd.underlying9 g7
      obtain ⟨S, sc, sum, parts, R, rc, root⟩ := bk
      simp only [Bk.cells] at e5
      cases e0; cases e1; cases e2; cases e3; cases e4; cases e5; cases e6; cases e7
      exact ⟨⟨0, 0, chain, 0, 0, 0, S, sc, sum, 0, R, rc, root, q0, q1, q2, q3, q4, q5, q6, q7, prop⟩, ver, app, hgt, sec, nan, parts, rfl, ⟨wf64 b0, wf64 b1, wf64 b3, b4, b5, k5.parts, Nat.le_trans k5.sum.1 k5.sum.2, Nat.le_trans k5.root.1 k5.root.2⟩, ⟨o5.1, o5.2, r0, r1, r2, r3, r4, r5, r6, r7⟩⟩
set_option maxRecDepth 100000 in
theorem open_header {W : World} {r : Reach} {b0 : Nat} {v : Value} {d : DataW H} {p : List MemPlace} (hv : Value.okWide Tryd.prog W r b0 32 v) (h : DataW.Trod enc Tryd.prog W 0 (fun _ => true) true 32 v d p) :
    ∃ (y : Hd) (ver app hgt sec nan parts : Int), v = .agg (y.raw ver app hgt sec nan parts) ∧ y.fitsR ver app hgt sec nan parts ∧ y.ok W := by
  obtain ⟨cs, rfl, hsz⟩ := okWide_struct Tryd.underlying32 hv
  obtain ⟨fuel, h⟩ := h
  obtain ⟨y, ver, app, hgt, sec, nan, parts, h1, h2, h3⟩ := header_reads h
  refine ⟨y, ver, app, hgt, sec, nan, parts, ?_, h2, h3⟩
  have e : cs.toList = (y.raw ver app hgt sec nan parts).toList := h1
  rw [show cs = y.raw ver app hgt sec nan parts from Array.toList_inj.1 e]
end
end Go.Proofs.YtikikddkhikfkaaDoor
