/-
  The sum of a header as the reference has it: spec.HeaderSum: the walk. Printed by gen_head4.py. By the session.
-/
import Derived.Test.YtikikddkhikfkaaDoorSu27
import Derived.Test.YtikikddkhikfkaaDoorSu26
import Derived.Test.YtikikddkhikfkaaDoorSu11
set_option linter.all false
namespace Go.Proofs.YtikikddkhikfkaaDoor
open Go.RowKit

def Hd.qs (h : Hd) : List Sb := [h.q0, h.q1, h.q2, h.q3, h.q4, h.q5, h.q6, h.q7]
def Hd.five (h : Hd) : List (List UInt8) := [(numB 1 h.ver ++ numB 2 h.app), (txtB 1 h.chain.data.toList), (numB 1 (u64 h.hgt)), (timeB h.sec h.nan), (blockB h.sum (h.parts : Int) h.root)]
theorem Hd.leaves_eq (h : Hd) (h1 : h.parts < 18446744073709551616) : h.leaves = h.five ++ (h.qs.map fun x => txtB 1 x.s) ++ [txtB 1 h.prop.data.toList] := by
  unfold Hd.leaves Hd.five Hd.qs blockB
  rw [u64_nat h1]; rfl
theorem Hd.qs_ok {h : Hd} {w : World} (k : h.ok w) : ∀ x ∈ h.qs, Rd w w.heap.size 1 x.a x.s.length (bc x.s) := by
  intro x hx
  simp only [Hd.qs, List.mem_cons, List.not_mem_nil, or_false] at hx
  rcases hx with rfl | rfl | rfl | rfl | rfl | rfl | rfl | rfl
  · exact k.q0
  · exact k.q1
  · exact k.q2
  · exact k.q3
  · exact k.q4
  · exact k.q5
  · exact k.q6
  · exact k.q7
theorem Hd.qs_can {h : Hd} (k : h.can) : ∀ x ∈ h.qs, x.s.length ≤ 10000000000 := by
  intro x hx
  simp only [Hd.qs, List.mem_cons, List.not_mem_nil, or_false] at hx
  rcases hx with rfl | rfl | rfl | rfl | rfl | rfl | rfl | rfl
  · exact k.q0
  · exact k.q1
  · exact k.q2
  · exact k.q3
  · exact k.q4
  · exact k.q5
  · exact k.q6
  · exact k.q7
theorem idx_qs (h : Hd) (k : Nat) (x : Sb) (hx : h.qs[k]? = some x) (W : World) : (Instr.index 30 (.agg #[.slice h.q0.a h.q0.s.length h.q0.c, .slice h.q1.a h.q1.s.length h.q1.c, .slice h.q2.a h.q2.s.length h.q2.c, .slice h.q3.a h.q3.s.length h.q3.c, .slice h.q4.a h.q4.s.length h.q4.c, .slice h.q5.a h.q5.s.length h.q5.c, .slice h.q6.a h.q6.s.length h.q6.c, .slice h.q7.a h.q7.s.length h.q7.c]) (.int .i64 (k : Int))).run Tryd.prog W = .ok (.slice x.a x.s.length x.c) W := by
  match k, hx with
  | 0, hx => obtain rfl : x = h.q0 := (Option.some.inj hx).symm; show _ = _; kernel_rfl
  | 1, hx => obtain rfl : x = h.q1 := (Option.some.inj hx).symm; show _ = _; kernel_rfl
  | 2, hx => obtain rfl : x = h.q2 := (Option.some.inj hx).symm; show _ = _; kernel_rfl
  | 3, hx => obtain rfl : x = h.q3 := (Option.some.inj hx).symm; show _ = _; kernel_rfl
  | 4, hx => obtain rfl : x = h.q4 := (Option.some.inj hx).symm; show _ = _; kernel_rfl
  | 5, hx => obtain rfl : x = h.q5 := (Option.some.inj hx).symm; show _ = _; kernel_rfl
  | 6, hx => obtain rfl : x = h.q6 := (Option.some.inj hx).symm; show _ = _; kernel_rfl
  | 7, hx => obtain rfl : x = h.q7 := (Option.some.inj hx).symm; show _ = _; kernel_rfl
  | k + 8, hx => simp [Hd.qs] at hx
inductive Gx where
  | any
  | is (v : Value)
  | own (s : List UInt8)
  | row (s : List UInt8)
  | two (s s2 : List UInt8)
  | ownL
def Gx.holds (h : Hd) (lo : Nat) : Gx → Value → World → Prop
  | .any, _, _ => True
  | .is u, v, _ => v = u
  | .own s, v, w => ∃ (A : Option Addr) (m c : Nat), v = .slice A m c ∧ Own8 w lo A m c s
  | .row s, v, w => ∃ (A : Option Addr) (m c : Nat), v = .slice A m c ∧ Rd w w.heap.size 1 A m (bc s)
  | .two s s2, v, w => ∃ (A : Option Addr) (a b : Bs), v = .slice A 2 2 ∧ a.s = s ∧ b.s = s2 ∧ Rd w w.heap.size 1 A 2 [a.val, b.val] ∧ a.ok w ∧ b.ok w
  | .ownL, v, w => ∃ (A : Option Addr) (c : Nat) (ls : List Sb), v = .slice A 5 c ∧ ls.map Sb.s = h.five ∧ w.ownsRow lo 22 1 (.slice A 5 c) 5 (ls.map Sb.cell) ∧ ∀ x ∈ ls, SbO lo w x
theorem Gx.below {h : Hd} {lo : Nat} {g : Gx} {v : Value} {w w' : World} (k : g.holds h lo v w) (hb : Below w.heap.size w w') : g.holds h lo v w' := by
  cases g with
  | any => trivial
  | is u => exact k
  | own s => obtain ⟨A, m, c, e, ho⟩ := k; exact ⟨A, m, c, e, ho.below hb (Nat.le_refl _)⟩
  | row s => obtain ⟨A, m, c, e, ho⟩ := k; exact ⟨A, m, c, e, (ho.below hb).sized⟩
  | two s s2 => obtain ⟨A, a, b, e, e1, e2, h1, h2, h3⟩ := k; exact ⟨A, a, b, e, e1, e2, (h1.below hb).sized, h2.below hb, h3.below hb⟩
  | ownL => obtain ⟨A, c, ls, e, e1, h1, h2⟩ := k; exact ⟨A, c, ls, e, e1, own_below h1 hb (Nat.le_refl _), fun x hx => (h2 x hx).below hb⟩
theorem joined_pair (s s2 : List UInt8) (A : Option Addr) (a b : Bs) (w : World) (h1 : a.s = s) (h2 : b.s = s2) (hr : Rd w w.heap.size 1 A 2 [a.val, b.val]) (ha : a.ok w) (hb : b.ok w) (hn : s.length + s2.length ≤ 50000000000) :
    Calls Tryd.prog 36 #[.slice A 2 2] w fun e w' => ∃ A m c, e = .returned (.slice A m c) ∧ Own8 w' w.heap.size A m c (s ++ s2) ∧ Below w.heap.size w w' := by
  subst h1; subst h2
  have h := joined_any [a, b] A 2 2 w hr (by
    intro x hx
    simp only [List.mem_cons, List.not_mem_nil, or_false] at hx
    rcases hx with rfl | rfl
    · exact ha
    · exact hb) (by omega) (by
    intro k
    match k with
    | 0 => simp
    | 1 => simp; omega
    | k + 2 => simp; omega)
  have e : joinB [a, b] = a.s ++ b.s := by simp [joinB]
  rw [e] at h
  exact h
theorem five_own {w : World} {lo : Nat} (hlo : lo ≤ w.heap.size) (A0 A1 A2 A3 A4 : Option Addr) (m0 m1 m2 m3 m4 c0 c1 c2 c3 c4 : Nat) (s0 s1 s2 s3 s4 : List UInt8) (h0 : Own8 w lo A0 m0 c0 s0) (h1 : Own8 w lo A1 m1 c1 s1) (h2 : Own8 w lo A2 m2 c2 s2) (h3 : Own8 w lo A3 m3 c3 s3) (h4 : Own8 w lo A4 m4 c4 s4) :
    ∃ (ls : List Sb), ls.map Sb.s = [s0, s1, s2, s3, s4] ∧ (w.alloc (.cells #[.slice A0 m0 c0, .slice A1 m1 c1, .slice A2 m2 c2, .slice A3 m3 c3, .slice A4 m4 c4] 22)).ownsRow lo 22 1 (.slice (some ⟨w.heap.size, 0, none⟩) 5 5) 5 (ls.map Sb.cell) ∧ ∀ x ∈ ls, SbO lo (w.alloc (.cells #[.slice A0 m0 c0, .slice A1 m1 c1, .slice A2 m2 c2, .slice A3 m3 c3, .slice A4 m4 c4] 22)) x := by
  have hb : Below w.heap.size w (w.alloc (.cells #[.slice A0 m0 c0, .slice A1 m1 c1, .slice A2 m2 c2, .slice A3 m3 c3, .slice A4 m4 c4] 22)) := (Below.refl _ _).alloc (Nat.le_refl _) _
  obtain ⟨k0, e0⟩ := SbO.of_own h0 (Nat.le_refl _)
  obtain ⟨k1, e1⟩ := SbO.of_own h1 (Nat.le_refl _)
  obtain ⟨k2, e2⟩ := SbO.of_own h2 (Nat.le_refl _)
  obtain ⟨k3, e3⟩ := SbO.of_own h3 (Nat.le_refl _)
  obtain ⟨k4, e4⟩ := SbO.of_own h4 (Nat.le_refl _)
  refine ⟨[⟨A0, c0, s0⟩, ⟨A1, c1, s1⟩, ⟨A2, c2, s2⟩, ⟨A3, c3, s3⟩, ⟨A4, c4, s4⟩], rfl, ⟨rfl, .inr ⟨w.heap.size, 5, _, rfl, hlo, heap_alloc_new _ _, Nat.le_refl _, by decide, rfl, ?_⟩⟩, ?_⟩
  · simp only [List.map_cons, List.map_nil, e0, e1, e2, e3, e4]; rfl
  · intro x hx
    simp only [List.mem_cons, List.not_mem_nil, or_false] at hx
    rcases hx with rfl | rfl | rfl | rfl | rfl
    · exact k0.below hb
    · exact k1.below hb
    · exact k2.below hb
    · exact k3.below hb
    · exact k4.below hb
theorem leaf_small {h : Hd} (hc : h.can) {t : List UInt8} (ht : t ∈ h.leaves) : t.length ≤ 30000000000 := leaf_len hc t ht
set_option maxRecDepth 100000 in
set_option maxHeartbeats 12800000 in
theorem shsum_any (h : Hd) (w : World) (hok : h.ok w) (hcan : h.can) :
    Calls Tryd.prog 12 #[.agg h.cells] w (MadeQ w h.sumB) := by
  have HOK := Lib.hid hok; have HC := Lib.hid hcan
  have HLV := Lib.hid (h.leaves_eq (by have := hcan.parts; omega))
  have hsx : Blk (w.alloc (.cells #[.int .i64 (h.ver : Int), .int .i64 (h.app : Int), .string h.chain, .int .i64 h.hgt, .int .i64 h.sec, .int .i64 h.nan, .slice h.S h.sum.length h.sc, .int .i64 (h.parts : Int), .slice h.R h.root.length h.rc, .slice h.q0.a h.q0.s.length h.q0.c, .slice h.q1.a h.q1.s.length h.q1.c, .slice h.q2.a h.q2.s.length h.q2.c, .slice h.q3.a h.q3.s.length h.q3.c, .slice h.q4.a h.q4.s.length h.q4.c, .slice h.q5.a h.q5.s.length h.q5.c, .slice h.q6.a h.q6.s.length h.q6.c, .slice h.q7.a h.q7.s.length h.q7.c, .string h.prop] 43)) w.heap.size 43 #[.int .i64 (h.ver : Int), .int .i64 (h.app : Int), .string h.chain, .int .i64 h.hgt, .int .i64 h.sec, .int .i64 h.nan, .slice h.S h.sum.length h.sc, .int .i64 (h.parts : Int), .slice h.R h.root.length h.rc, .slice h.q0.a h.q0.s.length h.q0.c, .slice h.q1.a h.q1.s.length h.q1.c, .slice h.q2.a h.q2.s.length h.q2.c, .slice h.q3.a h.q3.s.length h.q3.c, .slice h.q4.a h.q4.s.length h.q4.c, .slice h.q5.a h.q5.s.length h.q5.c, .slice h.q6.a h.q6.s.length h.q6.c, .slice h.q7.a h.q7.s.length h.q7.c, .string h.prop] := Blk.new w _ _
  have hbx : Below w.heap.size w (w.alloc (.cells #[.int .i64 (h.ver : Int), .int .i64 (h.app : Int), .string h.chain, .int .i64 h.hgt, .int .i64 h.sec, .int .i64 h.nan, .slice h.S h.sum.length h.sc, .int .i64 (h.parts : Int), .slice h.R h.root.length h.rc, .slice h.q0.a h.q0.s.length h.q0.c, .slice h.q1.a h.q1.s.length h.q1.c, .slice h.q2.a h.q2.s.length h.q2.c, .slice h.q3.a h.q3.s.length h.q3.c, .slice h.q4.a h.q4.s.length h.q4.c, .slice h.q5.a h.q5.s.length h.q5.c, .slice h.q6.a h.q6.s.length h.q6.c, .slice h.q7.a h.q7.s.length h.q7.c, .string h.prop] 43)) := (Below.refl _ _).alloc (Nat.le_refl _) _
  have d11 : (w.alloc (.cells #[.int .i64 (h.ver : Int), .int .i64 (h.app : Int), .string h.chain, .int .i64 h.hgt, .int .i64 h.sec, .int .i64 h.nan, .slice h.S h.sum.length h.sc, .int .i64 (h.parts : Int), .slice h.R h.root.length h.rc, .slice h.q0.a h.q0.s.length h.q0.c, .slice h.q1.a h.q1.s.length h.q1.c, .slice h.q2.a h.q2.s.length h.q2.c, .slice h.q3.a h.q3.s.length h.q3.c, .slice h.q4.a h.q4.s.length h.q4.c, .slice h.q5.a h.q5.s.length h.q5.c, .slice h.q6.a h.q6.s.length h.q6.c, .slice h.q7.a h.q7.s.length h.q7.c, .string h.prop] 43)).cell? ⟨w.heap.size, 11, none⟩ = some (.slice h.q2.a h.q2.s.length h.q2.c) := hsx.cell 11
  have HSX := Lib.hid hsx; have HBX := Lib.hid hbx
  unfold Hd.cells
  by_cases h0 : h.q2.s.length = 0
  · have hs : h.sumB = [] := by unfold Hd.sumB; rw [if_pos h0]
    have HS := Lib.hid hs
    clear hok hcan hs hsx hbx
    go_enter Tryd.func12, Tryd.ntmps12
    go_wp2_with fail
    go_ret
    exact ⟨none, 0, 0, rfl, by rw [HS.out]; exact Own8.nil _ _, (Below.refl _ _).alloc (Nat.le_refl _) _⟩
  · have hs : h.sumB = rootL h.leaves := by unfold Hd.sumB; rw [if_neg h0]
    have HS := Lib.hid hs
    obtain ⟨i0, hi0, hz0, hz1, hz2⟩ := info_parts infoBs
    have HI := Lib.hid hi0; have HZ0 := Lib.hid hz0; have HZ1 := Lib.hid hz1; have HZ2 := Lib.hid hz2
    obtain ⟨f, kc⟩ := run_conv (P := Tryd.prog) 9 22 Tryd.underlying9 Tryd.underlying22 Tryd.underlying5 h.chain
    obtain ⟨f2, kc2⟩ := run_conv (P := Tryd.prog) 9 22 Tryd.underlying9 Tryd.underlying22 Tryd.underlying5 h.prop
    have KC2 := Lib.hid kc2
    have hc0 : ((h.q2.s.length : Int) == 0) = false := by simp; exact List.ne_nil_of_length_pos (by omega)
    clear hok hcan hs hsx hbx hi0 hz0 hz1 hz2 kc2
    go_enter Tryd.func12, Tryd.ntmps12
    go_wp2_with fail
    refine wp_region_factsF 100 (fun i v w' => (([.is (.pointer (some ⟨w.heap.size, 0, none⟩)), .is (.int .i64 (h.ver : Int)), .own (numB 1 h.ver), .is (.pointer (some ⟨w.heap.size, 1, none⟩)), .is (.int .i64 (h.app : Int)), .own (numB 2 h.app), .two (numB 1 h.ver) (numB 2 h.app), .own (numB 1 h.ver ++ numB 2 h.app), .is (.pointer (some ⟨w.heap.size, 2, none⟩)), .is (.string h.chain), .row h.chain.data.toList, .own (txtB 1 h.chain.data.toList), .is (.pointer (some ⟨w.heap.size, 3, none⟩)), .is (.int .i64 h.hgt), .own (numB 1 (u64 h.hgt)), .is (.pointer (some ⟨w.heap.size, 4, none⟩)), .is (.agg #[.int .i64 h.sec, .int .i64 h.nan]), .own (timeB h.sec h.nan), .is (.pointer (some ⟨w.heap.size, 6, none⟩)), .is (.agg #[.slice h.S h.sum.length h.sc, .int .i64 (h.parts : Int), .slice h.R h.root.length h.rc]), .own (blockB h.sum (h.parts : Int) h.root), .ownL, .ownL] : List Gx).getD i .any).holds h w.heap.size v w') (fun w1 w2 => Below w1.heap.size w1 w2) (fun _ _ _ _ => Gx.below) (fun _ w' => Blk w' w.heap.size 43 #[.int .i64 (h.ver : Int), .int .i64 (h.app : Int), .string h.chain, .int .i64 h.hgt, .int .i64 h.sec, .int .i64 h.nan, .slice h.S h.sum.length h.sc, .int .i64 (h.parts : Int), .slice h.R h.root.length h.rc, .slice h.q0.a h.q0.s.length h.q0.c, .slice h.q1.a h.q1.s.length h.q1.c, .slice h.q2.a h.q2.s.length h.q2.c, .slice h.q3.a h.q3.s.length h.q3.c, .slice h.q4.a h.q4.s.length h.q4.c, .slice h.q5.a h.q5.s.length h.q5.c, .slice h.q6.a h.q6.s.length h.q6.c, .slice h.q7.a h.q7.s.length h.q7.c, .string h.prop] ∧ Below w.heap.size w w') (by kernel_rfl) (by kernel_rfl) ⟨HSX.out.drew, HBX.out.drew⟩ ?_ ?_
    · intro i o
      match i with
      | 0 =>
        intro ho b vs w4 hS4 hb hD
        obtain rfl := Option.some.inj ho
        simp only [putL, Act.put, List.setIfInBounds_toArray, List.set_cons_zero, List.set_cons_succ, Nat.zero_add, Nat.reduceAdd]
        go_simp
        exact StepF.of _ rfl rfl hS4 (Below.refl _ _)
      | 1 =>
        intro ho b vs w4 hS4 hb hD
        obtain rfl := Option.some.inj ho
        have d0 := hD 0 (by kernel_rfl) (by kernel_rfl)
        change vs 0 = _ at d0
        have q0 : w4.cell? ⟨w.heap.size, 0, none⟩ = some (.int .i64 (h.ver : Int)) := hS4.1.cell 0
        simp only [putL, Act.put, List.setIfInBounds_toArray, List.set_cons_zero, List.set_cons_succ, Nat.zero_add, Nat.reduceAdd]
        go_simp
        exact StepF.of _ rfl rfl hS4 (Below.refl _ _)
      | 2 =>
        intro ho b vs w4 hS4 hb hD
        obtain rfl := Option.some.inj ho
        have d1 := hD 1 (by kernel_rfl) (by kernel_rfl)
        change vs 1 = _ at d1
        simp only [putL, Act.put, List.setIfInBounds_toArray, List.set_cons_zero, List.set_cons_succ, Nat.zero_add, Nat.reduceAdd]
        go_simp
        have hz4 : w.heap.size ≤ w4.heap.size := Nat.le_of_lt hS4.1.lt
        refine (number_any 1 (h.ver : Int) w4 (by omega) (by have := HC.out.ver; unfold in64'; omega)).mono ?_
        rintro e w5 ⟨A', m', c', rfl, ho', hb'⟩
        exact StepF.of _ rfl ⟨A', m', c', rfl, by have h5 := ho'.more hz4; rw [u64_nat (by have := HC.out.ver; omega)] at h5; exact h5⟩ ⟨hS4.1.belowS hb', hS4.2.trans (hb'.mono hz4)⟩ hb'
      | 3 =>
        intro ho b vs w4 hS4 hb hD
        obtain rfl := Option.some.inj ho
        simp only [putL, Act.put, List.setIfInBounds_toArray, List.set_cons_zero, List.set_cons_succ, Nat.zero_add, Nat.reduceAdd]
        go_simp
        exact StepF.of _ rfl rfl hS4 (Below.refl _ _)
      | 4 =>
        intro ho b vs w4 hS4 hb hD
        obtain rfl := Option.some.inj ho
        have d3 := hD 3 (by kernel_rfl) (by kernel_rfl)
        change vs 3 = _ at d3
        have q0 : w4.cell? ⟨w.heap.size, 1, none⟩ = some (.int .i64 (h.app : Int)) := hS4.1.cell 1
        simp only [putL, Act.put, List.setIfInBounds_toArray, List.set_cons_zero, List.set_cons_succ, Nat.zero_add, Nat.reduceAdd]
        go_simp
        exact StepF.of _ rfl rfl hS4 (Below.refl _ _)
      | 5 =>
        intro ho b vs w4 hS4 hb hD
        obtain rfl := Option.some.inj ho
        have d4 := hD 4 (by kernel_rfl) (by kernel_rfl)
        change vs 4 = _ at d4
        simp only [putL, Act.put, List.setIfInBounds_toArray, List.set_cons_zero, List.set_cons_succ, Nat.zero_add, Nat.reduceAdd]
        go_simp
        have hz4 : w.heap.size ≤ w4.heap.size := Nat.le_of_lt hS4.1.lt
        refine (number_any 2 (h.app : Int) w4 (by omega) (by have := HC.out.app; unfold in64'; omega)).mono ?_
        rintro e w5 ⟨A', m', c', rfl, ho', hb'⟩
        exact StepF.of _ rfl ⟨A', m', c', rfl, by have h5 := ho'.more hz4; rw [u64_nat (by have := HC.out.app; omega)] at h5; exact h5⟩ ⟨hS4.1.belowS hb', hS4.2.trans (hb'.mono hz4)⟩ hb'
      | 6 =>
        intro ho b vs w4 hS4 hb hD
        obtain rfl := Option.some.inj ho
        obtain ⟨A2, m2, c2, d2, r2⟩ := hD 2 (by kernel_rfl) (by kernel_rfl)
        obtain ⟨A5, m5, c5, d5, r5⟩ := hD 5 (by kernel_rfl) (by kernel_rfl)
        simp only [putL, Act.put, List.setIfInBounds_toArray, List.set_cons_zero, List.set_cons_succ, Nat.zero_add, Nat.reduceAdd]
        go_simp
        have hb' : Below w4.heap.size w4 (w4.alloc (.cells #[.slice A2 m2 c2, .slice A5 m5 c5] 22)) := (Below.refl _ _).alloc (Nat.le_refl _) _
        have hrow := Rd.new w4 #[.slice A2 m2 c2, .slice A5 m5 c5] 22 1 2 w4.heap.size rfl rfl
        exact StepF.of _ rfl ⟨some ⟨w4.heap.size, 0, none⟩, ⟨A2, m2, c2, numB 1 h.ver⟩, ⟨A5, m5, c5, numB 2 h.app⟩, rfl, rfl, rfl, hrow.more (by simp), Bs.ok.below (b := ⟨A2, m2, c2, _⟩) r2.rd hb', Bs.ok.below (b := ⟨A5, m5, c5, _⟩) r5.rd hb'⟩ ⟨hS4.1.belowS hb', hS4.2.trans (hb'.mono (Nat.le_of_lt hS4.1.lt))⟩ hb'
      | 7 =>
        intro ho b vs w4 hS4 hb hD
        obtain rfl := Option.some.inj ho
        obtain ⟨A6, a6, b6, d6, e6, f6, r6, k6, l6⟩ := hD 6 (by kernel_rfl) (by kernel_rfl)
        simp only [putL, Act.put, List.setIfInBounds_toArray, List.set_cons_zero, List.set_cons_succ, Nat.zero_add, Nat.reduceAdd]
        go_simp
        have hz4 : w.heap.size ≤ w4.heap.size := Nat.le_of_lt hS4.1.lt
        refine (joined_pair _ _ A6 a6 b6 w4 e6 f6 r6 k6 l6 (by have := numB_length 1 h.ver (by have := HC.out.ver; omega); have := numB_length 2 h.app (by have := HC.out.app; omega); omega)).mono ?_
        rintro e w5 ⟨A', m', c', rfl, ho', hb'⟩
        exact StepF.of _ rfl ⟨A', m', c', rfl, ho'.more hz4⟩ ⟨hS4.1.belowS hb', hS4.2.trans (hb'.mono hz4)⟩ hb'
      | 8 =>
        intro ho b vs w4 hS4 hb hD
        obtain rfl := Option.some.inj ho
        simp only [putL, Act.put, List.setIfInBounds_toArray, List.set_cons_zero, List.set_cons_succ, Nat.zero_add, Nat.reduceAdd]
        go_simp
        exact StepF.of _ rfl rfl hS4 (Below.refl _ _)
      | 9 =>
        intro ho b vs w4 hS4 hb hD
        obtain rfl := Option.some.inj ho
        have d8 := hD 8 (by kernel_rfl) (by kernel_rfl)
        change vs 8 = _ at d8
        have q0 : w4.cell? ⟨w.heap.size, 2, none⟩ = some (.string h.chain) := hS4.1.cell 2
        simp only [putL, Act.put, List.setIfInBounds_toArray, List.set_cons_zero, List.set_cons_succ, Nat.zero_add, Nat.reduceAdd]
        go_simp
        exact StepF.of _ rfl rfl hS4 (Below.refl _ _)
      | 10 =>
        intro ho b vs w4 hS4 hb hD
        obtain rfl := Option.some.inj ho
        have d9 := hD 9 (by kernel_rfl) (by kernel_rfl)
        change vs 9 = _ at d9
        simp only [putL, Act.put, List.setIfInBounds_toArray, List.set_cons_zero, List.set_cons_succ, Nat.zero_add, Nat.reduceAdd]
        go_simp
        have hb' : Below w4.heap.size w4 (w4.alloc (bObj h.chain (f w4))).drew := ((Below.refl _ _).alloc (Nat.le_refl _) _).drew
        exact StepF.of _ rfl ⟨_, _, _, rfl, (Rd.conv w4 h.chain (f w4) _ rfl).drew.more (by simp)⟩ ⟨hS4.1.belowS hb', hS4.2.trans (hb'.mono (Nat.le_of_lt hS4.1.lt))⟩ hb'
      | 11 =>
        intro ho b vs w4 hS4 hb hD
        obtain rfl := Option.some.inj ho
        obtain ⟨A10, m10, c10, d10, r10⟩ := hD 10 (by kernel_rfl) (by kernel_rfl)
        simp only [putL, Act.put, List.setIfInBounds_toArray, List.set_cons_zero, List.set_cons_succ, Nat.zero_add, Nat.reduceAdd]
        go_simp
        have hz4 : w.heap.size ≤ w4.heap.size := Nat.le_of_lt hS4.1.lt
        refine (some_any 1 A10 m10 c10 _ w4 (by omega) r10 (by have := r10.len1; have := HC.out.chain; rw [show h.chain.data.toList.length = h.chain.size from rfl] at *; omega)).mono ?_
        rintro e w5 ⟨A', m', c', rfl, ho', hb'⟩
        exact StepF.of _ rfl ⟨A', m', c', rfl, ho'.more hz4⟩ ⟨hS4.1.belowS hb', hS4.2.trans (hb'.mono hz4)⟩ hb'
      | 12 =>
        intro ho b vs w4 hS4 hb hD
        obtain rfl := Option.some.inj ho
        simp only [putL, Act.put, List.setIfInBounds_toArray, List.set_cons_zero, List.set_cons_succ, Nat.zero_add, Nat.reduceAdd]
        go_simp
        exact StepF.of _ rfl rfl hS4 (Below.refl _ _)
      | 13 =>
        intro ho b vs w4 hS4 hb hD
        obtain rfl := Option.some.inj ho
        have d12 := hD 12 (by kernel_rfl) (by kernel_rfl)
        change vs 12 = _ at d12
        have q0 : w4.cell? ⟨w.heap.size, 3, none⟩ = some (.int .i64 h.hgt) := hS4.1.cell 3
        simp only [putL, Act.put, List.setIfInBounds_toArray, List.set_cons_zero, List.set_cons_succ, Nat.zero_add, Nat.reduceAdd]
        go_simp
        exact StepF.of _ rfl rfl hS4 (Below.refl _ _)
      | 14 =>
        intro ho b vs w4 hS4 hb hD
        obtain rfl := Option.some.inj ho
        have d13 := hD 13 (by kernel_rfl) (by kernel_rfl)
        change vs 13 = _ at d13
        simp only [putL, Act.put, List.setIfInBounds_toArray, List.set_cons_zero, List.set_cons_succ, Nat.zero_add, Nat.reduceAdd]
        go_simp
        have hz4 : w.heap.size ≤ w4.heap.size := Nat.le_of_lt hS4.1.lt
        refine (number_any 1 h.hgt w4 (by omega) (by have := HC.out.hgt; unfold in64'; omega)).mono ?_
        rintro e w5 ⟨A', m', c', rfl, ho', hb'⟩
        exact StepF.of _ rfl ⟨A', m', c', rfl, ho'.more hz4⟩ ⟨hS4.1.belowS hb', hS4.2.trans (hb'.mono hz4)⟩ hb'
      | 15 =>
        intro ho b vs w4 hS4 hb hD
        obtain rfl := Option.some.inj ho
        simp only [putL, Act.put, List.setIfInBounds_toArray, List.set_cons_zero, List.set_cons_succ, Nat.zero_add, Nat.reduceAdd]
        go_simp
        exact StepF.of _ rfl rfl hS4 (Below.refl _ _)
      | 16 =>
        intro ho b vs w4 hS4 hb hD
        obtain rfl := Option.some.inj ho
        have d15 := hD 15 (by kernel_rfl) (by kernel_rfl)
        change vs 15 = _ at d15
        have q0 : w4.cell? ⟨w.heap.size, 4, none⟩ = some (.int .i64 h.sec) := hS4.1.cell 4
        have q1 : w4.cell? ⟨w.heap.size, 5, none⟩ = some (.int .i64 h.nan) := hS4.1.cell 5
        simp only [putL, Act.put, List.setIfInBounds_toArray, List.set_cons_zero, List.set_cons_succ, Nat.zero_add, Nat.reduceAdd]
        go_simp
        exact StepF.of _ rfl rfl hS4 (Below.refl _ _)
      | 17 =>
        intro ho b vs w4 hS4 hb hD
        obtain rfl := Option.some.inj ho
        have d16 := hD 16 (by kernel_rfl) (by kernel_rfl)
        change vs 16 = _ at d16
        simp only [putL, Act.put, List.setIfInBounds_toArray, List.set_cons_zero, List.set_cons_succ, Nat.zero_add, Nat.reduceAdd]
        go_simp
        have hz4 : w.heap.size ≤ w4.heap.size := Nat.le_of_lt hS4.1.lt
        refine (stime_any h.sec h.nan w4 (by have := HC.out.sec; unfold in64'; omega) (by have := HC.out.nan; unfold in64'; omega)).mono ?_
        rintro e w5 ⟨A', m', c', rfl, ho', hb'⟩
        exact StepF.of _ rfl ⟨A', m', c', rfl, ho'.more hz4⟩ ⟨hS4.1.belowS hb', hS4.2.trans (hb'.mono hz4)⟩ hb'
      | 18 =>
        intro ho b vs w4 hS4 hb hD
        obtain rfl := Option.some.inj ho
        simp only [putL, Act.put, List.setIfInBounds_toArray, List.set_cons_zero, List.set_cons_succ, Nat.zero_add, Nat.reduceAdd]
        go_simp
        exact StepF.of _ rfl rfl hS4 (Below.refl _ _)
      | 19 =>
        intro ho b vs w4 hS4 hb hD
        obtain rfl := Option.some.inj ho
        have d18 := hD 18 (by kernel_rfl) (by kernel_rfl)
        change vs 18 = _ at d18
        have q0 : w4.cell? ⟨w.heap.size, 6, none⟩ = some (.slice h.S h.sum.length h.sc) := hS4.1.cell 6
        have q1 : w4.cell? ⟨w.heap.size, 7, none⟩ = some (.int .i64 (h.parts : Int)) := hS4.1.cell 7
        have q2 : w4.cell? ⟨w.heap.size, 8, none⟩ = some (.slice h.R h.root.length h.rc) := hS4.1.cell 8
        simp only [putL, Act.put, List.setIfInBounds_toArray, List.set_cons_zero, List.set_cons_succ, Nat.zero_add, Nat.reduceAdd]
        go_simp
        exact StepF.of _ rfl rfl hS4 (Below.refl _ _)
      | 20 =>
        intro ho b vs w4 hS4 hb hD
        obtain rfl := Option.some.inj ho
        have d19 := hD 19 (by kernel_rfl) (by kernel_rfl)
        change vs 19 = _ at d19
        simp only [putL, Act.put, List.setIfInBounds_toArray, List.set_cons_zero, List.set_cons_succ, Nat.zero_add, Nat.reduceAdd]
        go_simp
        have hz4 : w.heap.size ≤ w4.heap.size := Nat.le_of_lt hS4.1.lt
        refine (sblock_any ⟨h.S, h.sc, h.sum, (h.parts : Int), h.R, h.rc, h.root⟩ w4 ⟨(HOK.out.below hS4.2).sum, (HOK.out.below hS4.2).root⟩ (by have := HC.out.parts; show in64' (h.parts : Int); unfold in64'; omega) HC.out.sum HC.out.root).mono ?_
        rintro e w5 ⟨A', m', c', rfl, ho', hb'⟩
        exact StepF.of _ rfl ⟨A', m', c', rfl, ho'.more hz4⟩ ⟨hS4.1.belowS hb', hS4.2.trans (hb'.mono hz4)⟩ hb'
      | 21 =>
        intro ho b vs w4 hS4 hb hD
        obtain rfl := Option.some.inj ho
        obtain ⟨A7, m7, c7, d7, r7⟩ := hD 7 (by kernel_rfl) (by kernel_rfl)
        obtain ⟨A11, m11, c11, d11, r11⟩ := hD 11 (by kernel_rfl) (by kernel_rfl)
        obtain ⟨A14, m14, c14, d14, r14⟩ := hD 14 (by kernel_rfl) (by kernel_rfl)
        obtain ⟨A17, m17, c17, d17, r17⟩ := hD 17 (by kernel_rfl) (by kernel_rfl)
        obtain ⟨A20, m20, c20, d20, r20⟩ := hD 20 (by kernel_rfl) (by kernel_rfl)
        simp only [putL, Act.put, List.setIfInBounds_toArray, List.set_cons_zero, List.set_cons_succ, Nat.zero_add, Nat.reduceAdd]
        go_simp
        have hb' : Below w4.heap.size w4 (w4.alloc (.cells #[.slice A7 m7 c7, .slice A11 m11 c11, .slice A14 m14 c14, .slice A17 m17 c17, .slice A20 m20 c20] 22)) := (Below.refl _ _).alloc (Nat.le_refl _) _
        obtain ⟨ls, e1, e2, e3⟩ := five_own (Nat.le_of_lt hS4.1.lt) A7 A11 A14 A17 A20 m7 m11 m14 m17 m20 c7 c11 c14 c17 c20 _ _ _ _ _ r7 r11 r14 r17 r20
        exact StepF.of _ rfl ⟨_, _, ls, rfl, e1, e2, e3⟩ ⟨hS4.1.belowS hb', hS4.2.trans (hb'.mono (Nat.le_of_lt hS4.1.lt))⟩ hb'
      | 22 =>
        intro ho b vs w4 hS4 hb hD
        obtain rfl := Option.some.inj ho
        obtain ⟨A21, c21, l21, d21, e21, r21, k21⟩ := hD 21 (by kernel_rfl) (by kernel_rfl)
        simp only [putL, Act.put, List.setIfInBounds_toArray, List.set_cons_zero, List.set_cons_succ, Nat.zero_add, Nat.reduceAdd]
        go_simp
        exact StepF.of _ rfl ⟨A21, c21, l21, rfl, e21, r21, k21⟩ hS4 (Below.refl _ _)
      | k + 23 => intro ho; simp at ho
    · intro vs w4 hS4 hE
      obtain ⟨A0, c0, l0, e22, e0, r0, k0⟩ := hE 22 _ _ rfl rfl
      simp only [putL, Act.put, List.setIfInBounds_toArray, List.set_cons_zero, List.set_cons_succ, Nat.zero_add, Nat.reduceAdd]
      rw [e22]
      clear hE e22
      have q9 : w4.cell? ⟨w.heap.size, 9, none⟩ = some (.slice h.q0.a h.q0.s.length h.q0.c) := hS4.1.cell 9
      have q10 : w4.cell? ⟨w.heap.size, 10, none⟩ = some (.slice h.q1.a h.q1.s.length h.q1.c) := hS4.1.cell 10
      have q11 : w4.cell? ⟨w.heap.size, 11, none⟩ = some (.slice h.q2.a h.q2.s.length h.q2.c) := hS4.1.cell 11
      have q12 : w4.cell? ⟨w.heap.size, 12, none⟩ = some (.slice h.q3.a h.q3.s.length h.q3.c) := hS4.1.cell 12
      have q13 : w4.cell? ⟨w.heap.size, 13, none⟩ = some (.slice h.q4.a h.q4.s.length h.q4.c) := hS4.1.cell 13
      have q14 : w4.cell? ⟨w.heap.size, 14, none⟩ = some (.slice h.q5.a h.q5.s.length h.q5.c) := hS4.1.cell 14
      have q15 : w4.cell? ⟨w.heap.size, 15, none⟩ = some (.slice h.q6.a h.q6.s.length h.q6.c) := hS4.1.cell 15
      have q16 : w4.cell? ⟨w.heap.size, 16, none⟩ = some (.slice h.q7.a h.q7.s.length h.q7.c) := hS4.1.cell 16
      have HS4 := Lib.hid hS4; have HE0 := Lib.hid e0; have HR0 := Lib.hid r0; have HK0 := Lib.hid k0
      clear hS4 e0 r0 k0 d11
      go_wp2_with fail
      go_loopw [3, 35] (fun v i wr => ∃ (k : Nat) (A1 : Option Addr) (c1 : Nat) (ls : List Sb), k ≤ 8 ∧ i = .int .i64 k ∧ v = .slice A1 (5 + k) c1 ∧ Hid (ls.map Sb.s = h.five ++ (h.qs.take k).map fun x => txtB 1 x.s) ∧ Hid (wr.ownsRow w.heap.size 22 1 (.slice A1 (5 + k) c1) (5 + k) (ls.map Sb.cell)) ∧ Hid (∀ x ∈ ls, SbO w.heap.size wr x) ∧ Hid (Blk wr w.heap.size 43 #[.int .i64 (h.ver : Int), .int .i64 (h.app : Int), .string h.chain, .int .i64 h.hgt, .int .i64 h.sec, .int .i64 h.nan, .slice h.S h.sum.length h.sc, .int .i64 (h.parts : Int), .slice h.R h.root.length h.rc, .slice h.q0.a h.q0.s.length h.q0.c, .slice h.q1.a h.q1.s.length h.q1.c, .slice h.q2.a h.q2.s.length h.q2.c, .slice h.q3.a h.q3.s.length h.q3.c, .slice h.q4.a h.q4.s.length h.q4.c, .slice h.q5.a h.q5.s.length h.q5.c, .slice h.q6.a h.q6.s.length h.q6.c, .slice h.q7.a h.q7.s.length h.q7.c, .string h.prop]) ∧ Hid (Below w.heap.size w wr)) (fun _ i _ => 8 - (intOf i).toNat)
      case atStart => exact ⟨0, A0, c0, l0, Nat.zero_le _, rfl, rfl, Lib.hid (by rw [HE0.out]; simp), HR0.out, HK0.out, HS4.out.1, HS4.out.2⟩
      case round =>
        obtain ⟨k, A1, c1, ls, hk, rfl, rfl, HLS, HO, HIN, HBL, HB⟩ := hrel
        by_cases hlt : k < 8
        · obtain ⟨x, hx⟩ : ∃ x, h.qs[k]? = some x := ⟨_, List.getElem?_eq_getElem (show k < h.qs.length from hlt)⟩
          have hmem : x ∈ h.qs := List.mem_of_getElem? hx
          have HTK := Lib.hid (show ((h.qs.take (k + 1)).map fun x => txtB 1 x.s) = ((h.qs.take k).map fun x => txtB 1 x.s) ++ [txtB 1 x.s] by rw [List.take_succ, hx]; simp)
          have hix := fun W => idx_qs h k x hx W
          have KS := Lib.hid (fun (W : World) (hW : Below w.heap.size w W) => some_any 1 x.a x.s.length x.c x.s W (by omega) (Hd.qs_ok (HOK.out.below hW) x hmem) (by have := Hd.qs_can HC.out x hmem; omega))
          clear hx hmem q9 q10 q11 q12 q13 q14 q15 q16
          go_wp2_with fail
          refine (KS.out wr HB.out).mono ?_
          rintro e W6 ⟨A6, m6, c6, rfl, ho6, hb6⟩
          have ho6' : Own8 W6 w.heap.size A6 m6 c6 (txtB 1 x.s) := ho6.more HB.out.size
          have HB6 := Lib.hid hb6; have HO6 := Lib.hid ho6'
          have hb67 : Below W6.heap.size W6 (W6.alloc (.cells #[.slice A6 m6 c6] 22)) := (Below.refl _ _).alloc (Nat.le_refl _) _
          have hr7 := Rd.new W6 #[.slice A6 m6 c6] 22 1 1 W6.heap.size rfl rfl
          have hB7 := HB6.out.trans (hb67.mono HB6.out.size)
          have hro7 := own_below HO.out hB7 (Nat.le_refl _)
          have ho7 := HO6.out.below hb67 (Nat.le_refl _)
          have hwz : w.heap.size ≤ (W6.alloc (.cells #[.slice A6 m6 c6] 22)).heap.size := Nat.le_trans HB.out.size hB7.size
          have HB7 := Lib.hid hB7; have HO7 := Lib.hid ho7; have HR7 := Lib.hid hr7; have HRO7 := Lib.hid hro7; have HWZ := Lib.hid hwz
          clear ho6 hb6 ho6' hb67 hr7 hB7 hro7 ho7 hwz
          go_wp2_with (at_builtin; refine wpList_app _ rfl (.tmp 38) (.tmp 41) 61 rfl w.heap.size 22 i0 _ 1 24 Tryd.underlying61 HI.out HZ0.out HZ1.out HZ2.out rfl (by decide) (.slice A1 (5 + k) c1) (5 + k) (ls.map Sb.cell) rfl HRO7.out (W6.heap.size + 1) (some ⟨W6.heap.size, 0, none⟩) 1 1 [.slice A6 m6 c6] rfl HR7.out ?q0 ?q1 ?q2 HWZ.out ?_; (case q0 => intro u hu; rw [List.mem_singleton] at hu; rw [hu]; rfl); (case q1 => simp only [maxLen]; omega); (case q2 => omega); intro A8 c8 W8 hown8 hg8 _)
          obtain ⟨hin9, hcell⟩ := SbO.of_own (lo := w.heap.size) HO7.out (Nat.le_refl _)
          obtain ⟨x9, hx9⟩ : ∃ x9 : Sb, x9 = ⟨A6, c6, txtB 1 x.s⟩ := ⟨_, rfl⟩
          rw [← hx9] at hin9 hcell
          have hrow := hown8
          rw [← hcell] at hrow
          have hwb : Below w.heap.size w W8 := (HB.out.trans (HB7.out.mono HB.out.size)).grown hg8 HWZ.out (own_base HRO7.out)
          have hbl8 : Blk W8 w.heap.size 43 #[.int .i64 (h.ver : Int), .int .i64 (h.app : Int), .string h.chain, .int .i64 h.hgt, .int .i64 h.sec, .int .i64 h.nan, .slice h.S h.sum.length h.sc, .int .i64 (h.parts : Int), .slice h.R h.root.length h.rc, .slice h.q0.a h.q0.s.length h.q0.c, .slice h.q1.a h.q1.s.length h.q1.c, .slice h.q2.a h.q2.s.length h.q2.c, .slice h.q3.a h.q3.s.length h.q3.c, .slice h.q4.a h.q4.s.length h.q4.c, .slice h.q5.a h.q5.s.length h.q5.c, .slice h.q6.a h.q6.s.length h.q6.c, .slice h.q7.a h.q7.s.length h.q7.c, .string h.prop] := (HBL.out.belowS HB7.out).grown hg8 (fun e => by
            rcases HRO7.out.2 with ⟨h1, _⟩ | ⟨g1, cap1, cur1, h1, _, h2, _⟩
            · rw [h1] at e; cases e
            · rw [h1] at e; simp only [Value.ownBlock, Option.some.injEq] at e; exact Blk.ne (HBL.out.belowS HB7.out) h2 (by decide) e)
          have hls : (ls ++ [x9]).map Sb.s = h.five ++ (h.qs.take (k + 1)).map fun x => txtB 1 x.s := by
            rw [List.map_append, HLS.out, HTK.out, hx9, List.append_assoc]; rfl
          have hrow2 : W8.ownsRow w.heap.size 22 1 (.slice A8 (5 + (k + 1)) c8) (5 + (k + 1)) ((ls ++ [x9]).map Sb.cell) := by rw [List.map_append]; exact hrow
          have hin2 : ∀ y ∈ ls ++ [x9], SbO w.heap.size W8 y := by
            intro y hy
            rw [List.mem_append, List.mem_singleton] at hy
            rcases hy with hy | hy
            · exact ((HIN.out y hy).below HB7.out).grown hg8 HRO7.out
            · rw [hy]; exact hin9.grown hg8 HRO7.out
          clear hrow hin9 hcell hown8 hix
          go_roundw
          case rel => exact ⟨k + 1, A8, c8, ls ++ [x9], by omega, by go_num, rfl, hls, hrow2, hin2, hbl8, hwb⟩
          case measure => simp [intOf]; omega
        · obtain rfl : k = 8 := by omega
          have kc2 := KC2.out
          have q17 : wr.cell? ⟨w.heap.size, 17, none⟩ = some (.string h.prop) := HBL.out.cell 17
          clear q9 q10 q11 q12 q13 q14 q15 q16
          go_wp2_with fail
          have hbc : Below wr.heap.size wr (wr.alloc (bObj h.prop (f2 wr))).drew := ((Below.refl _ _).alloc (Nat.le_refl _) _).drew
          have hr1 : Rd (wr.alloc (bObj h.prop (f2 wr))).drew (wr.alloc (bObj h.prop (f2 wr))).drew.heap.size 1 (some ⟨wr.heap.size, 0, none⟩) h.prop.size (bc h.prop.data.toList) := (Rd.conv wr h.prop (f2 wr) _ rfl).drew.more (by simp)
          refine (some_any 1 _ h.prop.size (f2 wr) h.prop.data.toList _ (by decide) hr1 (by have := HC.out.prop; omega)).mono ?_
          rintro e W6 ⟨A6, m6, c6, rfl, ho6, hb6⟩
          have hb06 := hbc.trans (hb6.mono hbc.size)
          have ho6' : Own8 W6 w.heap.size A6 m6 c6 (txtB 1 h.prop.data.toList) := ho6.more (Nat.le_trans HB.out.size hbc.size)
          have HB6 := Lib.hid hb06; have HO6 := Lib.hid ho6'
          have hb67 : Below W6.heap.size W6 (W6.alloc (.cells #[.slice A6 m6 c6] 22)) := (Below.refl _ _).alloc (Nat.le_refl _) _
          have hr7 := Rd.new W6 #[.slice A6 m6 c6] 22 1 1 W6.heap.size rfl rfl
          have hB7 := HB6.out.trans (hb67.mono HB6.out.size)
          have hro7 := own_below HO.out hB7 (Nat.le_refl _)
          have ho7 := HO6.out.below hb67 (Nat.le_refl _)
          have hwz : w.heap.size ≤ (W6.alloc (.cells #[.slice A6 m6 c6] 22)).heap.size := Nat.le_trans HB.out.size hB7.size
          have HB7 := Lib.hid hB7; have HO7 := Lib.hid ho7; have HR7 := Lib.hid hr7; have HRO7 := Lib.hid hro7; have HWZ := Lib.hid hwz
          clear ho6 hb6 ho6' hb67 hr7 hB7 hro7 ho7 hwz hbc hr1 hb06 kc2 q17
          go_wp2_with (at_builtin; refine wpList_app _ rfl (.tmp 44) (.tmp 49) 61 rfl w.heap.size 22 i0 _ 1 24 Tryd.underlying61 HI.out HZ0.out HZ1.out HZ2.out rfl (by decide) (.slice A1 (5 + 8) c1) (5 + 8) (ls.map Sb.cell) rfl HRO7.out (W6.heap.size + 1) (some ⟨W6.heap.size, 0, none⟩) 1 1 [.slice A6 m6 c6] rfl HR7.out ?q0 ?q1 ?q2 HWZ.out ?_; (case q0 => intro u hu; rw [List.mem_singleton] at hu; rw [hu]; rfl); (case q1 => simp only [maxLen]; omega); (case q2 => omega); intro A8 c8 W8 hown8 hg8 _)
          obtain ⟨hin9, hcell⟩ := SbO.of_own (lo := w.heap.size) HO7.out (Nat.le_refl _)
          obtain ⟨x9, hx9⟩ : ∃ x9 : Sb, x9 = ⟨A6, c6, txtB 1 h.prop.data.toList⟩ := ⟨_, rfl⟩
          rw [← hx9] at hin9 hcell
          rw [← hcell] at hown8
          have hwb : Below w.heap.size w W8 := (HB.out.trans (HB7.out.mono HB.out.size)).grown hg8 HWZ.out (own_base HRO7.out)
          have hrow2 : W8.ownsRow w.heap.size 22 1 (.slice A8 14 c8) 14 ((ls ++ [x9]).map Sb.cell) := by rw [List.map_append]; exact hown8
          have hin2 : ∀ y ∈ ls ++ [x9], SbO w.heap.size W8 y := by
            intro y hy
            rw [List.mem_append, List.mem_singleton] at hy
            rcases hy with hy | hy
            · exact ((HIN.out y hy).below HB7.out).grown hg8 HRO7.out
            · rw [hy]; exact hin9.grown hg8 HRO7.out
          have hmap : (ls ++ [x9]).map Sb.s = h.leaves := by rw [List.map_append, HLS.out, HLV.out, hx9, List.take_of_length_le (by simp [Hd.qs])]; rfl
          have hbig : ∀ x ∈ ls ++ [x9], x.s.length ≤ 30000000000 := fun x hx => by
            have h1 : x.s ∈ (ls ++ [x9]).map Sb.s := List.mem_map_of_mem hx
            rw [hmap] at h1
            exact leaf_len HC.out _ h1
          have hcap : 14 ≤ c8 := by
            rcases hrow2.2 with ⟨h1, h2⟩ | ⟨g, cap, cur, hv, _, _, h2, _⟩
            · omega
            · injection hv with _ _ h3; omega
          have hrd := rdB_own hrow2 hin2
          have hlen := hrd.len
          refine (sroot_any 14 (ls ++ [x9]) hlen (by omega) hbig A8 c8 W8 hrd hcap).mono ?_
          rintro e w6 ⟨A9, m9, c9, rfl, ho9, hb9⟩
          have HO9 := Lib.hid (ho9.more hwb.size); have HB9 := Lib.hid (hwb.trans (hb9.mono hwb.size))
          have HMAP := Lib.hid hmap
          clear ho9 hb9 hrd hlen hcap hbig hmap hin2 hrow2 hwb hcell hown8
          go_wp2_with fail
          go_ret
          refine ⟨A9, m9, c9, rfl, ?_, HB9.out⟩
          rw [HS.out, ← HMAP.out]; exact HO9.out
end Go.Proofs.YtikikddkhikfkaaDoor
