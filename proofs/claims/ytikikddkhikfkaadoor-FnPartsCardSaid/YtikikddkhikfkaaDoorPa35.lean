/-
  The sum of a header as the reference has it: spec.HeaderSum: the walk. Printed by gen_head4.py. By the session. Sizes of a header: laws.zzFits8, zzFits7: walks. By the session. FnSums: the world's shape while both sums are made: two boxed variables, the reference's commit, two rows of what is said. By the session. A part's proof: computeRootHash: the walk. By the session. bytes.Equal over rows that read; errors.New: walks. By the session. A part's proof proves its bytes just if the leaf's sum is theirs: (*Proof).Verify: the walk. Printed by gen_verify.py. By the session.
-/
import Derived.Test.YtikikddkhikfkaaDoorPa34
import Derived.Test.YtikikddkhikfkaaDoorPa32
import Derived.Test.YtikikddkhikfkaaDoorPa6
import Derived.Test.YtikikddkhikfkaaDoorPa24
import Derived.Test.YtikikddkhikfkaaDoorPa26
import Derived.Test.YtikikddkhikfkaaDoorPa5
import Derived.Laws.Rows
import Derived.Laws.CopyOwn
import Derived.Test.YtikikddkhikfkaaDoorPa14
import Derived.Test.YtikikddkhikfkaaDoorPa12
set_option linter.all false
namespace Go.Proofs.YtikikddkhikfkaaDoor
open Go.RowKit

def Hd.qs (h : Hd) : List Sb := [h.q0, h.q1, h.q2, h.q3, h.q4, h.q5, h.q6, h.q7]
def Hd.five (h : Hd) : List (List UInt8) := [(numB 1 h.ver ++ numB 2 h.app), (txtB 1 h.chain.data.toList), (numB 1 (u64 h.hgt)), (timeB h.sec h.nan), (blockB h.sum (h.parts : Int) h.root)]
theorem Hd.leaves_eq (h : Hd) (h1 : h.parts < 18446744073709551616) : h.leaves = h.five ++ (h.qs.map fun x => txtB 1 x.s) ++ [txtB 1 h.prop.data.toList] := by
  unfold Hd.leaves Hd.five Hd.qs blockB
  rw [u64_nat h1]; rfl
theorem Hd.qs_ok {h : Hd} {w : World} (k : h.ok w) : ∀ x ∈ h.qs, Rd w w.heap.size 1 x.a x.s.length (bc x.s) := by
  intro x hx
  simp only [Hd.qs, List.mem_cons, List.not_mem_nil, or_false] at hx
  rcases hx with rfl | rfl | rfl | rfl | rfl | rfl | rfl | rfl
  · exact k.q0
  · exact k.q1
  · exact k.q2
  · exact k.q3
  · exact k.q4
  · exact k.q5
  · exact k.q6
  · exact k.q7
theorem Hd.qs_can {h : Hd} (k : h.can) : ∀ x ∈ h.qs, x.s.length ≤ 10000000000 := by
  intro x hx
  simp only [Hd.qs, List.mem_cons, List.not_mem_nil, or_false] at hx
  rcases hx with rfl | rfl | rfl | rfl | rfl | rfl | rfl | rfl
  · exact k.q0
  · exact k.q1
  · exact k.q2
  · exact k.q3
  · exact k.q4
  · exact k.q5
  · exact k.q6
  · exact k.q7
theorem idx_qs (h : Hd) (k : Nat) (x : Sb) (hx : h.qs[k]? = some x) (W : World) : (Instr.index 30 (.agg #[.slice h.q0.a h.q0.s.length h.q0.c, .slice h.q1.a h.q1.s.length h.q1.c, .slice h.q2.a h.q2.s.length h.q2.c, .slice h.q3.a h.q3.s.length h.q3.c, .slice h.q4.a h.q4.s.length h.q4.c, .slice h.q5.a h.q5.s.length h.q5.c, .slice h.q6.a h.q6.s.length h.q6.c, .slice h.q7.a h.q7.s.length h.q7.c]) (.int .i64 (k : Int))).run Tryd.prog W = .ok (.slice x.a x.s.length x.c) W := by
  match k, hx with
  | 0, hx => obtain rfl : x = h.q0 := (Option.some.inj hx).symm; show _ = _; kernel_rfl
  | 1, hx => obtain rfl : x = h.q1 := (Option.some.inj hx).symm; show _ = _; kernel_rfl
  | 2, hx => obtain rfl : x = h.q2 := (Option.some.inj hx).symm; show _ = _; kernel_rfl
  | 3, hx => obtain rfl : x = h.q3 := (Option.some.inj hx).symm; show _ = _; kernel_rfl
  | 4, hx => obtain rfl : x = h.q4 := (Option.some.inj hx).symm; show _ = _; kernel_rfl
  | 5, hx => obtain rfl : x = h.q5 := (Option.some.inj hx).symm; show _ = _; kernel_rfl
  | 6, hx => obtain rfl : x = h.q6 := (Option.some.inj hx).symm; show _ = _; kernel_rfl
  | 7, hx => obtain rfl : x = h.q7 := (Option.some.inj hx).symm; show _ = _; kernel_rfl
  | k + 8, hx => simp [Hd.qs] at hx
inductive Gx where
  | any
  | is (v : Value)
  | own (s : List UInt8)
  | row (s : List UInt8)
  | two (s s2 : List UInt8)
  | ownL
def Gx.holds (h : Hd) (lo : Nat) : Gx → Value → World → Prop
  | .any, _, _ => True
  | .is u, v, _ => v = u
  | .own s, v, w => ∃ (A : Option Addr) (m c : Nat), v = .slice A m c ∧ Own8 w lo A m c s
  | .row s, v, w => ∃ (A : Option Addr) (m c : Nat), v = .slice A m c ∧ Rd w w.heap.size 1 A m (bc s)
  | .two s s2, v, w => ∃ (A : Option Addr) (a b : Bs), v = .slice A 2 2 ∧ a.s = s ∧ b.s = s2 ∧ Rd w w.heap.size 1 A 2 [a.val, b.val] ∧ a.ok w ∧ b.ok w
  | .ownL, v, w => ∃ (A : Option Addr) (c : Nat) (ls : List Sb), v = .slice A 5 c ∧ ls.map Sb.s = h.five ∧ w.ownsRow lo 22 1 (.slice A 5 c) 5 (ls.map Sb.cell) ∧ ∀ x ∈ ls, SbO lo w x
theorem Gx.below {h : Hd} {lo : Nat} {g : Gx} {v : Value} {w w' : World} (k : g.holds h lo v w) (hb : Below w.heap.size w w') : g.holds h lo v w' := by
  cases g with
  | any => trivial
  | is u => exact k
  | own s => obtain ⟨A, m, c, e, ho⟩ := k; exact ⟨A, m, c, e, ho.below hb (Nat.le_refl _)⟩
  | row s => obtain ⟨A, m, c, e, ho⟩ := k; exact ⟨A, m, c, e, (ho.below hb).sized⟩
  | two s s2 => obtain ⟨A, a, b, e, e1, e2, h1, h2, h3⟩ := k; exact ⟨A, a, b, e, e1, e2, (h1.below hb).sized, h2.below hb, h3.below hb⟩
  | ownL => obtain ⟨A, c, ls, e, e1, h1, h2⟩ := k; exact ⟨A, c, ls, e, e1, own_below h1 hb (Nat.le_refl _), fun x hx => (h2 x hx).below hb⟩
theorem joined_pair (s s2 : List UInt8) (A : Option Addr) (a b : Bs) (w : World) (h1 : a.s = s) (h2 : b.s = s2) (hr : Rd w w.heap.size 1 A 2 [a.val, b.val]) (ha : a.ok w) (hb : b.ok w) (hn : s.length + s2.length ≤ 50000000000) :
    Calls Tryd.prog 36 #[.slice A 2 2] w fun e w' => ∃ A m c, e = .returned (.slice A m c) ∧ Own8 w' w.heap.size A m c (s ++ s2) ∧ Below w.heap.size w w' := by
  subst h1; subst h2
  have h := joined_any [a, b] A 2 2 w hr (by
    intro x hx
    simp only [List.mem_cons, List.not_mem_nil, or_false] at hx
    rcases hx with rfl | rfl
    · exact ha
    · exact hb) (by omega) (by
    intro k
    match k with
    | 0 => simp
    | 1 => simp; omega
    | k + 2 => simp; omega)
  have e : joinB [a, b] = a.s ++ b.s := by simp [joinB]
  rw [e] at h
  exact h
theorem five_own {w : World} {lo : Nat} (hlo : lo ≤ w.heap.size) (A0 A1 A2 A3 A4 : Option Addr) (m0 m1 m2 m3 m4 c0 c1 c2 c3 c4 : Nat) (s0 s1 s2 s3 s4 : List UInt8) (h0 : Own8 w lo A0 m0 c0 s0) (h1 : Own8 w lo A1 m1 c1 s1) (h2 : Own8 w lo A2 m2 c2 s2) (h3 : Own8 w lo A3 m3 c3 s3) (h4 : Own8 w lo A4 m4 c4 s4) :
    ∃ (ls : List Sb), ls.map Sb.s = [s0, s1, s2, s3, s4] ∧ (w.alloc (.cells #[.slice A0 m0 c0, .slice A1 m1 c1, .slice A2 m2 c2, .slice A3 m3 c3, .slice A4 m4 c4] 22)).ownsRow lo 22 1 (.slice (some ⟨w.heap.size, 0, none⟩) 5 5) 5 (ls.map Sb.cell) ∧ ∀ x ∈ ls, SbO lo (w.alloc (.cells #[.slice A0 m0 c0, .slice A1 m1 c1, .slice A2 m2 c2, .slice A3 m3 c3, .slice A4 m4 c4] 22)) x := by
  have hb : Below w.heap.size w (w.alloc (.cells #[.slice A0 m0 c0, .slice A1 m1 c1, .slice A2 m2 c2, .slice A3 m3 c3, .slice A4 m4 c4] 22)) := (Below.refl _ _).alloc (Nat.le_refl _) _
  obtain ⟨k0, e0⟩ := SbO.of_own h0 (Nat.le_refl _)
  obtain ⟨k1, e1⟩ := SbO.of_own h1 (Nat.le_refl _)
  obtain ⟨k2, e2⟩ := SbO.of_own h2 (Nat.le_refl _)
  obtain ⟨k3, e3⟩ := SbO.of_own h3 (Nat.le_refl _)
  obtain ⟨k4, e4⟩ := SbO.of_own h4 (Nat.le_refl _)
  refine ⟨[⟨A0, c0, s0⟩, ⟨A1, c1, s1⟩, ⟨A2, c2, s2⟩, ⟨A3, c3, s3⟩, ⟨A4, c4, s4⟩], rfl, ⟨rfl, .inr ⟨w.heap.size, 5, _, rfl, hlo, heap_alloc_new _ _, Nat.le_refl _, by decide, rfl, ?_⟩⟩, ?_⟩
  · simp only [List.map_cons, List.map_nil, e0, e1, e2, e3, e4]; rfl
  · intro x hx
    simp only [List.mem_cons, List.not_mem_nil, or_false] at hx
    rcases hx with rfl | rfl | rfl | rfl | rfl
    · exact k0.below hb
    · exact k1.below hb
    · exact k2.below hb
    · exact k3.below hb
    · exact k4.below hb
theorem leaf_small {h : Hd} (hc : h.can) {t : List UInt8} (ht : t ∈ h.leaves) : t.length ≤ 30000000000 := leaf_len hc t ht
set_option maxRecDepth 100000 in
set_option maxHeartbeats 12800000 in
theorem shsum_any (h : Hd) (w : World) (hok : h.ok w) (hcan : h.can) :
    Calls Tryd.prog 12 #[.agg h.cells] w (MadeQ w h.sumB) := by
  have HOK := Lib.hid hok; have HC := Lib.hid hcan
  have HLV := Lib.hid (h.leaves_eq (by have := hcan.parts; omega))
  have hsx : Blk (w.alloc (.cells #[.int .i64 (h.ver : Int), .int .i64 (h.app : Int), .string h.chain, .int .i64 h.hgt, .int .i64 h.sec, .int .i64 h.nan, .slice h.S h.sum.length h.sc, .int .i64 (h.parts : Int), .slice h.R h.root.length h.rc, .slice h.q0.a h.q0.s.length h.q0.c, .slice h.q1.a h.q1.s.length h.q1.c, .slice h.q2.a h.q2.s.length h.q2.c, .slice h.q3.a h.q3.s.length h.q3.c, .slice h.q4.a h.q4.s.length h.q4.c, .slice h.q5.a h.q5.s.length h.q5.c, .slice h.q6.a h.q6.s.length h.q6.c, .slice h.q7.a h.q7.s.length h.q7.c, .string h.prop] 43)) w.heap.size 43 #[.int .i64 (h.ver : Int), .int .i64 (h.app : Int), .string h.chain, .int .i64 h.hgt, .int .i64 h.sec, .int .i64 h.nan, .slice h.S h.sum.length h.sc, .int .i64 (h.parts : Int), .slice h.R h.root.length h.rc, .slice h.q0.a h.q0.s.length h.q0.c, .slice h.q1.a h.q1.s.length h.q1.c, .slice h.q2.a h.q2.s.length h.q2.c, .slice h.q3.a h.q3.s.length h.q3.c, .slice h.q4.a h.q4.s.length h.q4.c, .slice h.q5.a h.q5.s.length h.q5.c, .slice h.q6.a h.q6.s.length h.q6.c, .slice h.q7.a h.q7.s.length h.q7.c, .string h.prop] := Blk.new w _ _
  have hbx : Below w.heap.size w (w.alloc (.cells #[.int .i64 (h.ver : Int), .int .i64 (h.app : Int), .string h.chain, .int .i64 h.hgt, .int .i64 h.sec, .int .i64 h.nan, .slice h.S h.sum.length h.sc, .int .i64 (h.parts : Int), .slice h.R h.root.length h.rc, .slice h.q0.a h.q0.s.length h.q0.c, .slice h.q1.a h.q1.s.length h.q1.c, .slice h.q2.a h.q2.s.length h.q2.c, .slice h.q3.a h.q3.s.length h.q3.c, .slice h.q4.a h.q4.s.length h.q4.c, .slice h.q5.a h.q5.s.length h.q5.c, .slice h.q6.a h.q6.s.length h.q6.c, .slice h.q7.a h.q7.s.length h.q7.c, .string h.prop] 43)) := (Below.refl _ _).alloc (Nat.le_refl _) _
  have d11 : (w.alloc (.cells #[.int .i64 (h.ver : Int), .int .i64 (h.app : Int), .string h.chain, .int .i64 h.hgt, .int .i64 h.sec, .int .i64 h.nan, .slice h.S h.sum.length h.sc, .int .i64 (h.parts : Int), .slice h.R h.root.length h.rc, .slice h.q0.a h.q0.s.length h.q0.c, .slice h.q1.a h.q1.s.length h.q1.c, .slice h.q2.a h.q2.s.length h.q2.c, .slice h.q3.a h.q3.s.length h.q3.c, .slice h.q4.a h.q4.s.length h.q4.c, .slice h.q5.a h.q5.s.length h.q5.c, .slice h.q6.a h.q6.s.length h.q6.c, .slice h.q7.a h.q7.s.length h.q7.c, .string h.prop] 43)).cell? ⟨w.heap.size, 11, none⟩ = some (.slice h.q2.a h.q2.s.length h.q2.c) := hsx.cell 11
  have HSX := Lib.hid hsx; have HBX := Lib.hid hbx
  unfold Hd.cells
  by_cases h0 : h.q2.s.length = 0
  · have hs : h.sumB = [] := by unfold Hd.sumB; rw [if_pos h0]
    have HS := Lib.hid hs
    clear hok hcan hs hsx hbx
    go_enter Tryd.func12, Tryd.ntmps12
    go_wp2_with fail
    go_ret
    exact ⟨none, 0, 0, rfl, by rw [HS.out]; exact Own8.nil _ _, (Below.refl _ _).alloc (Nat.le_refl _) _⟩
  · have hs : h.sumB = rootL h.leaves := by unfold Hd.sumB; rw [if_neg h0]
    have HS := Lib.hid hs
    obtain ⟨i0, hi0, hz0, hz1, hz2⟩ := info_parts infoBs
    have HI := Lib.hid hi0; have HZ0 := Lib.hid hz0; have HZ1 := Lib.hid hz1; have HZ2 := Lib.hid hz2
    obtain ⟨f, kc⟩ := run_conv (P := Tryd.prog) 9 22 Tryd.underlying9 Tryd.underlying22 Tryd.underlying5 h.chain
    obtain ⟨f2, kc2⟩ := run_conv (P := Tryd.prog) 9 22 Tryd.underlying9 Tryd.underlying22 Tryd.underlying5 h.prop
    have KC2 := Lib.hid kc2
    have hc0 : ((h.q2.s.length : Int) == 0) = false := by simp; exact List.ne_nil_of_length_pos (by omega)
    clear hok hcan hs hsx hbx hi0 hz0 hz1 hz2 kc2
    go_enter Tryd.func12, Tryd.ntmps12
    go_wp2_with fail
    refine wp_region_factsF 100 (fun i v w' => (([.is (.pointer (some ⟨w.heap.size, 0, none⟩)), .is (.int .i64 (h.ver : Int)), .own (numB 1 h.ver), .is (.pointer (some ⟨w.heap.size, 1, none⟩)), .is (.int .i64 (h.app : Int)), .own (numB 2 h.app), .two (numB 1 h.ver) (numB 2 h.app), .own (numB 1 h.ver ++ numB 2 h.app), .is (.pointer (some ⟨w.heap.size, 2, none⟩)), .is (.string h.chain), .row h.chain.data.toList, .own (txtB 1 h.chain.data.toList), .is (.pointer (some ⟨w.heap.size, 3, none⟩)), .is (.int .i64 h.hgt), .own (numB 1 (u64 h.hgt)), .is (.pointer (some ⟨w.heap.size, 4, none⟩)), .is (.agg #[.int .i64 h.sec, .int .i64 h.nan]), .own (timeB h.sec h.nan), .is (.pointer (some ⟨w.heap.size, 6, none⟩)), .is (.agg #[.slice h.S h.sum.length h.sc, .int .i64 (h.parts : Int), .slice h.R h.root.length h.rc]), .own (blockB h.sum (h.parts : Int) h.root), .ownL, .ownL] : List Gx).getD i .any).holds h w.heap.size v w') (fun w1 w2 => Below w1.heap.size w1 w2) (fun _ _ _ _ => Gx.below) (fun _ w' => Blk w' w.heap.size 43 #[.int .i64 (h.ver : Int), .int .i64 (h.app : Int), .string h.chain, .int .i64 h.hgt, .int .i64 h.sec, .int .i64 h.nan, .slice h.S h.sum.length h.sc, .int .i64 (h.parts : Int), .slice h.R h.root.length h.rc, .slice h.q0.a h.q0.s.length h.q0.c, .slice h.q1.a h.q1.s.length h.q1.c, .slice h.q2.a h.q2.s.length h.q2.c, .slice h.q3.a h.q3.s.length h.q3.c, .slice h.q4.a h.q4.s.length h.q4.c, .slice h.q5.a h.q5.s.length h.q5.c, .slice h.q6.a h.q6.s.length h.q6.c, .slice h.q7.a h.q7.s.length h.q7.c, .string h.prop] ∧ Below w.heap.size w w') (by kernel_rfl) (by kernel_rfl) ⟨HSX.out.drew, HBX.out.drew⟩ ?_ ?_
    · intro i o
      match i with
      | 0 =>
        intro ho b vs w4 hS4 hb hD
        obtain rfl := Option.some.inj ho
        simp only [putL, Act.put, List.setIfInBounds_toArray, List.set_cons_zero, List.set_cons_succ, Nat.zero_add, Nat.reduceAdd]
        go_simp
        exact StepF.of _ rfl rfl hS4 (Below.refl _ _)
      | 1 =>
        intro ho b vs w4 hS4 hb hD
        obtain rfl := Option.some.inj ho
        have d0 := hD 0 (by kernel_rfl) (by kernel_rfl)
        change vs 0 = _ at d0
        have q0 : w4.cell? ⟨w.heap.size, 0, none⟩ = some (.int .i64 (h.ver : Int)) := hS4.1.cell 0
        simp only [putL, Act.put, List.setIfInBounds_toArray, List.set_cons_zero, List.set_cons_succ, Nat.zero_add, Nat.reduceAdd]
        go_simp
        exact StepF.of _ rfl rfl hS4 (Below.refl _ _)
      | 2 =>
        intro ho b vs w4 hS4 hb hD
        obtain rfl := Option.some.inj ho
        have d1 := hD 1 (by kernel_rfl) (by kernel_rfl)
        change vs 1 = _ at d1
        simp only [putL, Act.put, List.setIfInBounds_toArray, List.set_cons_zero, List.set_cons_succ, Nat.zero_add, Nat.reduceAdd]
        go_simp
        have hz4 : w.heap.size ≤ w4.heap.size := Nat.le_of_lt hS4.1.lt
        refine (number_any 1 (h.ver : Int) w4 (by omega) (by have := HC.out.ver; unfold in64'; omega)).mono ?_
        rintro e w5 ⟨A', m', c', rfl, ho', hb'⟩
        exact StepF.of _ rfl ⟨A', m', c', rfl, by have h5 := ho'.more hz4; rw [u64_nat (by have := HC.out.ver; omega)] at h5; exact h5⟩ ⟨hS4.1.belowS hb', hS4.2.trans (hb'.mono hz4)⟩ hb'
      | 3 =>
        intro ho b vs w4 hS4 hb hD
        obtain rfl := Option.some.inj ho
        simp only [putL, Act.put, List.setIfInBounds_toArray, List.set_cons_zero, List.set_cons_succ, Nat.zero_add, Nat.reduceAdd]
        go_simp
        exact StepF.of _ rfl rfl hS4 (Below.refl _ _)
      | 4 =>
        intro ho b vs w4 hS4 hb hD
        obtain rfl := Option.some.inj ho
        have d3 := hD 3 (by kernel_rfl) (by kernel_rfl)
        change vs 3 = _ at d3
        have q0 : w4.cell? ⟨w.heap.size, 1, none⟩ = some (.int .i64 (h.app : Int)) := hS4.1.cell 1
        simp only [putL, Act.put, List.setIfInBounds_toArray, List.set_cons_zero, List.set_cons_succ, Nat.zero_add, Nat.reduceAdd]
        go_simp
        exact StepF.of _ rfl rfl hS4 (Below.refl _ _)
      | 5 =>
        intro ho b vs w4 hS4 hb hD
        obtain rfl := Option.some.inj ho
        have d4 := hD 4 (by kernel_rfl) (by kernel_rfl)
        change vs 4 = _ at d4
        simp only [putL, Act.put, List.setIfInBounds_toArray, List.set_cons_zero, List.set_cons_succ, Nat.zero_add, Nat.reduceAdd]
        go_simp
        have hz4 : w.heap.size ≤ w4.heap.size := Nat.le_of_lt hS4.1.lt
        refine (number_any 2 (h.app : Int) w4 (by omega) (by have := HC.out.app; unfold in64'; omega)).mono ?_
        rintro e w5 ⟨A', m', c', rfl, ho', hb'⟩
        exact StepF.of _ rfl ⟨A', m', c', rfl, by have h5 := ho'.more hz4; rw [u64_nat (by have := HC.out.app; omega)] at h5; exact h5⟩ ⟨hS4.1.belowS hb', hS4.2.trans (hb'.mono hz4)⟩ hb'
      | 6 =>
        intro ho b vs w4 hS4 hb hD
        obtain rfl := Option.some.inj ho
        obtain ⟨A2, m2, c2, d2, r2⟩ := hD 2 (by kernel_rfl) (by kernel_rfl)
        obtain ⟨A5, m5, c5, d5, r5⟩ := hD 5 (by kernel_rfl) (by kernel_rfl)
        simp only [putL, Act.put, List.setIfInBounds_toArray, List.set_cons_zero, List.set_cons_succ, Nat.zero_add, Nat.reduceAdd]
        go_simp
        have hb' : Below w4.heap.size w4 (w4.alloc (.cells #[.slice A2 m2 c2, .slice A5 m5 c5] 22)) := (Below.refl _ _).alloc (Nat.le_refl _) _
        have hrow := Rd.new w4 #[.slice A2 m2 c2, .slice A5 m5 c5] 22 1 2 w4.heap.size rfl rfl
        exact StepF.of _ rfl ⟨some ⟨w4.heap.size, 0, none⟩, ⟨A2, m2, c2, numB 1 h.ver⟩, ⟨A5, m5, c5, numB 2 h.app⟩, rfl, rfl, rfl, hrow.more (by simp), Bs.ok.below (b := ⟨A2, m2, c2, _⟩) r2.rd hb', Bs.ok.below (b := ⟨A5, m5, c5, _⟩) r5.rd hb'⟩ ⟨hS4.1.belowS hb', hS4.2.trans (hb'.mono (Nat.le_of_lt hS4.1.lt))⟩ hb'
      | 7 =>
        intro ho b vs w4 hS4 hb hD
        obtain rfl := Option.some.inj ho
        obtain ⟨A6, a6, b6, d6, e6, f6, r6, k6, l6⟩ := hD 6 (by kernel_rfl) (by kernel_rfl)
        simp only [putL, Act.put, List.setIfInBounds_toArray, List.set_cons_zero, List.set_cons_succ, Nat.zero_add, Nat.reduceAdd]
        go_simp
        have hz4 : w.heap.size ≤ w4.heap.size := Nat.le_of_lt hS4.1.lt
        refine (joined_pair _ _ A6 a6 b6 w4 e6 f6 r6 k6 l6 (by have := numB_length 1 h.ver (by have := HC.out.ver; omega); have := numB_length 2 h.app (by have := HC.out.app; omega); omega)).mono ?_
        rintro e w5 ⟨A', m', c', rfl, ho', hb'⟩
        exact StepF.of _ rfl ⟨A', m', c', rfl, ho'.more hz4⟩ ⟨hS4.1.belowS hb', hS4.2.trans (hb'.mono hz4)⟩ hb'
      | 8 =>
        intro ho b vs w4 hS4 hb hD
        obtain rfl := Option.some.inj ho
        simp only [putL, Act.put, List.setIfInBounds_toArray, List.set_cons_zero, List.set_cons_succ, Nat.zero_add, Nat.reduceAdd]
        go_simp
        exact StepF.of _ rfl rfl hS4 (Below.refl _ _)
      | 9 =>
        intro ho b vs w4 hS4 hb hD
        obtain rfl := Option.some.inj ho
        have d8 := hD 8 (by kernel_rfl) (by kernel_rfl)
        change vs 8 = _ at d8
        have q0 : w4.cell? ⟨w.heap.size, 2, none⟩ = some (.string h.chain) := hS4.1.cell 2
        simp only [putL, Act.put, List.setIfInBounds_toArray, List.set_cons_zero, List.set_cons_succ, Nat.zero_add, Nat.reduceAdd]
        go_simp
        exact StepF.of _ rfl rfl hS4 (Below.refl _ _)
      | 10 =>
        intro ho b vs w4 hS4 hb hD
        obtain rfl := Option.some.inj ho
        have d9 := hD 9 (by kernel_rfl) (by kernel_rfl)
        change vs 9 = _ at d9
        simp only [putL, Act.put, List.setIfInBounds_toArray, List.set_cons_zero, List.set_cons_succ, Nat.zero_add, Nat.reduceAdd]
        go_simp
        have hb' : Below w4.heap.size w4 (w4.alloc (bObj h.chain (f w4))).drew := ((Below.refl _ _).alloc (Nat.le_refl _) _).drew
        exact StepF.of _ rfl ⟨_, _, _, rfl, (Rd.conv w4 h.chain (f w4) _ rfl).drew.more (by simp)⟩ ⟨hS4.1.belowS hb', hS4.2.trans (hb'.mono (Nat.le_of_lt hS4.1.lt))⟩ hb'
      | 11 =>
        intro ho b vs w4 hS4 hb hD
        obtain rfl := Option.some.inj ho
        obtain ⟨A10, m10, c10, d10, r10⟩ := hD 10 (by kernel_rfl) (by kernel_rfl)
        simp only [putL, Act.put, List.setIfInBounds_toArray, List.set_cons_zero, List.set_cons_succ, Nat.zero_add, Nat.reduceAdd]
        go_simp
        have hz4 : w.heap.size ≤ w4.heap.size := Nat.le_of_lt hS4.1.lt
        refine (some_any 1 A10 m10 c10 _ w4 (by omega) r10 (by have := r10.len1; have := HC.out.chain; rw [show h.chain.data.toList.length = h.chain.size from rfl] at *; omega)).mono ?_
        rintro e w5 ⟨A', m', c', rfl, ho', hb'⟩
        exact StepF.of _ rfl ⟨A', m', c', rfl, ho'.more hz4⟩ ⟨hS4.1.belowS hb', hS4.2.trans (hb'.mono hz4)⟩ hb'
      | 12 =>
        intro ho b vs w4 hS4 hb hD
        obtain rfl := Option.some.inj ho
        simp only [putL, Act.put, List.setIfInBounds_toArray, List.set_cons_zero, List.set_cons_succ, Nat.zero_add, Nat.reduceAdd]
        go_simp
        exact StepF.of _ rfl rfl hS4 (Below.refl _ _)
      | 13 =>
        intro ho b vs w4 hS4 hb hD
        obtain rfl := Option.some.inj ho
        have d12 := hD 12 (by kernel_rfl) (by kernel_rfl)
        change vs 12 = _ at d12
        have q0 : w4.cell? ⟨w.heap.size, 3, none⟩ = some (.int .i64 h.hgt) := hS4.1.cell 3
        simp only [putL, Act.put, List.setIfInBounds_toArray, List.set_cons_zero, List.set_cons_succ, Nat.zero_add, Nat.reduceAdd]
        go_simp
        exact StepF.of _ rfl rfl hS4 (Below.refl _ _)
      | 14 =>
        intro ho b vs w4 hS4 hb hD
        obtain rfl := Option.some.inj ho
        have d13 := hD 13 (by kernel_rfl) (by kernel_rfl)
        change vs 13 = _ at d13
        simp only [putL, Act.put, List.setIfInBounds_toArray, List.set_cons_zero, List.set_cons_succ, Nat.zero_add, Nat.reduceAdd]
        go_simp
        have hz4 : w.heap.size ≤ w4.heap.size := Nat.le_of_lt hS4.1.lt
        refine (number_any 1 h.hgt w4 (by omega) (by have := HC.out.hgt; unfold in64'; omega)).mono ?_
        rintro e w5 ⟨A', m', c', rfl, ho', hb'⟩
        exact StepF.of _ rfl ⟨A', m', c', rfl, ho'.more hz4⟩ ⟨hS4.1.belowS hb', hS4.2.trans (hb'.mono hz4)⟩ hb'
      | 15 =>
        intro ho b vs w4 hS4 hb hD
        obtain rfl := Option.some.inj ho
        simp only [putL, Act.put, List.setIfInBounds_toArray, List.set_cons_zero, List.set_cons_succ, Nat.zero_add, Nat.reduceAdd]
        go_simp
        exact StepF.of _ rfl rfl hS4 (Below.refl _ _)
      | 16 =>
        intro ho b vs w4 hS4 hb hD
        obtain rfl := Option.some.inj ho
        have d15 := hD 15 (by kernel_rfl) (by kernel_rfl)
        change vs 15 = _ at d15
        have q0 : w4.cell? ⟨w.heap.size, 4, none⟩ = some (.int .i64 h.sec) := hS4.1.cell 4
        have q1 : w4.cell? ⟨w.heap.size, 5, none⟩ = some (.int .i64 h.nan) := hS4.1.cell 5
        simp only [putL, Act.put, List.setIfInBounds_toArray, List.set_cons_zero, List.set_cons_succ, Nat.zero_add, Nat.reduceAdd]
        go_simp
        exact StepF.of _ rfl rfl hS4 (Below.refl _ _)
      | 17 =>
        intro ho b vs w4 hS4 hb hD
        obtain rfl := Option.some.inj ho
        have d16 := hD 16 (by kernel_rfl) (by kernel_rfl)
        change vs 16 = _ at d16
        simp only [putL, Act.put, List.setIfInBounds_toArray, List.set_cons_zero, List.set_cons_succ, Nat.zero_add, Nat.reduceAdd]
        go_simp
        have hz4 : w.heap.size ≤ w4.heap.size := Nat.le_of_lt hS4.1.lt
        refine (stime_any h.sec h.nan w4 (by have := HC.out.sec; unfold in64'; omega) (by have := HC.out.nan; unfold in64'; omega)).mono ?_
        rintro e w5 ⟨A', m', c', rfl, ho', hb'⟩
        exact StepF.of _ rfl ⟨A', m', c', rfl, ho'.more hz4⟩ ⟨hS4.1.belowS hb', hS4.2.trans (hb'.mono hz4)⟩ hb'
      | 18 =>
        intro ho b vs w4 hS4 hb hD
        obtain rfl := Option.some.inj ho
        simp only [putL, Act.put, List.setIfInBounds_toArray, List.set_cons_zero, List.set_cons_succ, Nat.zero_add, Nat.reduceAdd]
        go_simp
        exact StepF.of _ rfl rfl hS4 (Below.refl _ _)
      | 19 =>
        intro ho b vs w4 hS4 hb hD
        obtain rfl := Option.some.inj ho
        have d18 := hD 18 (by kernel_rfl) (by kernel_rfl)
        change vs 18 = _ at d18
        have q0 : w4.cell? ⟨w.heap.size, 6, none⟩ = some (.slice h.S h.sum.length h.sc) := hS4.1.cell 6
        have q1 : w4.cell? ⟨w.heap.size, 7, none⟩ = some (.int .i64 (h.parts : Int)) := hS4.1.cell 7
        have q2 : w4.cell? ⟨w.heap.size, 8, none⟩ = some (.slice h.R h.root.length h.rc) := hS4.1.cell 8
        simp only [putL, Act.put, List.setIfInBounds_toArray, List.set_cons_zero, List.set_cons_succ, Nat.zero_add, Nat.reduceAdd]
        go_simp
        exact StepF.of _ rfl rfl hS4 (Below.refl _ _)
      | 20 =>
        intro ho b vs w4 hS4 hb hD
        obtain rfl := Option.some.inj ho
        have d19 := hD 19 (by kernel_rfl) (by kernel_rfl)
        change vs 19 = _ at d19
        simp only [putL, Act.put, List.setIfInBounds_toArray, List.set_cons_zero, List.set_cons_succ, Nat.zero_add, Nat.reduceAdd]
        go_simp
        have hz4 : w.heap.size ≤ w4.heap.size := Nat.le_of_lt hS4.1.lt
        refine (sblock_any ⟨h.S, h.sc, h.sum, (h.parts : Int), h.R, h.rc, h.root⟩ w4 ⟨(HOK.out.below hS4.2).sum, (HOK.out.below hS4.2).root⟩ (by have := HC.out.parts; show in64' (h.parts : Int); unfold in64'; omega) HC.out.sum HC.out.root).mono ?_
        rintro e w5 ⟨A', m', c', rfl, ho', hb'⟩
        exact StepF.of _ rfl ⟨A', m', c', rfl, ho'.more hz4⟩ ⟨hS4.1.belowS hb', hS4.2.trans (hb'.mono hz4)⟩ hb'
      | 21 =>
        intro ho b vs w4 hS4 hb hD
        obtain rfl := Option.some.inj ho
        obtain ⟨A7, m7, c7, d7, r7⟩ := hD 7 (by kernel_rfl) (by kernel_rfl)
        obtain ⟨A11, m11, c11, d11, r11⟩ := hD 11 (by kernel_rfl) (by kernel_rfl)
        obtain ⟨A14, m14, c14, d14, r14⟩ := hD 14 (by kernel_rfl) (by kernel_rfl)
        obtain ⟨A17, m17, c17, d17, r17⟩ := hD 17 (by kernel_rfl) (by kernel_rfl)
        obtain ⟨A20, m20, c20, d20, r20⟩ := hD 20 (by kernel_rfl) (by kernel_rfl)
        simp only [putL, Act.put, List.setIfInBounds_toArray, List.set_cons_zero, List.set_cons_succ, Nat.zero_add, Nat.reduceAdd]
        go_simp
        have hb' : Below w4.heap.size w4 (w4.alloc (.cells #[.slice A7 m7 c7, .slice A11 m11 c11, .slice A14 m14 c14, .slice A17 m17 c17, .slice A20 m20 c20] 22)) := (Below.refl _ _).alloc (Nat.le_refl _) _
        obtain ⟨ls, e1, e2, e3⟩ := five_own (Nat.le_of_lt hS4.1.lt) A7 A11 A14 A17 A20 m7 m11 m14 m17 m20 c7 c11 c14 c17 c20 _ _ _ _ _ r7 r11 r14 r17 r20
        exact StepF.of _ rfl ⟨_, _, ls, rfl, e1, e2, e3⟩ ⟨hS4.1.belowS hb', hS4.2.trans (hb'.mono (Nat.le_of_lt hS4.1.lt))⟩ hb'
      | 22 =>
        intro ho b vs w4 hS4 hb hD
        obtain rfl := Option.some.inj ho
        obtain ⟨A21, c21, l21, d21, e21, r21, k21⟩ := hD 21 (by kernel_rfl) (by kernel_rfl)
        simp only [putL, Act.put, List.setIfInBounds_toArray, List.set_cons_zero, List.set_cons_succ, Nat.zero_add, Nat.reduceAdd]
        go_simp
        exact StepF.of _ rfl ⟨A21, c21, l21, rfl, e21, r21, k21⟩ hS4 (Below.refl _ _)
      | k + 23 => intro ho; simp at ho
    · intro vs w4 hS4 hE
      obtain ⟨A0, c0, l0, e22, e0, r0, k0⟩ := hE 22 _ _ rfl rfl
      simp only [putL, Act.put, List.setIfInBounds_toArray, List.set_cons_zero, List.set_cons_succ, Nat.zero_add, Nat.reduceAdd]
      rw [e22]
      clear hE e22
      have q9 : w4.cell? ⟨w.heap.size, 9, none⟩ = some (.slice h.q0.a h.q0.s.length h.q0.c) := hS4.1.cell 9
      have q10 : w4.cell? ⟨w.heap.size, 10, none⟩ = some (.slice h.q1.a h.q1.s.length h.q1.c) := hS4.1.cell 10
      have q11 : w4.cell? ⟨w.heap.size, 11, none⟩ = some (.slice h.q2.a h.q2.s.length h.q2.c) := hS4.1.cell 11
      have q12 : w4.cell? ⟨w.heap.size, 12, none⟩ = some (.slice h.q3.a h.q3.s.length h.q3.c) := hS4.1.cell 12
      have q13 : w4.cell? ⟨w.heap.size, 13, none⟩ = some (.slice h.q4.a h.q4.s.length h.q4.c) := hS4.1.cell 13
      have q14 : w4.cell? ⟨w.heap.size, 14, none⟩ = some (.slice h.q5.a h.q5.s.length h.q5.c) := hS4.1.cell 14
      have q15 : w4.cell? ⟨w.heap.size, 15, none⟩ = some (.slice h.q6.a h.q6.s.length h.q6.c) := hS4.1.cell 15
      have q16 : w4.cell? ⟨w.heap.size, 16, none⟩ = some (.slice h.q7.a h.q7.s.length h.q7.c) := hS4.1.cell 16
      have HS4 := Lib.hid hS4; have HE0 := Lib.hid e0; have HR0 := Lib.hid r0; have HK0 := Lib.hid k0
      clear hS4 e0 r0 k0 d11
      go_wp2_with fail
      go_loopw [3, 35] (fun v i wr => ∃ (k : Nat) (A1 : Option Addr) (c1 : Nat) (ls : List Sb), k ≤ 8 ∧ i = .int .i64 k ∧ v = .slice A1 (5 + k) c1 ∧ Hid (ls.map Sb.s = h.five ++ (h.qs.take k).map fun x => txtB 1 x.s) ∧ Hid (wr.ownsRow w.heap.size 22 1 (.slice A1 (5 + k) c1) (5 + k) (ls.map Sb.cell)) ∧ Hid (∀ x ∈ ls, SbO w.heap.size wr x) ∧ Hid (Blk wr w.heap.size 43 #[.int .i64 (h.ver : Int), .int .i64 (h.app : Int), .string h.chain, .int .i64 h.hgt, .int .i64 h.sec, .int .i64 h.nan, .slice h.S h.sum.length h.sc, .int .i64 (h.parts : Int), .slice h.R h.root.length h.rc, .slice h.q0.a h.q0.s.length h.q0.c, .slice h.q1.a h.q1.s.length h.q1.c, .slice h.q2.a h.q2.s.length h.q2.c, .slice h.q3.a h.q3.s.length h.q3.c, .slice h.q4.a h.q4.s.length h.q4.c, .slice h.q5.a h.q5.s.length h.q5.c, .slice h.q6.a h.q6.s.length h.q6.c, .slice h.q7.a h.q7.s.length h.q7.c, .string h.prop]) ∧ Hid (Below w.heap.size w wr)) (fun _ i _ => 8 - (intOf i).toNat)
      case atStart => exact ⟨0, A0, c0, l0, Nat.zero_le _, rfl, rfl, Lib.hid (by rw [HE0.out]; simp), HR0.out, HK0.out, HS4.out.1, HS4.out.2⟩
      case round =>
        obtain ⟨k, A1, c1, ls, hk, rfl, rfl, HLS, HO, HIN, HBL, HB⟩ := hrel
        by_cases hlt : k < 8
        · obtain ⟨x, hx⟩ : ∃ x, h.qs[k]? = some x := ⟨_, List.getElem?_eq_getElem (show k < h.qs.length from hlt)⟩
          have hmem : x ∈ h.qs := List.mem_of_getElem? hx
          have HTK := Lib.hid (show ((h.qs.take (k + 1)).map fun x => txtB 1 x.s) = ((h.qs.take k).map fun x => txtB 1 x.s) ++ [txtB 1 x.s] by rw [List.take_succ, hx]; simp)
          have hix := fun W => idx_qs h k x hx W
          have KS := Lib.hid (fun (W : World) (hW : Below w.heap.size w W) => some_any 1 x.a x.s.length x.c x.s W (by omega) (Hd.qs_ok (HOK.out.below hW) x hmem) (by have := Hd.qs_can HC.out x hmem; omega))
          clear hx hmem q9 q10 q11 q12 q13 q14 q15 q16
          go_wp2_with fail
          refine (KS.out wr HB.out).mono ?_
          rintro e W6 ⟨A6, m6, c6, rfl, ho6, hb6⟩
          have ho6' : Own8 W6 w.heap.size A6 m6 c6 (txtB 1 x.s) := ho6.more HB.out.size
          have HB6 := Lib.hid hb6; have HO6 := Lib.hid ho6'
          have hb67 : Below W6.heap.size W6 (W6.alloc (.cells #[.slice A6 m6 c6] 22)) := (Below.refl _ _).alloc (Nat.le_refl _) _
          have hr7 := Rd.new W6 #[.slice A6 m6 c6] 22 1 1 W6.heap.size rfl rfl
          have hB7 := HB6.out.trans (hb67.mono HB6.out.size)
          have hro7 := own_below HO.out hB7 (Nat.le_refl _)
          have ho7 := HO6.out.below hb67 (Nat.le_refl _)
          have hwz : w.heap.size ≤ (W6.alloc (.cells #[.slice A6 m6 c6] 22)).heap.size := Nat.le_trans HB.out.size hB7.size
          have HB7 := Lib.hid hB7; have HO7 := Lib.hid ho7; have HR7 := Lib.hid hr7; have HRO7 := Lib.hid hro7; have HWZ := Lib.hid hwz
          clear ho6 hb6 ho6' hb67 hr7 hB7 hro7 ho7 hwz
          go_wp2_with (at_builtin; refine wpList_app _ rfl (.tmp 38) (.tmp 41) 61 rfl w.heap.size 22 i0 _ 1 24 Tryd.underlying61 HI.out HZ0.out HZ1.out HZ2.out rfl (by decide) (.slice A1 (5 + k) c1) (5 + k) (ls.map Sb.cell) rfl HRO7.out (W6.heap.size + 1) (some ⟨W6.heap.size, 0, none⟩) 1 1 [.slice A6 m6 c6] rfl HR7.out ?q0 ?q1 ?q2 HWZ.out ?_; (case q0 => intro u hu; rw [List.mem_singleton] at hu; rw [hu]; rfl); (case q1 => simp only [maxLen]; omega); (case q2 => omega); intro A8 c8 W8 hown8 hg8 _)
          obtain ⟨hin9, hcell⟩ := SbO.of_own (lo := w.heap.size) HO7.out (Nat.le_refl _)
          obtain ⟨x9, hx9⟩ : ∃ x9 : Sb, x9 = ⟨A6, c6, txtB 1 x.s⟩ := ⟨_, rfl⟩
          rw [← hx9] at hin9 hcell
          have hrow := hown8
          rw [← hcell] at hrow
          have hwb : Below w.heap.size w W8 := (HB.out.trans (HB7.out.mono HB.out.size)).grown hg8 HWZ.out (own_base HRO7.out)
          have hbl8 : Blk W8 w.heap.size 43 #[.int .i64 (h.ver : Int), .int .i64 (h.app : Int), .string h.chain, .int .i64 h.hgt, .int .i64 h.sec, .int .i64 h.nan, .slice h.S h.sum.length h.sc, .int .i64 (h.parts : Int), .slice h.R h.root.length h.rc, .slice h.q0.a h.q0.s.length h.q0.c, .slice h.q1.a h.q1.s.length h.q1.c, .slice h.q2.a h.q2.s.length h.q2.c, .slice h.q3.a h.q3.s.length h.q3.c, .slice h.q4.a h.q4.s.length h.q4.c, .slice h.q5.a h.q5.s.length h.q5.c, .slice h.q6.a h.q6.s.length h.q6.c, .slice h.q7.a h.q7.s.length h.q7.c, .string h.prop] := (HBL.out.belowS HB7.out).grown hg8 (fun e => by
            rcases HRO7.out.2 with ⟨h1, _⟩ | ⟨g1, cap1, cur1, h1, _, h2, _⟩
            · rw [h1] at e; cases e
            · rw [h1] at e; simp only [Value.ownBlock, Option.some.injEq] at e; exact Blk.ne (HBL.out.belowS HB7.out) h2 (by decide) e)
          have hls : (ls ++ [x9]).map Sb.s = h.five ++ (h.qs.take (k + 1)).map fun x => txtB 1 x.s := by
            rw [List.map_append, HLS.out, HTK.out, hx9, List.append_assoc]; rfl
          have hrow2 : W8.ownsRow w.heap.size 22 1 (.slice A8 (5 + (k + 1)) c8) (5 + (k + 1)) ((ls ++ [x9]).map Sb.cell) := by rw [List.map_append]; exact hrow
          have hin2 : ∀ y ∈ ls ++ [x9], SbO w.heap.size W8 y := by
            intro y hy
            rw [List.mem_append, List.mem_singleton] at hy
            rcases hy with hy | hy
            · exact ((HIN.out y hy).below HB7.out).grown hg8 HRO7.out
            · rw [hy]; exact hin9.grown hg8 HRO7.out
          clear hrow hin9 hcell hown8 hix
          go_roundw
          case rel => exact ⟨k + 1, A8, c8, ls ++ [x9], by omega, by go_num, rfl, hls, hrow2, hin2, hbl8, hwb⟩
          case measure => simp [intOf]; omega
        · obtain rfl : k = 8 := by omega
          have kc2 := KC2.out
          have q17 : wr.cell? ⟨w.heap.size, 17, none⟩ = some (.string h.prop) := HBL.out.cell 17
          clear q9 q10 q11 q12 q13 q14 q15 q16
          go_wp2_with fail
          have hbc : Below wr.heap.size wr (wr.alloc (bObj h.prop (f2 wr))).drew := ((Below.refl _ _).alloc (Nat.le_refl _) _).drew
          have hr1 : Rd (wr.alloc (bObj h.prop (f2 wr))).drew (wr.alloc (bObj h.prop (f2 wr))).drew.heap.size 1 (some ⟨wr.heap.size, 0, none⟩) h.prop.size (bc h.prop.data.toList) := (Rd.conv wr h.prop (f2 wr) _ rfl).drew.more (by simp)
          refine (some_any 1 _ h.prop.size (f2 wr) h.prop.data.toList _ (by decide) hr1 (by have := HC.out.prop; omega)).mono ?_
          rintro e W6 ⟨A6, m6, c6, rfl, ho6, hb6⟩
          have hb06 := hbc.trans (hb6.mono hbc.size)
          have ho6' : Own8 W6 w.heap.size A6 m6 c6 (txtB 1 h.prop.data.toList) := ho6.more (Nat.le_trans HB.out.size hbc.size)
          have HB6 := Lib.hid hb06; have HO6 := Lib.hid ho6'
          have hb67 : Below W6.heap.size W6 (W6.alloc (.cells #[.slice A6 m6 c6] 22)) := (Below.refl _ _).alloc (Nat.le_refl _) _
          have hr7 := Rd.new W6 #[.slice A6 m6 c6] 22 1 1 W6.heap.size rfl rfl
          have hB7 := HB6.out.trans (hb67.mono HB6.out.size)
          have hro7 := own_below HO.out hB7 (Nat.le_refl _)
          have ho7 := HO6.out.below hb67 (Nat.le_refl _)
          have hwz : w.heap.size ≤ (W6.alloc (.cells #[.slice A6 m6 c6] 22)).heap.size := Nat.le_trans HB.out.size hB7.size
          have HB7 := Lib.hid hB7; have HO7 := Lib.hid ho7; have HR7 := Lib.hid hr7; have HRO7 := Lib.hid hro7; have HWZ := Lib.hid hwz
          clear ho6 hb6 ho6' hb67 hr7 hB7 hro7 ho7 hwz hbc hr1 hb06 kc2 q17
          go_wp2_with (at_builtin; refine wpList_app _ rfl (.tmp 44) (.tmp 49) 61 rfl w.heap.size 22 i0 _ 1 24 Tryd.underlying61 HI.out HZ0.out HZ1.out HZ2.out rfl (by decide) (.slice A1 (5 + 8) c1) (5 + 8) (ls.map Sb.cell) rfl HRO7.out (W6.heap.size + 1) (some ⟨W6.heap.size, 0, none⟩) 1 1 [.slice A6 m6 c6] rfl HR7.out ?q0 ?q1 ?q2 HWZ.out ?_; (case q0 => intro u hu; rw [List.mem_singleton] at hu; rw [hu]; rfl); (case q1 => simp only [maxLen]; omega); (case q2 => omega); intro A8 c8 W8 hown8 hg8 _)
          obtain ⟨hin9, hcell⟩ := SbO.of_own (lo := w.heap.size) HO7.out (Nat.le_refl _)
          obtain ⟨x9, hx9⟩ : ∃ x9 : Sb, x9 = ⟨A6, c6, txtB 1 h.prop.data.toList⟩ := ⟨_, rfl⟩
          rw [← hx9] at hin9 hcell
          rw [← hcell] at hown8
          have hwb : Below w.heap.size w W8 := (HB.out.trans (HB7.out.mono HB.out.size)).grown hg8 HWZ.out (own_base HRO7.out)
          have hrow2 : W8.ownsRow w.heap.size 22 1 (.slice A8 14 c8) 14 ((ls ++ [x9]).map Sb.cell) := by rw [List.map_append]; exact hown8
          have hin2 : ∀ y ∈ ls ++ [x9], SbO w.heap.size W8 y := by
            intro y hy
            rw [List.mem_append, List.mem_singleton] at hy
            rcases hy with hy | hy
            · exact ((HIN.out y hy).below HB7.out).grown hg8 HRO7.out
            · rw [hy]; exact hin9.grown hg8 HRO7.out
          have hmap : (ls ++ [x9]).map Sb.s = h.leaves := by rw [List.map_append, HLS.out, HLV.out, hx9, List.take_of_length_le (by simp [Hd.qs])]; rfl
          have hbig : ∀ x ∈ ls ++ [x9], x.s.length ≤ 30000000000 := fun x hx => by
            have h1 : x.s ∈ (ls ++ [x9]).map Sb.s := List.mem_map_of_mem hx
            rw [hmap] at h1
            exact leaf_len HC.out _ h1
          have hcap : 14 ≤ c8 := by
            rcases hrow2.2 with ⟨h1, h2⟩ | ⟨g, cap, cur, hv, _, _, h2, _⟩
            · omega
            · injection hv with _ _ h3; omega
          have hrd := rdB_own hrow2 hin2
          have hlen := hrd.len
          refine (sroot_any 14 (ls ++ [x9]) hlen (by omega) hbig A8 c8 W8 hrd hcap).mono ?_
          rintro e w6 ⟨A9, m9, c9, rfl, ho9, hb9⟩
          have HO9 := Lib.hid (ho9.more hwb.size); have HB9 := Lib.hid (hwb.trans (hb9.mono hwb.size))
          have HMAP := Lib.hid hmap
          clear ho9 hb9 hrd hlen hcap hbig hmap hin2 hrow2 hwb hcell hown8
          go_wp2_with fail
          go_ret
          refine ⟨A9, m9, c9, rfl, ?_, HB9.out⟩
          rw [HS.out, ← HMAP.out]; exact HO9.out
end Go.Proofs.YtikikddkhikfkaaDoor

set_option linter.all false
namespace Go.Proofs.YtikikddkhikfkaaDoor
open Go.RowKit

def fit8 (h : Hd) : Bool := h.qs.all fun x => !(decide (2147483647 < x.s.length))
set_option maxRecDepth 100000 in
set_option maxHeartbeats 1600000 in
theorem fits8_any (h : Hd) (w : World) :
    Calls Tryd.prog 28 #[.agg #[.slice h.q0.a h.q0.s.length h.q0.c, .slice h.q1.a h.q1.s.length h.q1.c, .slice h.q2.a h.q2.s.length h.q2.c, .slice h.q3.a h.q3.s.length h.q3.c, .slice h.q4.a h.q4.s.length h.q4.c, .slice h.q5.a h.q5.s.length h.q5.c, .slice h.q6.a h.q6.s.length h.q6.c, .slice h.q7.a h.q7.s.length h.q7.c]] w fun e w' => e = .returned (.bool (fit8 h)) ∧ Below w.heap.size w w' := by
  have hb0 : Below w.heap.size w (w.alloc (.cells #[.slice h.q0.a h.q0.s.length h.q0.c, .slice h.q1.a h.q1.s.length h.q1.c, .slice h.q2.a h.q2.s.length h.q2.c, .slice h.q3.a h.q3.s.length h.q3.c, .slice h.q4.a h.q4.s.length h.q4.c, .slice h.q5.a h.q5.s.length h.q5.c, .slice h.q6.a h.q6.s.length h.q6.c, .slice h.q7.a h.q7.s.length h.q7.c] 30)) := (Below.refl _ _).alloc (Nat.le_refl _) _
  have HB0 := Lib.hid hb0; clear hb0
  go_enter Tryd.func28, Tryd.ntmps28
  go_wp2
  go_loopw [6] (fun i wr => ∃ k : Nat, k ≤ 8 ∧ i = .int .i64 k ∧ Hid (((h.qs.take k).all fun x => !(decide (2147483647 < x.s.length))) = true) ∧ Hid (Below w.heap.size w wr)) (fun i _ => 8 - (intOf i).toNat)
  case atStart => exact ⟨0, Nat.zero_le _, rfl, rfl, HB0.out⟩
  case round =>
    obtain ⟨k, hk, rfl, HA, hb⟩ := hrel
    by_cases hlt : k < 8
    · obtain ⟨x, hx⟩ : ∃ x, h.qs[k]? = some x := ⟨_, List.getElem?_eq_getElem (show k < h.qs.length from hlt)⟩
      have hix := fun W => idx_qs h k x hx W
      have HMEM := Lib.hid (List.mem_of_getElem? hx)
      have HST := Lib.hid (show ((h.qs.take (k + 1)).all fun x => !(decide (2147483647 < x.s.length))) = !(decide (2147483647 < x.s.length)) by
        rw [List.take_succ, hx, List.all_append, HA.out]; simp)
      clear hx
      by_cases hbig : 2147483647 < x.s.length
      · go_wp2
        go_ret
        exact ⟨ret_bool (by unfold fit8; symm; rw [List.all_eq_false]; exact ⟨x, HMEM.out, by simp; omega⟩), hb.out⟩
      · go_wp2
        go_roundw
        case rel => exact ⟨k + 1, by omega, by go_num, Lib.hid (by rw [HST.out]; simp; omega), hb⟩
        case measure => simp [intOf]; omega
    · obtain rfl : k = 8 := by omega
      go_wp2
      go_ret
      exact ⟨ret_bool (by unfold fit8; rw [← HA.out, List.take_of_length_le (by simp [Hd.qs])]), hb.out⟩
/-- a header as it comes in: the numbers unbridled -/
def Hd.raw (h : Hd) (ver app hgt sec nan parts : Int) : Array Value := #[.int .i64 ver, .int .i64 app, .string h.chain, .int .i64 hgt, .int .i64 sec, .int .i64 nan, .slice h.S h.sum.length h.sc, .int .i64 parts, .slice h.R h.root.length h.rc, .slice h.q0.a h.q0.s.length h.q0.c, .slice h.q1.a h.q1.s.length h.q1.c, .slice h.q2.a h.q2.s.length h.q2.c, .slice h.q3.a h.q3.s.length h.q3.c, .slice h.q4.a h.q4.s.length h.q4.c, .slice h.q5.a h.q5.s.length h.q5.c, .slice h.q6.a h.q6.s.length h.q6.c, .slice h.q7.a h.q7.s.length h.q7.c, .string h.prop]
def fit7 (h : Hd) : Bool := !(decide (2147483647 < h.chain.size)) && (fit4 ⟨h.S, h.sc, h.sum, 0, h.R, h.rc, h.root⟩ && (fit8 h && !(decide (2147483647 < h.prop.size))))
set_option maxRecDepth 100000 in
set_option maxHeartbeats 3200000 in
theorem fits7_any (h : Hd) (ver app hgt sec nan parts : Int) (w : World) (h1 : h.sum.length ≤ 9223372036854775807) (h2 : h.root.length ≤ 9223372036854775807) :
    Calls Tryd.prog 7 #[.agg (h.raw ver app hgt sec nan parts)] w fun e w' => e = .returned (.bool (fit7 h)) ∧ Below w.heap.size w w' := by
  have K1 := Lib.hid (fun W => fits4_any ⟨h.S, h.sc, h.sum, parts, h.R, h.rc, h.root⟩ W h1 h2)
  have K2 := Lib.hid (fun W => fits8_any h W)
  have e4 : fit4 ⟨h.S, h.sc, h.sum, parts, h.R, h.rc, h.root⟩ = fit4 ⟨h.S, h.sc, h.sum, 0, h.R, h.rc, h.root⟩ := rfl
  have hs0 := SB.start w 32 (h.raw ver app hgt sec nan parts)
  unfold Hd.raw at hs0 ⊢
  have HS0 := Lib.hid hs0; clear hs0 h1 h2
  by_cases hc : 2147483647 < h.chain.size
  · have HF : Hid (fit7 h = false) := by show _ = _; unfold fit7; simp [hc]
    go_enter Tryd.func7, Tryd.ntmps7
    go_wp2
    go_ret
    exact ⟨ret_bool HF.out.symm, (Below.refl _ _).alloc (Nat.le_refl _) _⟩
  · cases hf4 : fit4 ⟨h.S, h.sc, h.sum, 0, h.R, h.rc, h.root⟩ with
    | false =>
      have HF : Hid (fit7 h = false) := by show _ = _; unfold fit7; rw [hf4]; simp
      rw [e4, hf4] at K1
      clear e4
      go_enter Tryd.func7, Tryd.ntmps7
      go_wp2_with fail
      refine (K1.out _).mono ?_
      rintro e w1 ⟨rfl, hb1⟩
      have HS1 := Lib.hid (HS0.out.call hb1); clear hb1
      go_wp2
      go_ret
      exact ⟨ret_bool HF.out.symm, HS1.out.2⟩
    | true =>
      rw [e4, hf4] at K1
      clear e4
      have hF : fit7 h = (fit8 h && !(decide (2147483647 < h.prop.size))) := by unfold fit7; rw [hf4]; simp; omega
      have HF := Lib.hid hF; clear hF
      cases hf8 : fit8 h with
      | false =>
        rw [hf8] at K2 HF
        go_enter Tryd.func7, Tryd.ntmps7
        go_wp2_with fail
        refine (K1.out _).mono ?_
        rintro e w1 ⟨rfl, hb1⟩
        have hs1 := HS0.out.call hb1
        have q9 : w1.cell? ⟨w.heap.size, 9, none⟩ = some (.slice h.q0.a h.q0.s.length h.q0.c) := hs1.1.cell 9
        have q10 : w1.cell? ⟨w.heap.size, 10, none⟩ = some (.slice h.q1.a h.q1.s.length h.q1.c) := hs1.1.cell 10
        have q11 : w1.cell? ⟨w.heap.size, 11, none⟩ = some (.slice h.q2.a h.q2.s.length h.q2.c) := hs1.1.cell 11
        have q12 : w1.cell? ⟨w.heap.size, 12, none⟩ = some (.slice h.q3.a h.q3.s.length h.q3.c) := hs1.1.cell 12
        have q13 : w1.cell? ⟨w.heap.size, 13, none⟩ = some (.slice h.q4.a h.q4.s.length h.q4.c) := hs1.1.cell 13
        have q14 : w1.cell? ⟨w.heap.size, 14, none⟩ = some (.slice h.q5.a h.q5.s.length h.q5.c) := hs1.1.cell 14
        have q15 : w1.cell? ⟨w.heap.size, 15, none⟩ = some (.slice h.q6.a h.q6.s.length h.q6.c) := hs1.1.cell 15
        have q16 : w1.cell? ⟨w.heap.size, 16, none⟩ = some (.slice h.q7.a h.q7.s.length h.q7.c) := hs1.1.cell 16
        have HS1 := Lib.hid hs1; clear hb1 hs1
        go_wp2_with fail
        refine (K2.out _).mono ?_
        rintro e w2 ⟨rfl, hb2⟩
        have HS2 := Lib.hid (HS1.out.call hb2); clear hb2 q9 q10 q11 q12 q13 q14 q15 q16
        go_wp2
        go_ret
        exact ⟨ret_bool HF.out.symm, HS2.out.2⟩
      | true =>
        rw [hf8] at K2 HF
        simp only [Bool.true_and] at HF
        by_cases hp : 2147483647 < h.prop.size
        · have HF' : Hid (fit7 h = false) := by have := HF.out; show _ = _; rw [this]; simp [hp]
          go_enter Tryd.func7, Tryd.ntmps7
          go_wp2_with fail
          refine (K1.out _).mono ?_
          rintro e w1 ⟨rfl, hb1⟩
          have hs1 := HS0.out.call hb1
          have q9 : w1.cell? ⟨w.heap.size, 9, none⟩ = some (.slice h.q0.a h.q0.s.length h.q0.c) := hs1.1.cell 9
          have q10 : w1.cell? ⟨w.heap.size, 10, none⟩ = some (.slice h.q1.a h.q1.s.length h.q1.c) := hs1.1.cell 10
          have q11 : w1.cell? ⟨w.heap.size, 11, none⟩ = some (.slice h.q2.a h.q2.s.length h.q2.c) := hs1.1.cell 11
          have q12 : w1.cell? ⟨w.heap.size, 12, none⟩ = some (.slice h.q3.a h.q3.s.length h.q3.c) := hs1.1.cell 12
          have q13 : w1.cell? ⟨w.heap.size, 13, none⟩ = some (.slice h.q4.a h.q4.s.length h.q4.c) := hs1.1.cell 13
          have q14 : w1.cell? ⟨w.heap.size, 14, none⟩ = some (.slice h.q5.a h.q5.s.length h.q5.c) := hs1.1.cell 14
          have q15 : w1.cell? ⟨w.heap.size, 15, none⟩ = some (.slice h.q6.a h.q6.s.length h.q6.c) := hs1.1.cell 15
          have q16 : w1.cell? ⟨w.heap.size, 16, none⟩ = some (.slice h.q7.a h.q7.s.length h.q7.c) := hs1.1.cell 16
          have HS1 := Lib.hid hs1; clear hb1 hs1
          go_wp2_with fail
          refine (K2.out _).mono ?_
          rintro e w2 ⟨rfl, hb2⟩
          have hs2 := HS1.out.call hb2
          have q17 : w2.cell? ⟨w.heap.size, 17, none⟩ = some (.string h.prop) := hs2.1.cell 17
          have HS2 := Lib.hid hs2; clear hb2 hs2 q9 q10 q11 q12 q13 q14 q15 q16
          go_wp2
          go_ret
          exact ⟨ret_bool HF'.out.symm, HS2.out.2⟩
        · have HF' : Hid (fit7 h = true) := by have := HF.out; show _ = _; rw [this]; simp; omega
          go_enter Tryd.func7, Tryd.ntmps7
          go_wp2_with fail
          refine (K1.out _).mono ?_
          rintro e w1 ⟨rfl, hb1⟩
          have hs1 := HS0.out.call hb1
          have q9 : w1.cell? ⟨w.heap.size, 9, none⟩ = some (.slice h.q0.a h.q0.s.length h.q0.c) := hs1.1.cell 9
          have q10 : w1.cell? ⟨w.heap.size, 10, none⟩ = some (.slice h.q1.a h.q1.s.length h.q1.c) := hs1.1.cell 10
          have q11 : w1.cell? ⟨w.heap.size, 11, none⟩ = some (.slice h.q2.a h.q2.s.length h.q2.c) := hs1.1.cell 11
          have q12 : w1.cell? ⟨w.heap.size, 12, none⟩ = some (.slice h.q3.a h.q3.s.length h.q3.c) := hs1.1.cell 12
          have q13 : w1.cell? ⟨w.heap.size, 13, none⟩ = some (.slice h.q4.a h.q4.s.length h.q4.c) := hs1.1.cell 13
          have q14 : w1.cell? ⟨w.heap.size, 14, none⟩ = some (.slice h.q5.a h.q5.s.length h.q5.c) := hs1.1.cell 14
          have q15 : w1.cell? ⟨w.heap.size, 15, none⟩ = some (.slice h.q6.a h.q6.s.length h.q6.c) := hs1.1.cell 15
          have q16 : w1.cell? ⟨w.heap.size, 16, none⟩ = some (.slice h.q7.a h.q7.s.length h.q7.c) := hs1.1.cell 16
          have HS1 := Lib.hid hs1; clear hb1 hs1
          go_wp2_with fail
          refine (K2.out _).mono ?_
          rintro e w2 ⟨rfl, hb2⟩
          have hs2 := HS1.out.call hb2
          have q17 : w2.cell? ⟨w.heap.size, 17, none⟩ = some (.string h.prop) := hs2.1.cell 17
          have HS2 := Lib.hid hs2; clear hb2 hs2 q9 q10 q11 q12 q13 q14 q15 q16
          go_wp2
          go_ret
          exact ⟨ret_bool HF'.out.symm, HS2.out.2⟩
end Go.Proofs.YtikikddkhikfkaaDoor

set_option linter.all false
namespace Go.Proofs.YtikikddkhikfkaaDoor
open Go.RowKit

theorem conv_row {w : World} {B m c : Nat} {A : Option Addr} {l : List UInt8} (h : Rd w B 1 A m (bc l)) : (convert 22 9 (.slice A m c)).run Tryd.prog w = .ok (.string ⟨l.toArray⟩) w := by
  have hm := h.len1
  subst hm
  cases A with
  | none =>
    have hl : l = [] := by
      cases l with
      | nil => rfl
      | cons x r =>
        obtain ⟨ad, e, _⟩ := h.2 0 _ (bc_get (show (x :: r)[0]? = some x from rfl))
        cases e
    subst hl
    exact run_convert_bytes_nil w 22 5 Tryd.underlying22 Tryd.underlying5 _ c 9 Tryd.underlying9
  | some ad =>
    refine run_convert_bytes_back w _ _ 5 ad c l Tryd.underlying22 Tryd.underlying5 Tryd.underlying9 fun j hj => ?_
    obtain ⟨ad', e, _, hc⟩ := h.2 j _ (bc_get (List.getElem?_eq_getElem hj))
    obtain rfl := Option.some.inj e
    exact hc
theorem Rd.below' {w w' : World} {size n : Nat} {A : Option Addr} {xs : List Value} (h : Rd w w.heap.size size A n xs) (hb : Below w.heap.size w w') : Rd w' w'.heap.size size A n xs := (h.below hb).more hb.size
section
variable {P : Program} {ops : Array Oper} {Q : Exit → Act → World → Prop} {S S' : World → Prop} {md : Region.Mode} {s : Nat}
theorem wpAnyL_imp (hS : ∀ w, S w → S' w) : ∀ {fuel : Nat} {listed : Array Bool} {a : Act} {w : World}, wpAnyL P md ops Q S s fuel listed a w → wpAnyL P md ops Q S' s fuel listed a w
  | 0, _, _, _, h => h
  | fuel + 1, _, _, _, h => ⟨h.1, fun i hi => wpOp_mono (fun _ _ h' => ⟨fun hne => hS _ (h'.1 hne), wpAnyL_imp hS h'.2⟩) (h.2 i hi)⟩
end
section
variable {P : Program} {w : World}
theorem exec_load_row {o : Oper} {a : Act} (ty : TypeId) (x : Operand) (ho : o.op = .load ty x) (g : Nat) (hx : a.eval x = .pointer (some ⟨g, 0, none⟩)) (t : TypeId) (cs : Array Value) (d : TypeDesc) (hg : Blk w g t cs)
    (hu : P.underlying ty = some d) (hd : (match d with | .struct _ | .array _ _ => true | _ => false) = true) (hi : (P.info? ty).map (·.size) = some cs.size) : (execOp a.eval o).run P w = .ok (.value (.agg cs)) w := by
  unfold execOp
  simp only [ho, hx, Instr.loadAt, Instr.sureAddr, Sem.run_bind, Sem.run_pure, Result.andThen_ok, run_loadVar_row w g t ty cs (0, 0) d hg hu hd hi]
theorem wpList_build_to {ops : Array Oper} {rest : List Oper} {o : Oper} {a : Act} {Q : Exit → Act → World → Prop} (hg : o.guard = none) (t : TypeId) (parts : Array (Nat × Operand)) (ho : o.op = .build t parts) (cs : Array Value)
    (hf : P.built t (parts.toList.map fun x => (x.1, a.eval x.2)) = some cs) (h : wpList P ops Q rest (a.put o.dst (.agg cs)) w) : wpList P ops Q (o :: rest) a w := by
  have e : (parts.map fun (i, x) => (i, a.eval x)).toList = parts.toList.map fun x => (x.1, a.eval x.2) := by rw [Array.toList_map]
  exact wpList_build hg t parts ho (by rw [e, hf]; rfl) (by rw [e, hf]; exact h)
theorem wpList_load_row_on {ops : Array Oper} {rest : List Oper} {o : Oper} {a : Act} {Q : Exit → Act → World → Prop} (hw : Region.wanted o (yielded ops a.tmps) = true) (ty : TypeId) (x : Operand) (ho : o.op = .load ty x)
    (g : Nat) (hx : a.eval x = .pointer (some ⟨g, 0, none⟩)) (t : TypeId) (cs : Array Value) (d : TypeDesc) (hg : Blk w g t cs)
    (hu : P.underlying ty = some d) (hd : (match d with | .struct _ | .array _ _ => true | _ => false) = true) (hi : (P.info? ty).map (·.size) = some cs.size)
    (h : wpList P ops Q rest (a.put o.dst (.agg cs)) w) : wpList P ops Q (o :: rest) a w := by
  unfold wpList
  rw [if_pos hw]
  exact .inl (wp_load_row ty x ho g hx t cs (0, 0) d hg hu hd hi h)
end
theorem build_header (v0 v1 v3 v4 v5 v7 : Int) (s2 s17 : ByteArray) (A B : Option Addr) (a b c d : Nat) (a0 : Option Addr) (n0 c0 : Nat) (a1 : Option Addr) (n1 c1 : Nat) (a2 : Option Addr) (n2 c2 : Nat) (a3 : Option Addr) (n3 c3 : Nat) (a4 : Option Addr) (n4 c4 : Nat) (a5 : Option Addr) (n5 c5 : Nat) (a6 : Option Addr) (n6 c6 : Nat) (a7 : Option Addr) (n7 c7 : Nat) : Tryd.prog.built 43 [(0, .int .i64 v0), (1, .int .i64 v1), (2, .string s2), (3, .int .i64 v3), (4, .agg #[.int .i64 v4, .int .i64 v5]), (5, .agg #[.slice A a b, .int .i64 v7, .slice B c d]), (6, .agg #[.slice a0 n0 c0, .slice a1 n1 c1, .slice a2 n2 c2, .slice a3 n3 c3, .slice a4 n4 c4, .slice a5 n5 c5, .slice a6 n6 c6, .slice a7 n7 c7]), (7, .string s17)] = some #[.int .i64 v0, .int .i64 v1, .string s2, .int .i64 v3, .int .i64 v4, .int .i64 v5, .slice A a b, .int .i64 v7, .slice B c d, .slice a0 n0 c0, .slice a1 n1 c1, .slice a2 n2 c2, .slice a3 n3 c3, .slice a4 n4 c4, .slice a5 n5 c5, .slice a6 n6 c6, .slice a7 n7 c7, .string s17] := by kernel_rfl
/-- two boxed variables behind w -/
def SS (w : World) (cs hs : Array Value) (w' : World) : Prop := Blk w' w.heap.size 27 cs ∧ Blk w' (w.heap.size + 1) 32 hs ∧ Below w.heap.size w w'
theorem SS.call {w w1 w2 : World} {cs hs : Array Value} (h : SS w cs hs w1) (hb : Below w1.heap.size w1 w2) : SS w cs hs w2 := ⟨h.1.belowS hb, h.2.1.belowS hb, h.2.2.trans (hb.mono (Nat.le_of_lt h.1.lt))⟩
theorem SS.start (w : World) (cs hs : Array Value) : SS w cs hs ((w.alloc (.cells cs 27)).alloc (.cells hs 32)) :=
  ⟨(Blk.new _ _ _).alloc _, by have := Blk.new (w.alloc (.cells cs 27)) 32 hs; simpa using this, ((Below.refl _ _).alloc (Nat.le_refl _) _).alloc (by simp) _⟩
/-- a row that does not lie in block g (or is none) -/
def Apart (A : Option Addr) (xs : List Value) (g : Nat) : Prop := xs = [] ∨ ∀ ad, A = some ad → ad.block ≠ g
theorem Rd.apart {w w' : World} {B g size n : Nat} {A : Option Addr} {xs : List Value} (h : Rd w B size A n xs) (ho : Other g w w') (hB : B ≤ w.heap.size) (hg : Apart A xs g) : Rd w' w'.heap.size size A n xs := by
  rcases hg with hg | hg
  · subst hg; exact ⟨h.1, fun j u hu => by simp at hu⟩
  · exact Rd.other h ho hB hg
/-- the signs' row does not lie in the commit's block -/
theorem signs_apart {w : World} {B g n : Nat} {A A' : Option Addr} {l : List Sg} {t : TypeId} {h r p : Int} {S R : Option Addr} {a b c d e f : Nat} (hr : Rd w B 5 A n (signsOf l)) (hb : Blk w g t #[.int .i64 h, .int .i64 r, .slice S a b, .int .i64 p, .slice R c d, .slice A' e f]) : Apart A (signsOf l) g := by
  cases l with
  | nil => exact .inl rfl
  | cons x l => exact .inr (signs_not_in hr hb (by have := Rd.slen hr; simp at this; omega))
/-- nor in the header's -/
theorem signs_apart_head {w : World} {B g n : Nat} {A : Option Addr} {l : List Sg} {t : TypeId} {y : Hd} {ver app hgt sec nan parts : Int} (hr : Rd w B 5 A n (signsOf l)) (hb : Blk w g t (y.raw ver app hgt sec nan parts)) : Apart A (signsOf l) g := by
  cases l with
  | nil => exact .inl rfl
  | cons x l =>
    refine .inr fun ad hA he => ?_
    have key : ∀ (j : Nat) (u : Value), 0 < j → (signsOf (x :: l))[j]? = some u → (y.raw ver app hgt sec nan parts)[ad.off + j]? = some u := by
      intro j u hj hu
      obtain ⟨ad', hA', _, hc⟩ := hr.2 j u hu
      rw [hA] at hA'
      obtain rfl := Option.some.inj hA'
      have e : ad.add j = ⟨g, ad.off + j, none⟩ := by
        unfold Addr.add
        rw [if_neg (by omega), ← he]
      rw [e, hb.cell] at hc
      exact hc
    have h1 := key 1 (.string x.adr) (by omega) ((flat_get Sg.cells 5 Sg.cells_length (x :: l) 0 1 x rfl (by omega)).trans rfl)
    have h4 := key 4 (.slice x.S x.sig.length x.sc) (by omega) ((flat_get Sg.cells 5 Sg.cells_length (x :: l) 0 4 x rfl (by omega)).trans rfl)
    unfold Hd.raw at h1 h4
    generalize ad.off = o at h1 h4
    match o with
    | 0 | 2 | 3 | 4 | 5 | 6 | 7 | 8 | 9 | 10 | 11 | 12 | 13 | 14 | 15 => simp at h1
    | 1 => simp at h4
    | 16 => simp at h4
    | k + 17 => simp at h1
/-- the world between the copies and the sums -/
structure SumS (w : World) (g : Nat) (cs hs xs : Array Value) (A1 A2 : Option Addr) (m : Nat) (ls : List Sg) (w' : World) : Prop where
  com : Blk w' w.heap.size 27 cs
  hed : Blk w' (w.heap.size + 1) 32 hs
  ref : Blk w' g 38 xs
  below : Below w.heap.size w w'
  row : Rd w' w'.heap.size 5 A1 m (signsOf ls)
  row2 : Rd w' w'.heap.size 5 A2 m (signsOf ls)
  ap1 : Apart A1 (signsOf ls) (w.heap.size + 1)
  ap2 : Apart A2 (signsOf ls) (w.heap.size + 1)
theorem SumS.call {w : World} {g : Nat} {cs hs xs : Array Value} {A1 A2 : Option Addr} {m : Nat} {ls : List Sg} {w1 w2 : World} (h : SumS w g cs hs xs A1 A2 m ls w1) (hb : Below w1.heap.size w1 w2) : SumS w g cs hs xs A1 A2 m ls w2 :=
  ⟨h.com.belowS hb, h.hed.belowS hb, h.ref.belowS hb, h.below.trans (hb.mono (Nat.le_of_lt h.com.lt)), (h.row.below hb).more hb.size, (h.row2.below hb).more hb.size, h.ap1, h.ap2⟩
theorem SumS.put {w : World} {g : Nat} {cs hs xs : Array Value} {A1 A2 : Option Addr} {m : Nat} {ls : List Sg} {w1 : World} (h : SumS w g cs hs xs A1 A2 m ls w1) (i : Nat) (u : Value) : SumS w g cs (hs.setIfInBounds i u) xs A1 A2 m ls (w1.setCell ⟨w.heap.size + 1, i, none⟩ u) :=
  have ho := (Other.refl (w.heap.size + 1) w1).set i u
  ⟨h.com.far (p := ⟨w.heap.size + 1, i, none⟩) (by show w.heap.size ≠ w.heap.size + 1; omega) u, h.hed.put i u, h.ref.far (p := ⟨w.heap.size + 1, i, none⟩) (Blk.ne h.ref h.hed (by decide)) u, h.below.setCell (p := ⟨w.heap.size + 1, i, none⟩) (Nat.le_succ _) _, h.row.apart ho (Nat.le_refl _) h.ap1, h.row2.apart ho (Nat.le_refl _) h.ap2, h.ap1, h.ap2⟩
/-- behind the tuple of both commits -/
theorem SumS.start {w w6 : World} {hgt rnd p : Int} {S R A : Option Addr} {a b c d n e : Nat} {y : Hd} {ver app hh sec nan parts : Int} {u0 u1 u3 : Int} {c1 c2 m : Nat} {A1 A2 : Option Addr} {ls : List Sg}
    (h : SS w #[.int .i64 hgt, .int .i64 rnd, .slice S a b, .int .i64 p, .slice R c d, .slice A n e] (y.raw ver app hh sec nan parts) w6) (hr1 : Rd w6 w6.heap.size 5 A1 m (signsOf ls)) (hr2 : Rd w6 w6.heap.size 5 A2 m (signsOf ls)) :
    SumS w w6.heap.size #[.int .i64 u0, .int .i64 u1, .slice S a b, .int .i64 u3, .slice R c d, .slice A1 m c1] (y.raw ver app hh sec nan parts) #[.int .i64 u0, .int .i64 u1, .slice S a b, .int .i64 u3, .slice R c d, .slice A2 m c2] A1 A2 m ls
      (storedW w6 38 w.heap.size (.int .i64 u0) (.int .i64 u1) (.slice S a b) (.int .i64 u3) (.slice R c d) (.slice A1 m c1) (.int .i64 u0) (.int .i64 u1) (.slice S a b) (.int .i64 u3) (.slice R c d) (.slice A2 m c2)) := by
  have hst := storedW_facts (t := 38) (u0 := .int .i64 u0) (u1 := .int .i64 u1) (u2 := .slice S a b) (u3 := .int .i64 u3) (u4 := .slice R c d) (u5 := .slice A1 m c1) (v0 := .int .i64 u0) (v1 := .int .i64 u1) (v2 := .slice S a b) (v3 := .int .i64 u3) (v4 := .slice R c d) (v5 := .slice A2 m c2) (t' := 27) (w0 := w) ⟨h.1, h.2.2⟩
  have hlt := h.2.1.lt
  exact ⟨hst.1, (hst.2.2.2.2 (w.heap.size + 1) hlt (by omega)).trans h.2.1, hst.2.1, hst.2.2.1, hr1.apart hst.2.2.2 (Nat.le_refl _) (signs_apart hr1 h.1), hr2.apart hst.2.2.2 (Nat.le_refl _) (signs_apart hr2 h.1), signs_apart_head hr1 h.2.1, signs_apart_head hr2 h.2.1⟩
theorem SumS.start2 {w w6 : World} {hgt rnd p : Int} {S R A : Option Addr} {a b c d n e : Nat} {y : Hd} {ver app hh sec nan parts : Int} {Z C1 X1 : Array Value} {m : Nat} {A1 A2 : Option Addr} {ls : List Sg}
    (h : SS w #[.int .i64 hgt, .int .i64 rnd, .slice S a b, .int .i64 p, .slice R c d, .slice A n e] (y.raw ver app hh sec nan parts) w6) (hr1 : Rd w6 w6.heap.size 5 A1 m (signsOf ls)) (hr2 : Rd w6 w6.heap.size 5 A2 m (signsOf ls)) :
    SumS w w6.heap.size C1 (y.raw ver app hh sec nan parts) X1 A1 A2 m ls (((w6.alloc (.cells Z 38)).setRow w.heap.size C1).setRow w6.heap.size X1) := by
  have hl1 := h.1.lt
  have hl2 := h.2.1.lt
  have ho : Other w.heap.size w6 (((w6.alloc (.cells Z 38)).setRow w.heap.size C1).setRow w6.heap.size X1) :=
    ⟨by rw [setRow_size, setRow_size]; simp, fun k hk hn => (setRow_other _ _ _ _ (by omega)).trans ((setRow_other _ _ _ _ hn).trans (Below.heap_alloc w6 _ k hk))⟩
  refine ⟨(setRow_other _ _ _ _ (by omega)).trans (setRow_heap _ _ _ _ _ _ (h.1.alloc _)), (ho.2 _ hl2 (by omega)).trans h.2.1, setRow_heap _ _ _ _ _ _ ((setRow_other _ _ _ _ (by omega)).trans (Blk.new _ _ _)), below_setRow (below_setRow (h.2.2.alloc (by omega) _) (Nat.le_refl _) _) (by omega) _, hr1.apart ho (Nat.le_refl _) (signs_apart hr1 h.1), hr2.apart ho (Nat.le_refl _) (signs_apart hr2 h.1), signs_apart_head hr1 h.2.1, signs_apart_head hr2 h.2.1⟩
end Go.Proofs.YtikikddkhikfkaaDoor

set_option linter.all false
namespace Go.Proofs.YtikikddkhikfkaaDoor
open Go.RowKit

/-- the cells of a part -/
def partC (idx : Nat) (BA : Option Addr) (bn bcp : Nat) (tot ind : Nat) (LA : Option Addr) (lc : Nat) (A : Option Addr) (m c : Nat) : Array Value := #[.int .u32 (idx : Int), .slice BA bn bcp, .int .i64 (tot : Int), .int .i64 (ind : Int), .slice LA 32 lc, .slice A m c]
set_option maxRecDepth 100000 in
set_option maxHeartbeats 3200000 in
theorem climbRoot_any (gd B p : Nat) (hB : B ≤ gd) (hgK : some gd ≠ some 3) (l : List (List UInt8)) (i : Nat) (hi : i < l.length) (h40 : l.length ≤ 1099511627776) (au : List Sb) (has : au.map Sb.s = auntsL l i) (idx : Nat) (BA A LA : Option Addr) (bn bcp m c lc : Nat) (w : World) (hp : Blk w p 131 (partC idx BA bn bcp l.length i LA lc A m c))
    (hr : RdB w B A m au) (hmc : m ≤ c) (hla : Rd w B 1 LA 32 (bc (leafL (l.getD i [])))) (hlc : 32 ≤ lc) (hlb : ∀ ad, LA = some ad → ad.block < B) (hd : DgAny w gd) (hK : Kw w) :
    Calls Tryd.prog 110 #[.pointer (some ⟨p, 2, none⟩), .iface 182 (.pointer (some ⟨gd, 0, none⟩))] w (ClimbQ w gd (rootL l)) := by
  have KC := Lib.hid (fun W (hW : Below w.heap.size w W) => climb_any gd B hB hgK l.length l i rfl hi h40 au has A LA m c lc w hr hmc hla hlc hlb hd hK)
  have KC2 := Lib.hid (climb_any gd B hB hgK l.length l i rfl hi h40 au has A LA m c lc w.drew hr hmc hla hlc hlb hd hK)
  have HP := Lib.hid hp
  have HNE : Hid (p ≠ gd) := Lib.hid (by obtain ⟨_, _, _, _, _, hb⟩ := hd; exact Blk.ne hp hb (by decide))
  have r0 : ∀ j, w.cell? ⟨p, j, none⟩ = (#[.int .u32 (idx : Int), .slice BA bn bcp, .int .i64 (l.length : Int), .int .i64 (i : Int), .slice LA 32 lc, .slice A m c] : Array Value)[j]? := fun j => hp.cell j
  clear KC r0 hp hr hla hlb hd hK has hi h40 hB hgK
  go_enter Tryd.func110, Tryd.ntmps110
  go_wp2_with fail
  have HS0 : Hid (Blk w.drew p 131 (partC idx BA bn bcp l.length i LA lc A m c)) := HP
  refine wp_region_L (fun w' : World => Blk w' p 131 (partC idx BA bn bcp l.length i LA lc A m c)) 21 (by kernel_rfl) ?_
  refine wpAnyL_take 0 (v := .iface 182 (.pointer (some ⟨gd, 0, none⟩))) rfl (by kernel_rfl) (fun _ _ _ h => h) (yields_on (by kernel_rfl) (fun w' hw' => by have r : ∀ j, w'.cell? ⟨p, j, none⟩ = (#[.int .u32 (idx : Int), .slice BA bn bcp, .int .i64 (l.length : Int), .int .i64 (i : Int), .slice LA 32 lc, .slice A m c] : Array Value)[j]? := (fun j => Blk.cell hw' j); go_simp)) HS0.out ?_
  simp only [Act.put, List.setIfInBounds_toArray, List.set_cons_zero, List.set_cons_succ]
  refine wpAnyL_take 1 (v := .pointer (some ⟨p, 2, none⟩)) rfl (by kernel_rfl) (fun _ _ _ h => h) (yields_on (by kernel_rfl) (fun w' hw' => by have r : ∀ j, w'.cell? ⟨p, j, none⟩ = (#[.int .u32 (idx : Int), .slice BA bn bcp, .int .i64 (l.length : Int), .int .i64 (i : Int), .slice LA 32 lc, .slice A m c] : Array Value)[j]? := (fun j => Blk.cell hw' j); go_simp)) HS0.out ?_
  simp only [Act.put, List.setIfInBounds_toArray, List.set_cons_zero, List.set_cons_succ]
  refine wpAnyL_take 2 (v := .pointer (some ⟨p, 2, none⟩)) rfl (by kernel_rfl) (fun _ _ _ h => h) (yields_on (by kernel_rfl) (fun w' hw' => by have r : ∀ j, w'.cell? ⟨p, j, none⟩ = (#[.int .u32 (idx : Int), .slice BA bn bcp, .int .i64 (l.length : Int), .int .i64 (i : Int), .slice LA 32 lc, .slice A m c] : Array Value)[j]? := (fun j => Blk.cell hw' j); go_simp)) HS0.out ?_
  simp only [Act.put, List.setIfInBounds_toArray, List.set_cons_zero, List.set_cons_succ]
  refine wpAnyL_take 3 (v := .pointer (some ⟨p, 3, none⟩)) rfl (by kernel_rfl) (fun _ _ _ h => h) (yields_on (by kernel_rfl) (fun w' hw' => by have r : ∀ j, w'.cell? ⟨p, j, none⟩ = (#[.int .u32 (idx : Int), .slice BA bn bcp, .int .i64 (l.length : Int), .int .i64 (i : Int), .slice LA 32 lc, .slice A m c] : Array Value)[j]? := (fun j => Blk.cell hw' j); go_simp)) HS0.out ?_
  simp only [Act.put, List.setIfInBounds_toArray, List.set_cons_zero, List.set_cons_succ]
  refine wpAnyL_take 4 (v := .int .i64 (i : Int)) rfl (by kernel_rfl) (fun _ _ _ h => h) (yields_on (by kernel_rfl) (fun w' hw' => by have r : ∀ j, w'.cell? ⟨p, j, none⟩ = (#[.int .u32 (idx : Int), .slice BA bn bcp, .int .i64 (l.length : Int), .int .i64 (i : Int), .slice LA 32 lc, .slice A m c] : Array Value)[j]? := (fun j => Blk.cell hw' j); go_simp)) HS0.out ?_
  simp only [Act.put, List.setIfInBounds_toArray, List.set_cons_zero, List.set_cons_succ]
  refine wpAnyL_take 5 (v := .pointer (some ⟨p, 2, none⟩)) rfl (by kernel_rfl) (fun _ _ _ h => h) (yields_on (by kernel_rfl) (fun w' hw' => by have r : ∀ j, w'.cell? ⟨p, j, none⟩ = (#[.int .u32 (idx : Int), .slice BA bn bcp, .int .i64 (l.length : Int), .int .i64 (i : Int), .slice LA 32 lc, .slice A m c] : Array Value)[j]? := (fun j => Blk.cell hw' j); go_simp)) HS0.out ?_
  simp only [Act.put, List.setIfInBounds_toArray, List.set_cons_zero, List.set_cons_succ]
  refine wpAnyL_take 6 (v := .pointer (some ⟨p, 2, none⟩)) rfl (by kernel_rfl) (fun _ _ _ h => h) (yields_on (by kernel_rfl) (fun w' hw' => by have r : ∀ j, w'.cell? ⟨p, j, none⟩ = (#[.int .u32 (idx : Int), .slice BA bn bcp, .int .i64 (l.length : Int), .int .i64 (i : Int), .slice LA 32 lc, .slice A m c] : Array Value)[j]? := (fun j => Blk.cell hw' j); go_simp)) HS0.out ?_
  simp only [Act.put, List.setIfInBounds_toArray, List.set_cons_zero, List.set_cons_succ]
  refine wpAnyL_take 7 (v := .pointer (some ⟨p, 2, none⟩)) rfl (by kernel_rfl) (fun _ _ _ h => h) (yields_on (by kernel_rfl) (fun w' hw' => by have r : ∀ j, w'.cell? ⟨p, j, none⟩ = (#[.int .u32 (idx : Int), .slice BA bn bcp, .int .i64 (l.length : Int), .int .i64 (i : Int), .slice LA 32 lc, .slice A m c] : Array Value)[j]? := (fun j => Blk.cell hw' j); go_simp)) HS0.out ?_
  simp only [Act.put, List.setIfInBounds_toArray, List.set_cons_zero, List.set_cons_succ]
  refine wpAnyL_take 8 (v := .int .i64 (l.length : Int)) rfl (by kernel_rfl) (fun _ _ _ h => h) (yields_on (by kernel_rfl) (fun w' hw' => by have r : ∀ j, w'.cell? ⟨p, j, none⟩ = (#[.int .u32 (idx : Int), .slice BA bn bcp, .int .i64 (l.length : Int), .int .i64 (i : Int), .slice LA 32 lc, .slice A m c] : Array Value)[j]? := (fun j => Blk.cell hw' j); go_simp)) HS0.out ?_
  simp only [Act.put, List.setIfInBounds_toArray, List.set_cons_zero, List.set_cons_succ]
  refine wpAnyL_take 9 (v := .pointer (some ⟨p, 2, none⟩)) rfl (by kernel_rfl) (fun _ _ _ h => h) (yields_on (by kernel_rfl) (fun w' hw' => by have r : ∀ j, w'.cell? ⟨p, j, none⟩ = (#[.int .u32 (idx : Int), .slice BA bn bcp, .int .i64 (l.length : Int), .int .i64 (i : Int), .slice LA 32 lc, .slice A m c] : Array Value)[j]? := (fun j => Blk.cell hw' j); go_simp)) HS0.out ?_
  simp only [Act.put, List.setIfInBounds_toArray, List.set_cons_zero, List.set_cons_succ]
  refine wpAnyL_take 10 (v := .pointer (some ⟨p, 2, none⟩)) rfl (by kernel_rfl) (fun _ _ _ h => h) (yields_on (by kernel_rfl) (fun w' hw' => by have r : ∀ j, w'.cell? ⟨p, j, none⟩ = (#[.int .u32 (idx : Int), .slice BA bn bcp, .int .i64 (l.length : Int), .int .i64 (i : Int), .slice LA 32 lc, .slice A m c] : Array Value)[j]? := (fun j => Blk.cell hw' j); go_simp)) HS0.out ?_
  simp only [Act.put, List.setIfInBounds_toArray, List.set_cons_zero, List.set_cons_succ]
  refine wpAnyL_take 11 (v := .pointer (some ⟨p, 4, none⟩)) rfl (by kernel_rfl) (fun _ _ _ h => h) (yields_on (by kernel_rfl) (fun w' hw' => by have r : ∀ j, w'.cell? ⟨p, j, none⟩ = (#[.int .u32 (idx : Int), .slice BA bn bcp, .int .i64 (l.length : Int), .int .i64 (i : Int), .slice LA 32 lc, .slice A m c] : Array Value)[j]? := (fun j => Blk.cell hw' j); go_simp)) HS0.out ?_
  simp only [Act.put, List.setIfInBounds_toArray, List.set_cons_zero, List.set_cons_succ]
  refine wpAnyL_take 12 (v := .slice LA 32 lc) rfl (by kernel_rfl) (fun _ _ _ h => h) (yields_on (by kernel_rfl) (fun w' hw' => by have r : ∀ j, w'.cell? ⟨p, j, none⟩ = (#[.int .u32 (idx : Int), .slice BA bn bcp, .int .i64 (l.length : Int), .int .i64 (i : Int), .slice LA 32 lc, .slice A m c] : Array Value)[j]? := (fun j => Blk.cell hw' j); go_simp)) HS0.out ?_
  simp only [Act.put, List.setIfInBounds_toArray, List.set_cons_zero, List.set_cons_succ]
  refine wpAnyL_take 13 (v := .pointer (some ⟨p, 2, none⟩)) rfl (by kernel_rfl) (fun _ _ _ h => h) (yields_on (by kernel_rfl) (fun w' hw' => by have r : ∀ j, w'.cell? ⟨p, j, none⟩ = (#[.int .u32 (idx : Int), .slice BA bn bcp, .int .i64 (l.length : Int), .int .i64 (i : Int), .slice LA 32 lc, .slice A m c] : Array Value)[j]? := (fun j => Blk.cell hw' j); go_simp)) HS0.out ?_
  simp only [Act.put, List.setIfInBounds_toArray, List.set_cons_zero, List.set_cons_succ]
  refine wpAnyL_take 14 (v := .pointer (some ⟨p, 2, none⟩)) rfl (by kernel_rfl) (fun _ _ _ h => h) (yields_on (by kernel_rfl) (fun w' hw' => by have r : ∀ j, w'.cell? ⟨p, j, none⟩ = (#[.int .u32 (idx : Int), .slice BA bn bcp, .int .i64 (l.length : Int), .int .i64 (i : Int), .slice LA 32 lc, .slice A m c] : Array Value)[j]? := (fun j => Blk.cell hw' j); go_simp)) HS0.out ?_
  simp only [Act.put, List.setIfInBounds_toArray, List.set_cons_zero, List.set_cons_succ]
  refine wpAnyL_take 15 (v := .pointer (some ⟨p, 5, none⟩)) rfl (by kernel_rfl) (fun _ _ _ h => h) (yields_on (by kernel_rfl) (fun w' hw' => by have r : ∀ j, w'.cell? ⟨p, j, none⟩ = (#[.int .u32 (idx : Int), .slice BA bn bcp, .int .i64 (l.length : Int), .int .i64 (i : Int), .slice LA 32 lc, .slice A m c] : Array Value)[j]? := (fun j => Blk.cell hw' j); go_simp)) HS0.out ?_
  simp only [Act.put, List.setIfInBounds_toArray, List.set_cons_zero, List.set_cons_succ]
  refine wpAnyL_take 16 (v := .slice A m c) rfl (by kernel_rfl) (fun _ _ _ h => h) (yields_on (by kernel_rfl) (fun w' hw' => by have r : ∀ j, w'.cell? ⟨p, j, none⟩ = (#[.int .u32 (idx : Int), .slice BA bn bcp, .int .i64 (l.length : Int), .int .i64 (i : Int), .slice LA 32 lc, .slice A m c] : Array Value)[j]? := (fun j => Blk.cell hw' j); go_simp)) HS0.out ?_
  simp only [Act.put, List.setIfInBounds_toArray, List.set_cons_zero, List.set_cons_succ]
  refine wpAnyL_one 17 rfl (by kernel_rfl) rfl ?_
  go_simp
  refine KC2.out.mono ?_
  rintro e w1 ⟨A1, c1, rfl, hr1, hc1, ha1, hd1, hg1⟩
  have HS1 : Hid (Blk w1 p 131 (partC idx BA bn bcp l.length i LA lc A m c)) := Lib.hid (Blk.grown (HP.out.drew) hg1 (fun e => HNE.out (Option.some.inj e)))
  have HQ : Hid (Rd w1 w1.heap.size 1 A1 32 (bc (rootL l)) ∧ 32 ≤ c1 ∧ (∀ ad, A1 = some ad → ad.block ≠ gd) ∧ DgAny w1 gd ∧ w.grownBy w1 (some gd)) := Lib.hid ⟨hr1, hc1, ha1, hd1, (grownAny_of (Below.refl w.heap.size w).drew _).trans hg1⟩
  clear hr1 hc1 ha1 hd1 hg1
  refine ⟨HS1.out, ?_⟩
  refine wpAnyL_take 18 (v := .slice A1 32 c1) rfl (by kernel_rfl) (fun _ _ _ h => h) (yields_on (by kernel_rfl) (fun w' hw' => by go_simp)) HS1.out ?_
  simp only [Act.put, List.setIfInBounds_toArray, List.set_cons_zero, List.set_cons_succ]
  refine wpAnyL_take 19 (v := .nilIface) rfl (by kernel_rfl) (fun _ _ _ h => h) (yields_on (by kernel_rfl) (fun w' hw' => by go_simp)) HS1.out ?_
  simp only [Act.put, List.setIfInBounds_toArray, List.set_cons_zero, List.set_cons_succ]
  refine wpAnyL_one 20 rfl (by kernel_rfl) rfl ?_
  go_simp
  refine ⟨HS1.out, ?_⟩
  refine wpAnyL_one 21 rfl (by kernel_rfl) rfl ?_
  go_simp
  refine wpAnyL_done (by kernel_rfl) ?_ _
  go_wp2_with fail
  go_ret2
  exact ⟨A1, c1, rfl, HQ.out.1, HQ.out.2.1, HQ.out.2.2.1, HQ.out.2.2.2.1, HQ.out.2.2.2.2⟩
end Go.Proofs.YtikikddkhikfkaaDoor

set_option linter.all false
namespace Go.Proofs.YtikikddkhikfkaaDoor
open Go.RowKit

theorem bequalR_any (a b : List UInt8) (A B : Option Addr) (n m c d X Y : Nat) (w : World) (ha : Rd w X 1 A n (bc a)) (hb : Rd w Y 1 B m (bc b)) :
    Calls Tryd.prog 100 #[.slice A n c, .slice B m d] w fun e w' => e = .returned (.bool (a == b)) ∧ w = w' := by
  have e1 := conv_row (c := c) ha
  have e2 := conv_row (c := d) hb
  clear ha hb
  go_enter Tryd.func100, Tryd.ntmps100
  go_wp2
  go_ret
  exact ⟨ret_bool (by first | rfl | simp), rfl⟩
theorem errNew_any (s : ByteArray) (w : World) : Calls Tryd.prog 107 #[.string s] w fun e w' => ∃ t v, e = .returned (.iface t v) ∧ Below w.heap.size w w' := by
  go_enter Tryd.func107, Tryd.ntmps107
  go_wp2
  go_ret
  exact ⟨_, _, rfl, (Below.refl _ _).alloc (Nat.le_refl _) _⟩
end Go.Proofs.YtikikddkhikfkaaDoor

set_option linter.all false
namespace Go.Proofs.YtikikddkhikfkaaDoor
open Go.RowKit

set_option maxRecDepth 100000 in
set_option maxHeartbeats 6400000 in
theorem verify_any (p : Nat) (l : List (List UInt8)) (i : Nat) (hi : i < l.length) (h40 : l.length ≤ 1099511627776) (au : List Sb) (has : au.map Sb.s = auntsL l i) (idx : Nat) (BA A LA DA : Option Addr) (RA : Addr) (bn bcp m c lc dn dc rc : Nat) (data : List UInt8) (w : World) (hp : Blk w p 131 (partC idx BA bn bcp l.length i LA lc A m c))
    (hr : RdB w w.heap.size A m au) (hmc : m ≤ c) (hla : Rd w w.heap.size 1 LA 32 (bc (leafL (l.getD i [])))) (hlc : 32 ≤ lc) (hlb : ∀ ad, LA = some ad → ad.block < w.heap.size) (hrt : Rd w w.heap.size 1 (some RA) 32 (bc (rootL l)))
    (hdat : Rd w w.heap.size 1 DA dn (bc data)) (hdc : dn ≤ dc) (hdn : dn ≤ 35184372088832) (hdb : ∀ ad, DA = some ad → ad.block < w.heap.size) (hK : Kw w) :
    Calls Tryd.prog 87 #[.pointer (some ⟨p, 2, none⟩), .slice (some RA) 32 rc, .slice DA dn dc] w fun e w' => (leafL (l.getD i []) = leafL data → e = .returned .nilIface) ∧ (leafL (l.getD i []) ≠ leafL data → ∃ t v, e = .returned (.iface t v)) ∧ Below w.heap.size w w' := by
  have HP := Lib.hid hp; have HK := Lib.hid hK
  have HIN := Lib.hid (And.intro hr (And.intro hla (And.intro hlc (And.intro hlb (And.intro hrt (And.intro hdat (And.intro hdc (And.intro hdn hdb))))))))
  have r : ∀ j, w.cell? ⟨p, j, none⟩ = (#[.int .u32 (idx : Int), .slice BA bn bcp, .int .i64 (l.length : Int), .int .i64 (i : Int), .slice LA 32 lc, .slice A m c] : Array Value)[j]? := fun j => hp.cell j
  clear hp hK hr hla hlc hlb hrt hdat hdc hdn hdb
  by_cases heq : leafL (l.getD i []) = leafL data
  · have HEQ := Lib.hid heq
    clear heq
    have hnil : Sem.run Tryd.prog (binOp BinOp.eql 22 (Value.slice (some RA) 32 rc) (Value.slice none 0 0)) w = Result.ok (.bool false) w := by kernel_rfl
    go_enter Tryd.func87, Tryd.ntmps87
    go_wp2_with fail
    refine (cmNew_any w).mono ?_
    rintro e w1 ⟨rfl, hd1, hb1⟩
    have hgK : some w.heap.size ≠ some 3 := by intro e; injection e with e; have := HK.out.2; omega
    have hp1 := HP.out.belowS hb1
    have HD1 := Lib.hid hd1.any; have HB1 := Lib.hid hb1; have HK1 := Lib.hid (HK.out.belowS hb1); have HGK := Lib.hid hgK; have HP1 := Lib.hid hp1
    have HDAT := Lib.hid ((HIN.out.2.2.2.2.2.1.below hb1).more hb1.size)
    clear hd1 hb1 hgK hp1 r hnil
    go_wp2_with fail
    refine (leafOpt_any w.heap.size DA dn dc data w1 HD1.out HK1.out HGK.out HDAT.out HIN.out.2.2.2.2.2.2.1 HIN.out.2.2.2.2.2.2.2.1 (by intro ad e e2; injection e2 with e2; have := HIN.out.2.2.2.2.2.2.2.2 ad e; omega)).mono ?_
    rintro e w2 ⟨A2, c2, rfl, hf2, hd2, hg2⟩
    have hne : some p ≠ some w.heap.size := by intro e; injection e with e; have := HP.out.lt; omega
    have hp2 := HP1.out.grown hg2 hne
    have hb2 := HB1.out.grown hg2 HB1.out.size (by intro k e; cases e; exact Nat.le_refl _)
    have r : ∀ j, w2.cell? ⟨p, j, none⟩ = (#[.int .u32 (idx : Int), .slice BA bn bcp, .int .i64 (l.length : Int), .int .i64 (i : Int), .slice LA 32 lc, .slice A m c] : Array Value)[j]? := fun j => hp2.cell j
    have HP2 := Lib.hid hp2; have HB2 := Lib.hid hb2; have HF2 := Lib.hid hf2; have HD2 := Lib.hid hd2; have HK2 := Lib.hid (HK1.out.grown hg2 HGK.out)
    clear hne hp2 hb2 hf2 hd2 hg2
    have KE := Lib.hid (bequalR_any (leafL (l.getD i [])) (leafL data) LA A2 32 32 lc c2 _ _ w2 (HIN.out.2.1.below HB2.out) HF2.out.1)
    go_wp2_with fail
    refine KE.out.mono ?_
    rintro e w3 ⟨rfl, rfl⟩
    rw [beq_iff_eq.2 HEQ.out]
    clear KE r
    have KR := Lib.hid (climbRoot_any w.heap.size w.heap.size p (Nat.le_refl _) HGK.out l i hi h40 au has idx BA A LA bn bcp m c lc w2 HP2.out (HIN.out.1.below HB2.out) hmc (HIN.out.2.1.below HB2.out) HIN.out.2.2.1 HIN.out.2.2.2.1 HD2.out HK2.out)
    go_wp2_with fail
    refine KR.out.mono ?_
    rintro e w5 ⟨A5, c5, rfl, hr5, hc5, ha5, hd5, hg5⟩
    have hb5 := HB2.out.grown hg5 HB2.out.size (by intro k e; cases e; exact Nat.le_refl _)
    have HR5 := Lib.hid hr5; have HB5 := Lib.hid hb5
    have KE2 := Lib.hid (bequalR_any (rootL l) (rootL l) A5 (some RA) 32 32 c5 rc _ _ w5 hr5 (HIN.out.2.2.2.2.1.below hb5))
    clear hr5 hc5 ha5 hd5 hg5 hb5 KR
    go_wp2_with fail
    refine KE2.out.mono ?_
    rintro e w6 ⟨rfl, rfl⟩
    rw [beq_self_eq_true]
    clear KE2
    go_wp2_with fail
    go_ret
    exact ⟨fun _ => rfl, fun h => absurd HEQ.out h, HB5.out⟩
  · have HEQ := Lib.hid heq
    clear heq
    have hnil : Sem.run Tryd.prog (binOp BinOp.eql 22 (Value.slice (some RA) 32 rc) (Value.slice none 0 0)) w = Result.ok (.bool false) w := by kernel_rfl
    go_enter Tryd.func87, Tryd.ntmps87
    go_wp2_with fail
    refine (cmNew_any w).mono ?_
    rintro e w1 ⟨rfl, hd1, hb1⟩
    have hgK : some w.heap.size ≠ some 3 := by intro e; injection e with e; have := HK.out.2; omega
    have hp1 := HP.out.belowS hb1
    have HD1 := Lib.hid hd1.any; have HB1 := Lib.hid hb1; have HK1 := Lib.hid (HK.out.belowS hb1); have HGK := Lib.hid hgK; have HP1 := Lib.hid hp1
    have HDAT := Lib.hid ((HIN.out.2.2.2.2.2.1.below hb1).more hb1.size)
    clear hd1 hb1 hgK hp1 r hnil
    go_wp2_with fail
    refine (leafOpt_any w.heap.size DA dn dc data w1 HD1.out HK1.out HGK.out HDAT.out HIN.out.2.2.2.2.2.2.1 HIN.out.2.2.2.2.2.2.2.1 (by intro ad e e2; injection e2 with e2; have := HIN.out.2.2.2.2.2.2.2.2 ad e; omega)).mono ?_
    rintro e w2 ⟨A2, c2, rfl, hf2, hd2, hg2⟩
    have hne : some p ≠ some w.heap.size := by intro e; injection e with e; have := HP.out.lt; omega
    have hp2 := HP1.out.grown hg2 hne
    have hb2 := HB1.out.grown hg2 HB1.out.size (by intro k e; cases e; exact Nat.le_refl _)
    have r : ∀ j, w2.cell? ⟨p, j, none⟩ = (#[.int .u32 (idx : Int), .slice BA bn bcp, .int .i64 (l.length : Int), .int .i64 (i : Int), .slice LA 32 lc, .slice A m c] : Array Value)[j]? := fun j => hp2.cell j
    have HP2 := Lib.hid hp2; have HB2 := Lib.hid hb2; have HF2 := Lib.hid hf2; have HD2 := Lib.hid hd2; have HK2 := Lib.hid (HK1.out.grown hg2 HGK.out)
    clear hne hp2 hb2 hf2 hd2 hg2
    have KE := Lib.hid (bequalR_any (leafL (l.getD i [])) (leafL data) LA A2 32 32 lc c2 _ _ w2 (HIN.out.2.1.below HB2.out) HF2.out.1)
    go_wp2_with fail
    refine KE.out.mono ?_
    rintro e w3 ⟨rfl, rfl⟩
    rw [beq_eq_false_iff_ne.2 HEQ.out]
    clear KE r
    go_wp2_with fail
    refine (errNew_any _ _).mono ?_
    rintro e w4 ⟨t4, v4, rfl, hb4⟩
    have HB4 := Lib.hid (HB2.out.trans (hb4.mono HB2.out.size))
    clear hb4
    go_wp2_with fail
    go_ret
    exact ⟨fun h => absurd h HEQ.out, fun _ => ⟨_, _, rfl⟩, HB4.out⟩
end Go.Proofs.YtikikddkhikfkaaDoor
