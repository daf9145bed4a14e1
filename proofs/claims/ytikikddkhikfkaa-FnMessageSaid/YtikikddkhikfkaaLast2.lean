/-
  A region that draws its order, with guarded operations. By the session.
-/
import Derived.Test.YtikikddkhikfkaaLast
namespace Go.Proofs.Ytikikddkhikfkaa
open Go.RowKit

section
variable {P : Program} {ops : Array Oper} {Q : Exit → Act → World → Prop} {S : World → Prop} {md : Region.Mode} {s : Nat}
theorem wpAnyL_on (i : Nat) {oi : Oper} {fuel : Nat} {listed : Array Bool} {a : Act} {w : World} (hi : ops[i]? = some oi) (hr : Region.ready md ops listed = [i]) (hw : Region.wanted oi (yielded ops a.tmps) = true)
    (h : oi.wp P a w (fun a' w' => (i ≠ s → S w') ∧ wpAnyL P md ops Q S s fuel (listed.setIfInBounds i true) a' w') Q) : wpAnyL P md ops Q S s (fuel + 1) listed a w := by
  refine ⟨fun h0 => by rw [hr] at h0; simp at h0, fun j hj => ?_⟩
  rw [hr, List.mem_singleton] at hj
  subst hj
  unfold wpOp
  simp only [hi]
  rw [if_pos hw]
  exact .inl h
theorem wpAnyL_off (i : Nat) {oi : Oper} {fuel : Nat} {listed : Array Bool} {a : Act} {w : World} (hi : ops[i]? = some oi) (hr : Region.ready md ops listed = [i]) (hw : Region.wanted oi (yielded ops a.tmps) = false) (hS : S w)
    (h : wpAnyL P md ops Q S s fuel (listed.setIfInBounds i true) (a.put oi.dst undef) w) : wpAnyL P md ops Q S s (fuel + 1) listed a w := by
  refine ⟨fun h0 => by rw [hr] at h0; simp at h0, fun j hj => ?_⟩
  rw [hr, List.mem_singleton] at hj
  subst hj
  unfold wpOp
  simp only [hi]
  rw [if_neg (by rw [hw]; simp)]
  exact ⟨fun _ => hS, h⟩
theorem yields_on {o : Oper} {v : Value} {a : Act} (hw : Region.wanted o (yielded ops a.tmps) = true) (h : ∀ w, S w → (execOp a.eval o).run P w = .ok (.value v) w) : YieldsIf P ops S o v a := .inl ⟨hw, h⟩
theorem yields_off {o : Oper} {a : Act} (hw : Region.wanted o (yielded ops a.tmps) = false) : YieldsIf P ops S o undef a := .inr ⟨hw, rfl⟩
end

theorem bytesLess_anti : ∀ (a b : List UInt8), a ≠ b → Op.bytesLess a b = !Op.bytesLess b a
  | [], [], h => absurd rfl h
  | [], b :: y, _ => by simp [Op.bytesLess]
  | a :: x, [], _ => by simp [Op.bytesLess]
  | a :: x, b :: y, h => by
    simp only [Op.bytesLess]
    by_cases e : a = b
    · subst e
      have hxy : x ≠ y := fun e => h (by rw [e])
      have ih := bytesLess_anti x y hxy
      simp only [UInt8.lt_irrefl, decide_false, beq_self_eq_true, Bool.true_and, Bool.false_or]
      exact ih
    · have e1 : (a == b) = false := by simpa using e
      have e2 : (b == a) = false := by simpa using fun e' : b = a => e e'.symm
      rw [e1, e2]
      simp only [Bool.false_and, Bool.or_false]
      by_cases hlt : a < b
      · have : ¬ b < a := fun h2 => UInt8.lt_asymm hlt h2
        simp [hlt, this]
      · have : b < a := by
          rcases UInt8.lt_or_lt_of_ne e with h | h
          · exact absurd h hlt
          · exact h
        simp [hlt, this]
end Go.Proofs.Ytikikddkhikfkaa
