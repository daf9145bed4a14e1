/-
  The orders of validators, in plain Lean: by address; by falling power, of equal ones by address: strict, and of distinct addresses whole. By the session.
-/
import Derived.Test.YtikikddkhikfkaaGreatDoorCh3
import Derived.Shelf.GgSortFunc.Whole
set_option linter.all false
namespace Go.Proofs.YtikikddkhikfkaaGreatDoor
open Go.RowKit

theorem cb_refl : ∀ a : List UInt8, Lib.compareBytes a a = 0
  | [] => rfl
  | x :: r => by simp only [Lib.compareBytes, UInt8.lt_irrefl, if_false]; exact cb_refl r
theorem u8_asymm {x y : UInt8} (h : x < y) : ¬ y < x := by rw [UInt8.lt_iff_toNat_lt] at *; omega
theorem u8_eq {x y : UInt8} (h : ¬ x < y) (h' : ¬ y < x) : x = y := by
  rw [UInt8.lt_iff_toNat_lt] at *
  exact UInt8.toNat_inj.1 (by omega)
theorem cb_neg : ∀ a b : List UInt8, Lib.compareBytes b a = - Lib.compareBytes a b
  | [], [] => rfl
  | [], _ :: _ => rfl
  | _ :: _, [] => rfl
  | x :: r, y :: s => by
    simp only [Lib.compareBytes]
    by_cases h1 : x < y
    · rw [if_pos h1, if_neg (u8_asymm h1), if_pos h1]; rfl
    · rw [if_neg h1]
      by_cases h2 : y < x
      · rw [if_pos h2, if_neg h1, if_pos h2]
      · rw [if_neg h2, if_neg h2, if_neg h1]; exact cb_neg r s
theorem cb_trans : ∀ a b c : List UInt8, Lib.compareBytes a b < 0 → Lib.compareBytes b c < 0 → Lib.compareBytes a c < 0
  | a, [], c => fun h _ => by cases a <;> simp [Lib.compareBytes] at h
  | a, _ :: _, [] => fun _ h => by simp [Lib.compareBytes] at h
  | [], y :: s, z :: t => fun _ _ => by simp [Lib.compareBytes]
  | x :: r, y :: s, z :: t => fun h1 h2 => by
    simp only [Lib.compareBytes] at h1 h2 ⊢
    by_cases hxy : x < y
    · by_cases hyz : y < z
      · have : x < z := by rw [UInt8.lt_iff_toNat_lt] at *; omega
        rw [if_pos this]; decide
      · rw [if_neg hyz] at h2
        by_cases hzy : z < y
        · rw [if_pos hzy] at h2; omega
        · have := u8_eq hyz hzy
          subst this
          rw [if_pos hxy]; decide
    · rw [if_neg hxy] at h1
      by_cases hyx : y < x
      · rw [if_pos hyx] at h1; omega
      · have := u8_eq hxy hyx
        subst this
        rw [if_neg hxy] at h1
        by_cases hyz : x < z
        · rw [if_pos hyz]; decide
        · rw [if_neg hyz] at h2 ⊢
          by_cases hzy : z < x
          · rw [if_pos hzy] at h2; omega
          · rw [if_neg hzy] at h2 ⊢; exact cb_trans r s t h1 h2
theorem less_iff (a b : List UInt8) : Op.bytesLess a b = true ↔ Lib.compareBytes a b < 0 := by rw [bytesLess_eq]; simp
theorem less_false (a b : List UInt8) : Op.bytesLess a b = false ↔ 0 ≤ Lib.compareBytes a b := by rw [bytesLess_eq]; simp
theorem less_irrefl (a : List UInt8) : Op.bytesLess a a = false := by rw [less_false, cb_refl]; exact Int.le_refl _
theorem less_trans {a b c : List UInt8} (h : Op.bytesLess a b = true) (h' : Op.bytesLess b c = true) : Op.bytesLess a c = true := by
  rw [less_iff] at *; exact cb_trans _ _ _ h h'
theorem less_total {a b : List UInt8} (h : Op.bytesLess a b = false) (h' : Op.bytesLess b a = false) : a = b := by
  rw [less_false] at *
  have := cb_neg a b
  exact compare_zero a b (by omega)
theorem less_ntrans {a b c : List UInt8} (h : Op.bytesLess a b = false) (h' : Op.bytesLess b c = false) : Op.bytesLess a c = false := by
  cases hac : Op.bytesLess a c with
  | false => rfl
  | true =>
    cases hba : Op.bytesLess b a with
    | true => rw [less_trans hba hac] at h'; cases h'
    | false =>
      have := less_total h hba
      subst this
      rw [h'] at hac; cases hac
theorem less_asymm {a b : List UInt8} (h : Op.bytesLess a b = true) : Op.bytesLess b a = false := by
  cases hb : Op.bytesLess b a with
  | false => rfl
  | true => have := less_trans h hb; rw [less_irrefl] at this; cases this
/-- by address -/
def adrB (x y : Sd) : Bool := Op.bytesLess x.adr.toList y.adr.toList
theorem swo_adr {α : Type} (f : α → Sd) : Go.Sort.SWO (fun x y : α => adrB (f x) (f y)) :=
  ⟨fun x => less_irrefl _, fun _ _ _ h h' => less_trans h h', fun _ _ _ h h' => less_ntrans h h'⟩
theorem before_iff (x y : Sd) : beforeB x y = true ↔ y.pow < x.pow ∨ (x.pow = y.pow ∧ adrB x y = true) := by
  unfold beforeB adrB; simp
theorem before_false (x y : Sd) : beforeB x y = false ↔ ¬ (y.pow < x.pow ∨ (x.pow = y.pow ∧ adrB x y = true)) := by
  rw [← before_iff]; simp
theorem swo_before {α : Type} (f : α → Sd) : Go.Sort.SWO (fun x y : α => beforeB (f x) (f y)) := by
  refine ⟨fun x => ?_, fun x y z h h' => ?_, fun x y z h h' => ?_⟩
  · rw [before_false]; rintro (h | ⟨_, h⟩)
    · omega
    · unfold adrB at h; rw [less_irrefl] at h; cases h
  · simp only [before_iff] at *
    rcases h with h | ⟨h1, h2⟩ <;> rcases h' with h' | ⟨h1', h2'⟩
    · exact .inl (by omega)
    · exact .inl (by omega)
    · exact .inl (by omega)
    · exact .inr ⟨by omega, less_trans h2 h2'⟩
  · simp only [before_false] at *
    intro hc
    rcases hc with hc | ⟨hc1, hc2⟩
    · by_cases h1 : (f y).pow < (f x).pow
      · exact h (.inl h1)
      · exact h' (.inl (by omega))
    · by_cases h1 : (f y).pow < (f x).pow
      · exact h (.inl h1)
      · by_cases h2 : (f z).pow < (f y).pow
        · exact h' (.inl h2)
        · have e1 : (f x).pow = (f y).pow := by omega
          have e2 : (f y).pow = (f z).pow := by omega
          have a1 : adrB (f x) (f y) = false := by
            cases h3 : adrB (f x) (f y) with
            | false => rfl
            | true => exact absurd (.inr ⟨e1, h3⟩) h
          have a2 : adrB (f y) (f z) = false := by
            cases h3 : adrB (f y) (f z) with
            | false => rfl
            | true => exact absurd (.inr ⟨e2, h3⟩) h'
          rw [show adrB (f x) (f z) = false from less_ntrans a1 a2] at hc2
          cases hc2
end Go.Proofs.YtikikddkhikfkaaGreatDoor
