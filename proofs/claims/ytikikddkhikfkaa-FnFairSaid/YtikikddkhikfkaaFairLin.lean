/-
  Part of the plain law of FnFair: no program runs here. By the session.
-/
import Derived.Test.YtikikddkhikfkaaFairNum
namespace Fair

theorem step {k T g A E q : Int} (hk : 0 < k) (hq : q * (k + 1) = 420) (hq0 : 0 ≤ q) (h : 420 * g ≤ (k + 1) * (420 * T + E)) (hA : 0 ≤ A) (hE : 0 ≤ E) :
    420 * max (k * T) ((k * (g + A)) / (k + 1)) ≤ k * (420 * T + E + q * A) := by
  have hqA : 0 ≤ q * A := Int.mul_nonneg hq0 hA
  have h1 : 420 * (k * T) ≤ k * (420 * T + E + q * A) := by
    have : 0 ≤ k * (E + q * A) := Int.mul_nonneg (by omega) (by omega)
    rw [Int.mul_add] at this
    rw [Int.mul_add, Int.mul_add]
    have e : k * (420 * T) = 420 * (k * T) := by rw [← Int.mul_assoc, Int.mul_comm k 420, Int.mul_assoc]
    omega
  have h2 : 420 * ((k * (g + A)) / (k + 1)) ≤ k * (420 * T + E + q * A) := by
    have ha := Int.ediv_mul_le (k * (g + A)) (show k + 1 ≠ 0 by omega)
    generalize (k * (g + A)) / (k + 1) = X at *
    have hb : k * (420 * g) ≤ k * ((k + 1) * (420 * T + E)) := Int.mul_le_mul_of_nonneg_left h (by omega)
    have hc : (420 * X) * (k + 1) ≤ (k * (420 * T + E + q * A)) * (k + 1) := by
      have e1 : (420 * X) * (k + 1) = 420 * (X * (k + 1)) := Int.mul_assoc ..
      have e2 : 420 * (k * (g + A)) = k * (420 * g) + k * (420 * A) := by
        rw [← Int.mul_assoc, Int.mul_comm 420 k, Int.mul_assoc, Int.mul_add, Int.mul_add]
      have e3 : (k * (420 * T + E + q * A)) * (k + 1) = k * ((k + 1) * (420 * T + E)) + k * (420 * A) := by
        have : (420 * T + E + q * A) * (k + 1) = (k + 1) * (420 * T + E) + 420 * A := by
          rw [Int.add_mul, Int.mul_comm (420 * T + E)]
          have : q * A * (k + 1) = 420 * A := by rw [Int.mul_right_comm, hq]
          omega
        rw [Int.mul_assoc, this, Int.mul_add]
      omega
    exact Int.le_of_mul_le_mul_right hc (by omega)
  omega

/-- the weights' part of the bound, times 420 -/
def E (a : Nat → Int) (h : Nat) : Nat → Int
  | 0 => 0
  | d + 1 => E a h d + (420 / ((h : Int) - d)) * sm (h - d) a

theorem top0_le {n h : Nat} {T : Int} (hn : 1 ≤ n) : top0 n h T ≤ h * T := by
  unfold top0
  split
  · have h1 : T ≤ n * ((T + n - 1) / n) := by
      have := Int.mul_ediv_add_emod (T + n - 1) n
      have := Int.emod_lt_of_pos (T + n - 1) (show (0 : Int) < n by omega)
      omega
    have e : (n : Int) * T = h * T + T := by
      have : (n : Int) = h + 1 := by omega
      rw [this, Int.add_mul]; omega
    omega
  · exact Int.le_refl _

theorem G_le {n h : Nat} {T : Int} {a : Nat → Int} (hn : 1 ≤ n) (h7 : h ≤ 7) (ha : ∀ i, i < h → 0 ≤ a i) : ∀ d, d < h → 0 ≤ E a h d ∧ 420 * G T a h (top0 n h T) d ≤ ((h : Int) - d) * (420 * T + E a h d)
  | 0, _ => by
    refine ⟨Int.le_refl _, ?_⟩
    have := top0_le (h := h) (T := T) hn
    simp only [G, E]
    have e : ((h : Int) - (0 : Nat)) * (420 * T + 0) = 420 * (h * T) := by
      rw [Int.add_zero, Int.natCast_zero, Int.sub_zero, ← Int.mul_assoc, Int.mul_comm (h : Int) 420, Int.mul_assoc]
    omega
  | d + 1, hd => by
    obtain ⟨h1, h2⟩ := G_le hn h7 ha d (by omega)
    have hs : 0 ≤ sm (h - d) a := sm_nonneg fun i hi => ha i (by omega)
    obtain ⟨m, hm⟩ : ∃ m : Nat, h - d = m := ⟨_, rfl⟩
    have hmi : (h : Int) - d = m := by omega
    have hq : 0 ≤ (420 : Int) / m ∧ (420 : Int) / m * m = 420 := by
      have h3 : m = 2 ∨ m = 3 ∨ m = 4 ∨ m = 5 ∨ m = 6 ∨ m = 7 := by omega
      rcases h3 with rfl | rfl | rfl | rfl | rfl | rfl <;> decide
    have hk : ((h : Int) - (d + 1)) + 1 = m := by omega
    have hk2 : (h : Int) - ((d + 1 : Nat) : Int) = (h : Int) - (d + 1) := by omega
    simp only [G, E]
    rw [hmi] at h2 ⊢
    rw [hk2]
    have := step (k := (h : Int) - (d + 1)) (T := T) (g := G T a h (top0 n h T) d) (A := sm (h - d) a) (E := E a h d) (q := 420 / m) (by omega) (by rw [hk]; exact hq.2) hq.1 (by rw [hk]; exact h2) hs h1
    refine ⟨?_, ?_⟩
    · have := Int.mul_nonneg hq.1 hs; omega
    · rw [Int.add_assoc] at this
      exact this

theorem sm_le_part {n h : Nat} {w : Nat → Int} (hh : h ≤ n) (hw : ∀ i, i < n → 0 ≤ w i) : sm h w ≤ sm n w := by
  induction n with
  | zero => have : h = 0 := by omega
            subst this; exact Int.le_refl _
  | succ n ih =>
    by_cases e : h = n + 1
    · subst e; exact Int.le_refl _
    · simp only [sm]
      have := ih (by omega) fun i hi => hw i (by omega)
      have := hw n (by omega)
      omega
theorem sm_part_one {n h j : Nat} {w : Nat → Int} (hh : h ≤ j) (hj : j < n) (hw : ∀ i, i < n → 0 ≤ w i) : sm h w + w j ≤ sm n w := by
  have h1 := sm_le_part (h := j + 1) (n := n) (w := w) (by omega) hw
  have h2 := sm_le_part (h := h) (n := j) (w := w) hh fun i hi => hw i (by omega)
  simp only [sm] at h1
  omega

/-- the bound, where it follows by linear arithmetic alone -/
theorem E_le {n h j : Nat} {w : Nat → Int} {T : Int} (hs : Set_ n w T) (h12 : ∀ i, i < n → w i ≤ 12) (hj : j < n) (hh : h ≤ j) (hh1 : ∀ i, i < h → w j < w i) (h0 : 1 ≤ h) (hc : h ≤ 5 ∨ (h ≤ 7 ∧ 2 ≤ w j)) :
    E (fun i => w i - w j) h (h - 1) ≤ 420 * T := by
  have hT := sm_part_one (n := n) (h := h) (j := j) (w := w) hh hj (fun i hi => by have := hs.one i hi; omega)
  rw [hs.all] at hT
  have h1 := hs.one j hj
  have g : ∀ i, i < h → w j < w i ∧ w i ≤ 12 := fun i hi => ⟨hh1 i hi, h12 i (by omega)⟩
  have s : ∀ i, i + 1 < h → w (i + 1) ≤ w i := fun i hi => hs.sorted i (i + 1) (by omega) (by omega)
  have hcase : h = 1 ∨ h = 2 ∨ h = 3 ∨ h = 4 ∨ h = 5 ∨ (h = 6 ∧ 2 ≤ w j) ∨ (h = 7 ∧ 2 ≤ w j) := by omega
  rcases hcase with rfl | rfl | rfl | rfl | rfl | ⟨rfl, h2⟩ | ⟨rfl, h2⟩
  all_goals simp [E, sm] at hT ⊢
  · have := g 0 (by omega); omega
  · have := g 0 (by omega); have := g 1 (by omega); omega
  · have := g 0 (by omega); have := g 1 (by omega); have := g 2 (by omega); have := s 0 (by omega); have := s 1 (by omega); omega
  · have := g 0 (by omega); have := g 1 (by omega); have := g 2 (by omega); have := g 3 (by omega); have := s 0 (by omega); have := s 1 (by omega); have := s 2 (by omega); omega
  · have := g 0 (by omega); have := g 1 (by omega); have := g 2 (by omega); have := g 3 (by omega); have := g 4 (by omega); have := s 0 (by omega); have := s 1 (by omega); have := s 2 (by omega); have := s 3 (by omega); omega
  · have := g 0 (by omega); have := g 1 (by omega); have := g 2 (by omega); have := g 3 (by omega); have := g 4 (by omega); have := g 5 (by omega); have := s 0 (by omega); have := s 1 (by omega); have := s 2 (by omega); have := s 3 (by omega); have := s 4 (by omega); omega
  · have := g 0 (by omega); have := g 1 (by omega); have := g 2 (by omega); have := g 3 (by omega); have := g 4 (by omega); have := g 5 (by omega); have := g 6 (by omega); have := s 0 (by omega); have := s 1 (by omega); have := s 2 (by omega); have := s 3 (by omega); have := s 4 (by omega); have := s 5 (by omega); omega
end Fair
