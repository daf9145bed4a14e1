/-
  Sums that stay at the ends of what 64 bits hold: safeAdd, safeSub, their clips, spec.plus: walks. By the session.
-/
import Derived.Test.YtikikddkhikfkaaRows
import Derived.Test.YtikikddkhikfkaaMem
set_option linter.unusedSimpArgs false
namespace Go.Proofs.Ytikikddkhikfkaa
open Go.RowKit

def clip (x : Int) : Int := if 9223372036854775807 < x then 9223372036854775807 else if x < -9223372036854775808 then -9223372036854775808 else x
def in64 (x : Int) : Prop := -9223372036854775808 ≤ x ∧ x ≤ 9223372036854775807
theorem clip_in (x : Int) : in64 (clip x) := by unfold clip in64; split <;> (try split) <;> omega
theorem clip_of {x : Int} (h : in64 x) : clip x = x := by unfold clip in64 at *; rw [if_neg (by omega), if_neg (by omega)]

set_option maxHeartbeats 800000 in
theorem safeAdd_any (a b : Int) (w : World) (ha : in64 a) (hb : in64 b) :
    Calls Try.prog 101 #[.int .i64 a, .int .i64 b] w fun e w' => (in64 (a + b) → e = .returned (.tuple #[.int .i64 (a + b), .bool false])) ∧ (¬ in64 (a + b) → e = .returned (.tuple #[.int .i64 (-1), .bool true])) ∧ w = w' := by
  unfold in64 at *
  by_cases h1 : 0 < b
  · have q1 : wrap64 (9223372036854775807 - b) = 9223372036854775807 - b := by unfold wrap64; omega
    by_cases h2 : 9223372036854775807 - b < a
    · go_enter Try.func101, Try.ntmps101
      go_wp2
      go_ret2
      exact ⟨fun h => by omega, fun _ => rfl, rfl⟩
    · have q2 : decide (b < 0) = false := by simp; omega
      have q3 : wrap64 (a + b) = a + b := by unfold wrap64; omega
      go_enter Try.func101, Try.ntmps101
      go_wp2
      go_ret2
      exact ⟨fun _ => by simp [q3], fun h => by omega, rfl⟩
  · have q0 : decide (0 < b) = false := by simpa using h1
    by_cases h2 : b < 0
    · have q1 : wrap64 (-9223372036854775808 - b) = -9223372036854775808 - b := by unfold wrap64; omega
      by_cases h3 : a < -9223372036854775808 - b
      · go_enter Try.func101, Try.ntmps101
        go_wp2
        go_ret2
        exact ⟨fun h => by omega, fun _ => rfl, rfl⟩
      · have q3 : wrap64 (a + b) = a + b := by unfold wrap64; omega
        go_enter Try.func101, Try.ntmps101
        go_wp2
        go_ret2
        exact ⟨fun _ => by simp [q3], fun h => by omega, rfl⟩
    · have q3 : wrap64 (a + b) = a + b := by unfold wrap64; omega
      have q4 : decide (b < 0) = false := by simpa using h2
      go_enter Try.func101, Try.ntmps101
      go_wp2
      go_ret2
      exact ⟨fun _ => by simp [q3], fun h => by omega, rfl⟩

set_option maxHeartbeats 800000 in
theorem safeSub_any (a b : Int) (w : World) (ha : in64 a) (hb : in64 b) :
    Calls Try.prog 100 #[.int .i64 a, .int .i64 b] w fun e w' => (in64 (a - b) → e = .returned (.tuple #[.int .i64 (a - b), .bool false])) ∧ (¬ in64 (a - b) → e = .returned (.tuple #[.int .i64 (-1), .bool true])) ∧ w = w' := by
  unfold in64 at *
  by_cases h1 : 0 < b
  · have q1 : wrap64 (-9223372036854775808 + b) = -9223372036854775808 + b := by unfold wrap64; omega
    by_cases h2 : a < -9223372036854775808 + b
    · go_enter Try.func100, Try.ntmps100
      go_wp2
      go_ret2
      exact ⟨fun h => by omega, fun _ => rfl, rfl⟩
    · have q2 : decide (b < 0) = false := by simp; omega
      have q3 : wrap64 (a - b) = a - b := by unfold wrap64; omega
      go_enter Try.func100, Try.ntmps100
      go_wp2
      go_ret2
      exact ⟨fun _ => by simp [q3], fun h => by omega, rfl⟩
  · have q0 : decide (0 < b) = false := by simpa using h1
    by_cases h2 : b < 0
    · have q1 : wrap64 (9223372036854775807 + b) = 9223372036854775807 + b := by unfold wrap64; omega
      by_cases h3 : 9223372036854775807 + b < a
      · go_enter Try.func100, Try.ntmps100
        go_wp2
        go_ret2
        exact ⟨fun h => by omega, fun _ => rfl, rfl⟩
      · have q3 : wrap64 (a - b) = a - b := by unfold wrap64; omega
        go_enter Try.func100, Try.ntmps100
        go_wp2
        go_ret2
        exact ⟨fun _ => by simp [q3], fun h => by omega, rfl⟩
    · have q3 : wrap64 (a - b) = a - b := by unfold wrap64; omega
      have q4 : decide (b < 0) = false := by simpa using h2
      go_enter Try.func100, Try.ntmps100
      go_wp2
      go_ret2
      exact ⟨fun _ => by simp [q3], fun h => by omega, rfl⟩

theorem addClip_any (a b : Int) (w : World) (ha : in64 a) (hb : in64 b) :
    Calls Try.prog 85 #[.int .i64 a, .int .i64 b] w fun e w' => e = .returned (.int .i64 (clip (a + b))) ∧ w = w' := by
  have HC := Lib.hid (safeAdd_any a b w ha hb)
  by_cases hin : in64 (a + b)
  · have hcl := clip_of hin
    go_enter Try.func85, Try.ntmps85
    go_wp2_with fail
    refine HC.out.mono ?_
    rintro e w1 ⟨h1, _, rfl⟩
    obtain rfl := h1 hin
    go_wp2
    go_ret
    exact ⟨ret_int hcl.symm, rfl⟩
  · have hcl : clip (a + b) = if b < 0 then -9223372036854775808 else 9223372036854775807 := by
      unfold clip in64 at *
      by_cases hb0 : b < 0
      · rw [if_pos hb0, if_neg (by omega), if_pos (by omega)]
      · rw [if_neg hb0, if_pos (by omega)]
    by_cases hb0 : b < 0
    · rw [if_pos hb0] at hcl
      go_enter Try.func85, Try.ntmps85
      go_wp2_with fail
      refine HC.out.mono ?_
      rintro e w1 ⟨_, h1, rfl⟩
      obtain rfl := h1 hin
      go_wp2
      go_ret
      exact ⟨ret_int hcl.symm, rfl⟩
    · rw [if_neg hb0] at hcl
      have hb1 : decide (b < 0) = false := by simpa using hb0
      go_enter Try.func85, Try.ntmps85
      go_wp2_with fail
      refine HC.out.mono ?_
      rintro e w1 ⟨_, h1, rfl⟩
      obtain rfl := h1 hin
      go_wp2
      go_ret
      exact ⟨ret_int hcl.symm, rfl⟩

theorem subClip_any (a b : Int) (w : World) (ha : in64 a) (hb : in64 b) :
    Calls Try.prog 84 #[.int .i64 a, .int .i64 b] w fun e w' => e = .returned (.int .i64 (clip (a - b))) ∧ w = w' := by
  have HC := Lib.hid (safeSub_any a b w ha hb)
  by_cases hin : in64 (a - b)
  · have hcl := clip_of hin
    go_enter Try.func84, Try.ntmps84
    go_wp2_with fail
    refine HC.out.mono ?_
    rintro e w1 ⟨h1, _, rfl⟩
    obtain rfl := h1 hin
    go_wp2
    go_ret
    exact ⟨ret_int hcl.symm, rfl⟩
  · have hcl : clip (a - b) = if 0 < b then -9223372036854775808 else 9223372036854775807 := by
      unfold clip in64 at *
      by_cases hb0 : 0 < b
      · rw [if_pos hb0, if_neg (by omega), if_pos (by omega)]
      · rw [if_neg hb0, if_pos (by omega)]
    by_cases hb0 : 0 < b
    · rw [if_pos hb0] at hcl
      go_enter Try.func84, Try.ntmps84
      go_wp2_with fail
      refine HC.out.mono ?_
      rintro e w1 ⟨_, h1, rfl⟩
      obtain rfl := h1 hin
      go_wp2
      go_ret
      exact ⟨ret_int hcl.symm, rfl⟩
    · rw [if_neg hb0] at hcl
      have hb1 : decide (0 < b) = false := by simpa using hb0
      go_enter Try.func84, Try.ntmps84
      go_wp2_with fail
      refine HC.out.mono ?_
      rintro e w1 ⟨_, h1, rfl⟩
      obtain rfl := h1 hin
      go_wp2
      go_ret
      exact ⟨ret_int hcl.symm, rfl⟩

theorem plus_any (a b : Int) (w : World) (ha : in64 a) (hb : in64 b) :
    Calls Try.prog 50 #[.int .i64 a, .int .i64 b] w fun e w' => e = .returned (.int .i64 (clip (a + b))) ∧ w = w' := by
  by_cases hb0 : 0 < b
  · have hb2 : decide (b < 0) = false := by simp; omega
    by_cases hlt : wrap64 (a + b) < a
    · have hcl : clip (a + b) = 9223372036854775807 := by
        unfold clip in64 wrap64 at *
        rw [if_pos (by omega)]
      go_enter Try.func50, Try.ntmps50
      go_wp2
      go_ret
      first | exact ⟨rfl, rfl⟩ | exact ⟨ret_int hcl.symm, rfl⟩
    · have hlt' : decide (wrap64 (a + b) < a) = false := by simpa using hlt
      have hcl : clip (a + b) = wrap64 (a + b) := by
        unfold clip in64 wrap64 at *
        rw [if_neg (by omega), if_neg (by omega)]; omega
      go_enter Try.func50, Try.ntmps50
      go_wp2
      go_ret
      first | exact ⟨rfl, rfl⟩ | exact ⟨ret_int hcl.symm, rfl⟩
  · have hb1 : decide (0 < b) = false := by simpa using hb0
    by_cases hb2 : b < 0
    · by_cases hlt : a < wrap64 (a + b)
      · have hcl : clip (a + b) = -9223372036854775808 := by
          unfold clip in64 wrap64 at *
          rw [if_neg (by omega), if_pos (by omega)]
        go_enter Try.func50, Try.ntmps50
        go_wp2
        go_ret
        first | exact ⟨rfl, rfl⟩ | exact ⟨ret_int hcl.symm, rfl⟩
      · have hlt' : decide (a < wrap64 (a + b)) = false := by simpa using hlt
        have hcl : clip (a + b) = wrap64 (a + b) := by
          unfold clip in64 wrap64 at *
          rw [if_neg (by omega), if_neg (by omega)]; omega
        go_enter Try.func50, Try.ntmps50
        go_wp2
        go_ret
        first | exact ⟨rfl, rfl⟩ | exact ⟨ret_int hcl.symm, rfl⟩
    · have hb3 : decide (b < 0) = false := by simpa using hb2
      have hcl : clip (a + b) = wrap64 (a + b) := by
        unfold clip in64 wrap64 at *
        rw [if_neg (by omega), if_neg (by omega)]; omega
      go_enter Try.func50, Try.ntmps50
      go_wp2
      go_ret
      first | exact ⟨rfl, rfl⟩ | exact ⟨ret_int hcl.symm, rfl⟩
end Go.Proofs.Ytikikddkhikfkaa
