/-
  Part of the plain law of FnFair: no program runs here. By the session.
-/
import Derived.Test.YtikikddkhikfkaaFairTab1
import Derived.Test.YtikikddkhikfkaaFairTab2
import Derived.Test.YtikikddkhikfkaaFairTab3
import Derived.Test.YtikikddkhikfkaaFairTab4
import Derived.Test.YtikikddkhikfkaaFairTab5
import Derived.Test.YtikikddkhikfkaaFairTab6
import Derived.Test.YtikikddkhikfkaaFairTab7
import Derived.Test.YtikikddkhikfkaaFairTab8
namespace Fair
theorem num7_12_12 : allD (okW 0) 2 5 12 [12, 12] = true := by
  show (List.range 11).all (fun v => allD (okW 0) 2 4 (2 + v) [2 + v, 12, 12]) = true
  rw [List.all_eq_true]
  intro v hv
  rw [List.mem_range] at hv
  have h : v = 0 ∨ v = 1 ∨ v = 2 ∨ v = 3 ∨ v = 4 ∨ v = 5 ∨ v = 6 ∨ v = 7 ∨ v = 8 ∨ v = 9 ∨ v = 10 := by omega
  rcases h with rfl | rfl | rfl | rfl | rfl | rfl | rfl | rfl | rfl | rfl | rfl
  · exact num7_12_12_2
  · exact num7_12_12_3
  · exact num7_12_12_4
  · exact num7_12_12_5
  · exact num7_12_12_6
  · exact num7_12_12_7
  · exact num7_12_12_8
  · exact num7_12_12_9
  · exact num7_12_12_10
  · exact num7_12_12_11
  · exact num7_12_12_12
theorem num7_12 : allD (okW 0) 2 6 12 [12] = true := by
  show (List.range 11).all (fun v => allD (okW 0) 2 5 (2 + v) [2 + v, 12]) = true
  rw [List.all_eq_true]
  intro v hv
  rw [List.mem_range] at hv
  have h : v = 0 ∨ v = 1 ∨ v = 2 ∨ v = 3 ∨ v = 4 ∨ v = 5 ∨ v = 6 ∨ v = 7 ∨ v = 8 ∨ v = 9 ∨ v = 10 := by omega
  rcases h with rfl | rfl | rfl | rfl | rfl | rfl | rfl | rfl | rfl | rfl | rfl
  · exact num7_12_2
  · exact num7_12_3
  · exact num7_12_4
  · exact num7_12_5
  · exact num7_12_6
  · exact num7_12_7
  · exact num7_12_8
  · exact num7_12_9
  · exact num7_12_10
  · exact num7_12_11
  · exact num7_12_12
theorem num7 : allD (okW 0) 2 7 12 [] = true := by
  show (List.range 11).all (fun v => allD (okW 0) 2 6 (2 + v) [2 + v]) = true
  rw [List.all_eq_true]
  intro v hv
  rw [List.mem_range] at hv
  have h : v = 0 ∨ v = 1 ∨ v = 2 ∨ v = 3 ∨ v = 4 ∨ v = 5 ∨ v = 6 ∨ v = 7 ∨ v = 8 ∨ v = 9 ∨ v = 10 := by omega
  rcases h with rfl | rfl | rfl | rfl | rfl | rfl | rfl | rfl | rfl | rfl | rfl
  · exact num7_2
  · exact num7_3
  · exact num7_4
  · exact num7_5
  · exact num7_6
  · exact num7_7
  · exact num7_8
  · exact num7_9
  · exact num7_10
  · exact num7_11
  · exact num7_12
end Fair
