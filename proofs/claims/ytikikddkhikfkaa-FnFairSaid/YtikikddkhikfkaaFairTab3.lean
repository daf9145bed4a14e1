/-
  Part of the plain law of FnFair: no program runs here. By the session.
-/
import Derived.Test.YtikikddkhikfkaaFairOk
namespace Fair
theorem num7_12_2 : allD (okW 0) 2 5 2 [2, 12] = true := by decide +kernel
theorem num7_12_3 : allD (okW 0) 2 5 3 [3, 12] = true := by decide +kernel
theorem num7_12_4 : allD (okW 0) 2 5 4 [4, 12] = true := by decide +kernel
theorem num7_12_5 : allD (okW 0) 2 5 5 [5, 12] = true := by decide +kernel
theorem num7_12_6 : allD (okW 0) 2 5 6 [6, 12] = true := by decide +kernel
theorem num7_12_7 : allD (okW 0) 2 5 7 [7, 12] = true := by decide +kernel
theorem num7_12_8 : allD (okW 0) 2 5 8 [8, 12] = true := by decide +kernel
theorem num7_12_9 : allD (okW 0) 2 5 9 [9, 12] = true := by decide +kernel
theorem num7_12_10 : allD (okW 0) 2 5 10 [10, 12] = true := by decide +kernel
end Fair
