/-
  Part of the plain law of FnFair: no program runs here. By the session.
-/
import Derived.Test.YtikikddkhikfkaaFairOk
namespace Fair
theorem num6a : allD (okW 0) 2 6 12 [] = true := by decide +kernel
theorem num7_2 : allD (okW 0) 2 6 2 [2] = true := by decide +kernel
theorem num7_3 : allD (okW 0) 2 6 3 [3] = true := by decide +kernel
theorem num7_4 : allD (okW 0) 2 6 4 [4] = true := by decide +kernel
theorem num7_5 : allD (okW 0) 2 6 5 [5] = true := by decide +kernel
theorem num7_6 : allD (okW 0) 2 6 6 [6] = true := by decide +kernel
theorem num7_7 : allD (okW 0) 2 6 7 [7] = true := by decide +kernel
theorem num7_8 : allD (okW 0) 2 6 8 [8] = true := by decide +kernel
theorem num7_9 : allD (okW 0) 2 6 9 [9] = true := by decide +kernel
theorem num7_10 : allD (okW 0) 2 6 10 [10] = true := by decide +kernel
end Fair
