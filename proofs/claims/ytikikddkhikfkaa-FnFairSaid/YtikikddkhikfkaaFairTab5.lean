/-
  Part of the plain law of FnFair: no program runs here. By the session.
-/
import Derived.Test.YtikikddkhikfkaaFairOk
namespace Fair
theorem num7_12_12_2 : allD (okW 0) 2 4 2 [2, 12, 12] = true := by decide +kernel
theorem num7_12_12_3 : allD (okW 0) 2 4 3 [3, 12, 12] = true := by decide +kernel
theorem num7_12_12_4 : allD (okW 0) 2 4 4 [4, 12, 12] = true := by decide +kernel
theorem num7_12_12_5 : allD (okW 0) 2 4 5 [5, 12, 12] = true := by decide +kernel
theorem num7_12_12_6 : allD (okW 0) 2 4 6 [6, 12, 12] = true := by decide +kernel
theorem num7_12_12_7 : allD (okW 0) 2 4 7 [7, 12, 12] = true := by decide +kernel
theorem num7_12_12_8 : allD (okW 0) 2 4 8 [8, 12, 12] = true := by decide +kernel
end Fair
