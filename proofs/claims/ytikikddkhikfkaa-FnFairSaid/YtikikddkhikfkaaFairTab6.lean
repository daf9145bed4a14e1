/-
  Part of the plain law of FnFair: no program runs here. By the session.
-/
import Derived.Test.YtikikddkhikfkaaFairOk
namespace Fair
theorem num7_12_12_9 : allD (okW 0) 2 4 9 [9, 12, 12] = true := by decide +kernel
theorem num7_12_12_10 : allD (okW 0) 2 4 10 [10, 12, 12] = true := by decide +kernel
end Fair
