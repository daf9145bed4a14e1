/-
  Part of the plain law of FnFair: no program runs here. By the session.
-/
import Derived.Test.YtikikddkhikfkaaFairOk
namespace Fair
theorem num7_12_12_11 : allD (okW 0) 2 4 11 [11, 12, 12] = true := by decide +kernel
theorem num7_12_12_12 : allD (okW 0) 2 4 12 [12, 12, 12] = true := by decide +kernel
end Fair
