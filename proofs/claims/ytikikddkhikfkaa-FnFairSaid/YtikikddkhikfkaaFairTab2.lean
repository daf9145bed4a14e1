/-
  Part of the plain law of FnFair: no program runs here. By the session.
-/
import Derived.Test.YtikikddkhikfkaaFairOk
namespace Fair
theorem num7_11 : allD (okW 0) 2 6 11 [11] = true := by decide +kernel
end Fair
