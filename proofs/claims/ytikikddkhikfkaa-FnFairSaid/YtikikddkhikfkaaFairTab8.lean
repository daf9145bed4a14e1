/-
  Part of the plain law of FnFair: no program runs here. By the session.
-/
import Derived.Test.YtikikddkhikfkaaFairOk
namespace Fair
theorem num6b : allD (okW 1) 2 6 12 [] = true := by decide +kernel
end Fair
