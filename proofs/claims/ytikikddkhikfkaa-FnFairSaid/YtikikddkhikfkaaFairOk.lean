/-
  Part of the plain law of FnFair: no program runs here. By the session.
-/
import Derived.Test.YtikikddkhikfkaaFairNum
namespace Fair
def okW (e : Nat) (ws : List Nat) : Bool :=
  let s := ws.foldr (· + ·) 0
  let h := ws.length
  let T := s + 1 + e
  let n := h + 1 + e
  Nat.ble (gn T ws (s - h) (if e = 0 then n * T - n * ((T + n - 1) / n) else h * T)) (2 * T) || ((match e with | 0 => true | _ => false) && sim T (ws.reverse ++ [1]) T [List.replicate n T])
end Fair
