/-
  The loops of the reference's SHA-256 (spec.Sum), taken out of its code by a function. By the session.
-/
import Derived.Test.YtikikddkhikfkaaDoorPa3
import Derived.StillTailTactics
set_option linter.all false
namespace Go.Proofs.YtikikddkhikfkaaDoor
def loopsOf : Code → List Code
  | .loop c => .loop c :: loopsOf c
  | .seq a b => loopsOf a ++ loopsOf b
  | .block _ c => loopsOf c
  | .scope c => loopsOf c
  | .cond _ a b => loopsOf a ++ loopsOf b
  | _ => []
theorem still_tail {P : Program} {id : Nat} {Q : Exit → Act → World → Prop} {a : Act} {w : World} {l : List Oper} (n : Nat) (hm : P.follows .mixedOrders = true) (hB : Region.lexTailB .any l.toArray n = true)
    (h : wpStill P l.toArray w.drew (fun a' => wpList P l.toArray Q (l.drop n) a' w.drew) (l.take n) a) : (Code.region id l.toArray true).wp P Q a w := wp_region_still_tail n hm hB h
noncomputable def sumLoop (k : Nat) : Code := (((Tryd.f61.body.map loopsOf).getD [])[k]?).getD .skip
end Go.Proofs.YtikikddkhikfkaaDoor
