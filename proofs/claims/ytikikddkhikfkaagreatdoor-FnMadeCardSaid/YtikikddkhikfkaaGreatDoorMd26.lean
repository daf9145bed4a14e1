/-
  The row itself. For every slice of seats, and whatever else stands in memory while the package's sentinel reads as its initialiser lays it: FnMade answers true, and the slice reads behind the call as it did before: a new set is what the specification says, behind one turn, or it can't be made.
-/
import Derived.Test.YtikikddkhikfkaaGreatDoorMd25
import Derived.Test.YtikikddkhikfkaaGreatDoorTie
import Derived.Test.YtikikddkhikfkaaGreatDoorCards
import Derived.LaidMore
import Derived.LaidLaws
import Derived.OpenShut
import Derived.Stop.Joined
import Derived.SevenTiedAt
set_option linter.unusedSimpArgs false
namespace Go.Proofs.YtikikddkhikfkaaGreatDoor
open Go.ChangeShapes Go.WideShapes Go.ChangeAt Go.WideMaps Go.WideElems Go.RowKit


theorem fnMade_row : Rows.FnMadeSaid :=
  OpenClaim.holds_of_wide 4 Tryz.f4 rfl rfl rfl rfl rfl rfl rfl ⟨rfl, rfl, rfl, rfl, rfl⟩ rfl rfl rfl rfl rfl (by kernel_rfl) Tryz.func4 (by kernel_rfl)
    (of_decide_eq_true (by kernel_rfl)) (by unfold Func.isWrapper; first | (rw [if_pos (by decide +kernel)]; kernel_rfl) | (rw [if_neg (by decide +kernel)]; exact ⟨rfl, rfl⟩))
    (fun os started H enc _ => fnMade_lifted os started H enc)
end Go.Proofs.YtikikddkhikfkaaGreatDoor
