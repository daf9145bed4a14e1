/-
  The row itself. For every two slices of seats, and whatever else stands in memory while the package's sentinel reads as its initialiser lays it: FnChanged answers true, and both slices read behind the call as they did before: a set behind changes is what the specification says, and changes that can't be made leave it as it was.
-/
import Derived.Test.YtikikddkhikfkaaGreatDoorCh25
import Derived.Test.YtikikddkhikfkaaGreatDoorTie
import Derived.Test.YtikikddkhikfkaaGreatDoorCards
import Derived.LaidMore
import Derived.LaidLaws
import Derived.OpenShut
import Derived.Stop.Joined
import Derived.SevenTiedAt
set_option linter.unusedSimpArgs false
namespace Go.Proofs.YtikikddkhikfkaaGreatDoor
open Go.ChangeShapes Go.WideShapes Go.ChangeAt Go.WideMaps Go.WideElems Go.RowKit


theorem fnChanged_row : Rows.FnChangedSaid :=
  OpenClaim.holds_of_wide 3 Tryz.f3 rfl rfl rfl rfl rfl rfl rfl ⟨rfl, rfl, rfl, rfl, rfl⟩ rfl rfl rfl rfl rfl (by kernel_rfl) Tryz.func3 (by kernel_rfl)
    (of_decide_eq_true (by kernel_rfl)) (by unfold Func.isWrapper; first | (rw [if_pos (by decide +kernel)]; kernel_rfl) | (rw [if_neg (by decide +kernel)]; exact ⟨rfl, rfl⟩))
    (fun os started H enc _ => fnChanged_lifted os started H enc)
end Go.Proofs.YtikikddkhikfkaaGreatDoor
