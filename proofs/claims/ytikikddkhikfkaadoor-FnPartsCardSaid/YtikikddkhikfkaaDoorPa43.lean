/-
  The row itself. For every two slices of bytes, every slice of whole numbers and every two whole numbers, while the package's table of round constants and its two sentinels read as their initialisers lay them: FnParts answers true, and all reads behind the call as it did before: data in parts of a size, their root, each part taken once, a part of another sum not taken.
-/
import Derived.Test.YtikikddkhikfkaaDoorPa42
set_option linter.unusedSimpArgs false
namespace Go.Proofs.YtikikddkhikfkaaDoor
open Go.ChangeShapes Go.WideShapes Go.ChangeAt Go.WideMaps Go.WideElems Go.RowKit

theorem fnParts_row : Rows.FnPartsSaid :=
  OpenClaim.holds_of_wide 5 Tryd.f5 rfl rfl rfl rfl rfl rfl rfl ⟨rfl, rfl, rfl, rfl, rfl⟩ rfl rfl rfl rfl rfl (by kernel_rfl) Tryd.func5 (by kernel_rfl)
    (of_decide_eq_true (by kernel_rfl)) (by unfold Func.isWrapper; first | (rw [if_pos (by decide +kernel)]; kernel_rfl) | (rw [if_neg (by decide +kernel)]; exact ⟨rfl, rfl⟩))
    (fun os started H enc _ => fnParts_lifted os started H enc)
end Go.Proofs.YtikikddkhikfkaaDoor
