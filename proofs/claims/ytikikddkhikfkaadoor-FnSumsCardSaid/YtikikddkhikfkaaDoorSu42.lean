/-
  The row itself. For every commit and every header, while the package's table of round constants reads as its initialiser lays it: FnSums answers true, and both read behind the call as they did before: a commit's sum is that of all that is said, a header's that of its fields.
-/
import Derived.Test.YtikikddkhikfkaaDoorSu41
set_option linter.unusedSimpArgs false
namespace Go.Proofs.YtikikddkhikfkaaDoor
open Go.ChangeShapes Go.WideShapes Go.ChangeAt Go.WideMaps Go.WideElems Go.RowKit

theorem fnSums_row : Rows.FnSumsSaid :=
  OpenClaim.holds_of_wide 3 Tryd.f3 rfl rfl rfl rfl rfl rfl rfl ⟨rfl, rfl, rfl, rfl, rfl⟩ rfl rfl rfl rfl rfl (by kernel_rfl) Tryd.func3 (by kernel_rfl)
    (of_decide_eq_true (by kernel_rfl)) (by unfold Func.isWrapper; first | (rw [if_pos (by decide +kernel)]; kernel_rfl) | (rw [if_neg (by decide +kernel)]; exact ⟨rfl, rfl⟩))
    (fun os started H enc _ => fnSums_lifted os started H enc)
end Go.Proofs.YtikikddkhikfkaaDoor
