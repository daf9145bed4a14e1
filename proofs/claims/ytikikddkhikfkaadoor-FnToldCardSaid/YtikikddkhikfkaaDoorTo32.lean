/-
  The row itself. For every slice of seats, while the package's table of round constants reads as its initialiser lays it: FnTold answers true, and the slice reads behind the call as it did before: a set's power is that of all, its proposer the one that is ahead, its sum that of keys and powers.
-/
import Derived.Test.YtikikddkhikfkaaDoorTo31
set_option linter.unusedSimpArgs false
namespace Go.Proofs.YtikikddkhikfkaaDoor
open Go.ChangeShapes Go.WideShapes Go.ChangeAt Go.WideMaps Go.WideElems Go.RowKit

theorem fnTold_row : Rows.FnToldSaid :=
  OpenClaim.holds_of_wide 4 Tryd.f4 rfl rfl rfl rfl rfl rfl rfl ⟨rfl, rfl, rfl, rfl, rfl⟩ rfl rfl rfl rfl rfl (by kernel_rfl) Tryd.func4 (by kernel_rfl)
    (of_decide_eq_true (by kernel_rfl)) (by unfold Func.isWrapper; first | (rw [if_pos (by decide +kernel)]; kernel_rfl) | (rw [if_neg (by decide +kernel)]; exact ⟨rfl, rfl⟩))
    (fun os started H enc _ => fnTold_lifted os started H enc)
end Go.Proofs.YtikikddkhikfkaaDoor
