/-
  For every two slices of bytes, every slice of whole numbers and every two whole numbers, while the package's table of round constants and its two sentinels read as their initialisers lay them: FnParts answers true, and all reads behind the call as it did before: data in parts of a size, their root, each part taken once, a part of another sum not taken.
-/
import Derived.Test.YtikikddkhikfkaaDoorPa43
set_option linter.unusedSimpArgs false
namespace Go.Proofs.YtikikddkhikfkaaDoor
open Go.ChangeShapes Go.WideShapes Go.ChangeAt Go.WideMaps Go.WideElems Go.RowKit

theorem fnParts_holds : Rows.FnPartsCardSaid :=
  Claim7.holds_tied_plain_at .later [] [.data, .sentinel, .sentinel] true (true, "a742c775651d37e4d7840d780cd48f7dfed8d6e12d26169a7e719b8bd3511cb7") false
    fnParts_row (fun _ h => by cases h) (by kernel_rfl) (fun _ h => by cases h) fnParts_row_tie rfl ⟨rfl, rfl⟩ (by kernel_rfl) rfl
    (fun f fn hf hfn => by
      obtain rfl : f = 5 := Option.some.inj ((show Tryd.prog.funcNamed "validatorsandcommits/laws.FnParts" = some 5 by kernel_rfl).symm.trans hf) |>.symm
      obtain rfl : fn = Tryd.f5 := (Option.some.inj (Tryd.func5.symm.trans hfn)).symm
      exact ⟨by kernel_rfl, fun j t ht => by
        rw [Tryd.params5] at ht
        have hm : t ∈ [22, 3, 60, 3, 22] := by simpa using Array.mem_of_getElem? ht
        have hall : ([22, 3, 60, 3, 22].all fun u => !Tryd.prog.wantsStandIn u) = true := by kernel_rfl
        exact (show Tryd.prog.wantsStandIn t = false by simpa using List.all_eq_true.1 hall t hm)⟩)
    (by kernel_rfl)
#print axioms fnParts_holds
end Go.Proofs.YtikikddkhikfkaaDoor
