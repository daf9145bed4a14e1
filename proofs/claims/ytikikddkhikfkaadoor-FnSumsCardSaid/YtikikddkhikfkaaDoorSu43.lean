/-
  For every commit and every header, while the package's table of round constants reads as its initialiser lays it: FnSums answers true, and both read behind the call as they did before: a commit's sum is that of all that is said, a header's that of its fields.
-/
import Derived.Test.YtikikddkhikfkaaDoorSu42
set_option linter.unusedSimpArgs false
namespace Go.Proofs.YtikikddkhikfkaaDoor
open Go.ChangeShapes Go.WideShapes Go.ChangeAt Go.WideMaps Go.WideElems Go.RowKit

theorem fnSums_holds : Rows.FnSumsCardSaid :=
  Claim7.holds_tied_plain_at .later [] [.data] true (true, "a742c775651d37e4d7840d780cd48f7dfed8d6e12d26169a7e719b8bd3511cb7") false
    fnSums_row (fun _ h => by cases h) (by kernel_rfl) (fun _ h => by cases h) fnSums_row_tie rfl ⟨rfl, rfl⟩ (by kernel_rfl) rfl
    (fun f fn hf hfn => by
      obtain rfl : f = 3 := Option.some.inj ((show Tryd.prog.funcNamed "validatorsandcommits/laws.FnSums" = some 3 by kernel_rfl).symm.trans hf) |>.symm
      obtain rfl : fn = Tryd.f3 := (Option.some.inj (Tryd.func3.symm.trans hfn)).symm
      exact ⟨by kernel_rfl, fun j t ht => by
        rw [Tryd.params3] at ht
        have hm : t ∈ [27, 32] := by simpa using Array.mem_of_getElem? ht
        have hall : ([27, 32].all fun u => !Tryd.prog.wantsStandIn u) = true := by kernel_rfl
        exact (show Tryd.prog.wantsStandIn t = false by simpa using List.all_eq_true.1 hall t hm)⟩)
    (by kernel_rfl)
#print axioms fnSums_holds
end Go.Proofs.YtikikddkhikfkaaDoor
