/-
  For every slice of seats, while the package's table of round constants reads as its initialiser lays it: FnTold answers true, and the slice reads behind the call as it did before: a set's power is that of all, its proposer the one that is ahead, its sum that of keys and powers.
-/
import Derived.Test.YtikikddkhikfkaaDoorTo32
set_option linter.unusedSimpArgs false
namespace Go.Proofs.YtikikddkhikfkaaDoor
open Go.ChangeShapes Go.WideShapes Go.ChangeAt Go.WideMaps Go.WideElems Go.RowKit

theorem fnTold_holds : Rows.FnToldCardSaid :=
  Claim7.holds_tied_plain_at .later [] [.data] true (true, "a742c775651d37e4d7840d780cd48f7dfed8d6e12d26169a7e719b8bd3511cb7") false
    fnTold_row (fun _ h => by cases h) (by kernel_rfl) (fun _ h => by cases h) fnTold_row_tie rfl ⟨rfl, rfl⟩ (by kernel_rfl) rfl
    (fun f fn hf hfn => by
      obtain rfl : f = 4 := Option.some.inj ((show Tryd.prog.funcNamed "validatorsandcommits/laws.FnTold" = some 4 by kernel_rfl).symm.trans hf) |>.symm
      obtain rfl : fn = Tryd.f4 := (Option.some.inj (Tryd.func4.symm.trans hfn)).symm
      exact ⟨by kernel_rfl, fun j t ht => by
        rw [Tryd.params4] at ht
        have hm : t ∈ [49] := by simpa using Array.mem_of_getElem? ht
        have hall : ([49].all fun u => !Tryd.prog.wantsStandIn u) = true := by kernel_rfl
        exact (show Tryd.prog.wantsStandIn t = false by simpa using List.all_eq_true.1 hall t hm)⟩)
    (by kernel_rfl)
#print axioms fnTold_holds
end Go.Proofs.YtikikddkhikfkaaDoor
