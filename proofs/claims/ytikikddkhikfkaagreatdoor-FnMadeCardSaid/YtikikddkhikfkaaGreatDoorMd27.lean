/-
  For every slice of seats, and whatever else stands in memory while the package's sentinel reads as its initialiser lays it: FnMade answers true, and the slice reads behind the call as it did before: a new set is what the specification says, behind one turn, or it can't be made.
-/
import Derived.Test.YtikikddkhikfkaaGreatDoorMd26
import Derived.Test.YtikikddkhikfkaaGreatDoorTie
import Derived.Test.YtikikddkhikfkaaGreatDoorCards
import Derived.LaidMore
import Derived.LaidLaws
import Derived.OpenShut
import Derived.Stop.Joined
import Derived.SevenTiedAt
set_option linter.unusedSimpArgs false
namespace Go.Proofs.YtikikddkhikfkaaGreatDoor
open Go.ChangeShapes Go.WideShapes Go.ChangeAt Go.WideMaps Go.WideElems Go.RowKit

theorem fnMade_holds : Rows.FnMadeCardSaid :=
  Claim7.holds_tied_plain_at .later [] [.sentinel] true (true, "27ddfabc4e5811726a722e95b63c3e4ee7ea1e2a4c05ec24074af4fb6876cd75") false
    fnMade_row (fun _ h => by cases h) (by kernel_rfl) (fun _ h => by cases h) fnMade_row_tie rfl ⟨rfl, rfl⟩ (by kernel_rfl) rfl
    (fun f fn hf hfn => by
      obtain rfl : f = 4 := Option.some.inj ((show Tryz.prog.funcNamed "validatorsandcommits/laws.FnMade" = some 4 by kernel_rfl).symm.trans hf) |>.symm
      obtain rfl : fn = Tryz.f4 := (Option.some.inj (Tryz.func4.symm.trans hfn)).symm
      exact ⟨by kernel_rfl, fun j t ht => by
        rw [Tryz.params4] at ht
        have hm : t ∈ [22] := by simpa using Array.mem_of_getElem? ht
        have hall : ([22].all fun u => !Tryz.prog.wantsStandIn u) = true := by kernel_rfl
        exact (show Tryz.prog.wantsStandIn t = false by simpa using List.all_eq_true.1 hall t hm)⟩)
    (by kernel_rfl)
#print axioms fnMade_holds
end Go.Proofs.YtikikddkhikfkaaGreatDoor
