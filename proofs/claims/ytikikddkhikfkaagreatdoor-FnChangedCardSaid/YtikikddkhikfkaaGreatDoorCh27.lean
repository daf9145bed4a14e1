/-
  For every two slices of seats, and whatever else stands in memory while the package's sentinel reads as its initialiser lays it: FnChanged answers true, and both slices read behind the call as they did before: a set behind changes is what the specification says, and changes that can't be made leave it as it was.
-/
import Derived.Test.YtikikddkhikfkaaGreatDoorCh26
import Derived.Test.YtikikddkhikfkaaGreatDoorTie
import Derived.Test.YtikikddkhikfkaaGreatDoorCards
import Derived.LaidMore
import Derived.LaidLaws
import Derived.OpenShut
import Derived.Stop.Joined
import Derived.SevenTiedAt
set_option linter.unusedSimpArgs false
namespace Go.Proofs.YtikikddkhikfkaaGreatDoor
open Go.ChangeShapes Go.WideShapes Go.ChangeAt Go.WideMaps Go.WideElems Go.RowKit

theorem fnChanged_holds : Rows.FnChangedCardSaid :=
  Claim7.holds_tied_plain_at .later [] [.sentinel] true (true, "27ddfabc4e5811726a722e95b63c3e4ee7ea1e2a4c05ec24074af4fb6876cd75") false
    fnChanged_row (fun _ h => by cases h) (by kernel_rfl) (fun _ h => by cases h) fnChanged_row_tie rfl ⟨rfl, rfl⟩ (by kernel_rfl) rfl
    (fun f fn hf hfn => by
      obtain rfl : f = 3 := Option.some.inj ((show Tryz.prog.funcNamed "validatorsandcommits/laws.FnChanged" = some 3 by kernel_rfl).symm.trans hf) |>.symm
      obtain rfl : fn = Tryz.f3 := (Option.some.inj (Tryz.func3.symm.trans hfn)).symm
      exact ⟨by kernel_rfl, fun j t ht => by
        rw [Tryz.params3] at ht
        have hm : t ∈ [22, 22] := by simpa using Array.mem_of_getElem? ht
        have hall : ([22, 22].all fun u => !Tryz.prog.wantsStandIn u) = true := by kernel_rfl
        exact (show Tryz.prog.wantsStandIn t = false by simpa using List.all_eq_true.1 hall t hm)⟩)
    (by kernel_rfl)
#print axioms fnChanged_holds
end Go.Proofs.YtikikddkhikfkaaGreatDoor
