/-
  What the row's condition gives the walks: the package's table of round constants stands where the program lays it. By the session.
-/
import Derived.Test.YtikikddkhikfkaaDoorSu39
import Derived.Test.YtikikddkhikfkaaDoorTie
import Derived.Test.YtikikddkhikfkaaDoorCards
import Derived.LaidMore
import Derived.LaidLaws
import Derived.Lib.LaidTab
import Derived.OpenShut
import Derived.Stop.Joined
import Derived.SevenTiedAt
set_option linter.all false
namespace Go.Proofs.YtikikddkhikfkaaDoor
open Go.ChangeShapes Go.WideShapes Go.ChangeAt Go.WideMaps Go.WideElems Go.RowKit

theorem gK : Tryd.prog.globalNamed "validatorsandcommits/pub/sha256._K" = some 3 := by kernel_rfl
theorem tK : (Tryd.prog.globals[3]?).map (·.type) = some 175 := by kernel_rfl
theorem laidK_eq : (Rows.laid_validatorsandcommits_pub_sha256_K : DataW Unit) = Lib.tabData .u32 (shaK.map fun x => (x.toNat : Int)) := by kernel_rfl
theorem kw_of {W : World} {rest : List (String × DataW Unit)} (h : laidMet Tryd.prog (("validatorsandcommits/pub/sha256._K", Rows.laid_validatorsandcommits_pub_sha256_K) :: rest) W) : Kw W := by
  rw [laidK_eq] at h
  have hT := Lib.tabIs_of_head gK tK Tryd.underlying175 Tryd.underlying90 (by kernel_rfl) (by kernel_rfl) h
  have hc : ∀ i, i < 64 → W.cell? ⟨3, i, none⟩ = some (uv (shaK.getD i 0)) := fun i hi => by
    have h1 := hT.cell gK i (by rw [List.length_map]; exact hi)
    rw [h1, List.getD_eq_getElem?_getD, List.getElem?_map, List.getD_eq_getElem?_getD, List.getElem?_eq_getElem (show i < shaK.length from hi)]
    rfl
  exact ⟨hc, World.block_lt_of_cell? W _ (hc 0 (by decide))⟩
end Go.Proofs.YtikikddkhikfkaaDoor
