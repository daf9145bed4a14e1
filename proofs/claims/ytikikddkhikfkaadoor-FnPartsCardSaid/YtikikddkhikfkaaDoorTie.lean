/-
  DERIVED. GIVEN WITH THE SEED: THE PROGRAM's TIES (one call each: nine closed facts by the kernel) AND EACH ROW's TIE, after the 31st guide's Derived/Test/Toyas{Tie, Card}.lean. No idea stands in it: it is a product of the set-up. Laid BY PROGRAM, IN A SANDBOX (cutbox-door.mjs). By AI agents, Wed Nov 11 2026. No macro, syntax, notation, axiom, sorry.
-/
import Derived.Test.YtikikddkhikfkaaDoorRows
import Derived.LaidByTextLater
import Derived.SevenTiedAt
import Derived.LaidSub
import Derived.LaidOnce
namespace Go.Proofs.YtikikddkhikfkaaDoor
open Go
set_option maxRecDepth 100000
theorem seatTie1 : Tryd.prog.laidByTextLater [("validatorsandcommits/pub/sha256._K", Rows.laid_validatorsandcommits_pub_sha256_K), ("validatorsandcommits/pub/comettypes.ErrPartSetUnexpectedIndex", Rows.laid_validatorsandcommits_pub_comettypes_ErrPartSetUnexpectedIndex), ("validatorsandcommits/pub/comettypes.ErrPartSetInvalidProof", Rows.laid_validatorsandcommits_pub_comettypes_ErrPartSetInvalidProof)] [.data, .sentinel, .sentinel] true :=
  Program.laidByTextLater_by_one 52 8 65 (by kernel_rfl) (by kernel_rfl) (by kernel_rfl) (by kernel_rfl) (by kernel_rfl) (by kernel_rfl) (fun _ _ => by kernel_rfl)
theorem noOwnUnsafe : Tryd.pinned.checked.prog.headLifts.contains "ownunsafe" = false := by kernel_rfl
theorem tie : Tryd.prog.laidByTextLater [("validatorsandcommits/pub/sha256._K", Rows.laid_validatorsandcommits_pub_sha256_K)] [.data] true :=
  Program.laidByTextLater.sub seatTie1 ["validatorsandcommits/pub/sha256._K"] (by kernel_rfl) (by kernel_rfl)
theorem fnSums_row_tie : Rows.fnSumsRow.laidByTextAt .later Tryd.pinned [.data] true :=
  OpenClaim.laidByTextAt_later rfl rfl tie noOwnUnsafe
theorem fnTold_row_tie : Rows.fnToldRow.laidByTextAt .later Tryd.pinned [.data] true :=
  OpenClaim.laidByTextAt_later rfl rfl tie noOwnUnsafe
theorem tie2 : Tryd.prog.laidByTextLater [("validatorsandcommits/pub/sha256._K", Rows.laid_validatorsandcommits_pub_sha256_K), ("validatorsandcommits/pub/comettypes.ErrPartSetUnexpectedIndex", Rows.laid_validatorsandcommits_pub_comettypes_ErrPartSetUnexpectedIndex), ("validatorsandcommits/pub/comettypes.ErrPartSetInvalidProof", Rows.laid_validatorsandcommits_pub_comettypes_ErrPartSetInvalidProof)] [.data, .sentinel, .sentinel] true :=
  Program.laidByTextLater.sub seatTie1 ["validatorsandcommits/pub/sha256._K", "validatorsandcommits/pub/comettypes.ErrPartSetUnexpectedIndex", "validatorsandcommits/pub/comettypes.ErrPartSetInvalidProof"] (by kernel_rfl) (by kernel_rfl)
theorem fnParts_row_tie : Rows.fnPartsRow.laidByTextAt .later Tryd.pinned [.data, .sentinel, .sentinel] true :=
  OpenClaim.laidByTextAt_later rfl rfl tie2 noOwnUnsafe
theorem fnSumsUpto_row_tie : Rows.fnSumsUptoRow.laidByTextAt .later Tryd.pinned [.data] true :=
  OpenClaim.laidByTextAt_later rfl rfl tie noOwnUnsafe
theorem fnToldUpto_row_tie : Rows.fnToldUptoRow.laidByTextAt .later Tryd.pinned [.data] true :=
  OpenClaim.laidByTextAt_later rfl rfl tie noOwnUnsafe
theorem fnPartsUpto_row_tie : Rows.fnPartsUptoRow.laidByTextAt .later Tryd.pinned [.data, .sentinel, .sentinel] true :=
  OpenClaim.laidByTextAt_later rfl rfl tie2 noOwnUnsafe
end Go.Proofs.YtikikddkhikfkaaDoor
