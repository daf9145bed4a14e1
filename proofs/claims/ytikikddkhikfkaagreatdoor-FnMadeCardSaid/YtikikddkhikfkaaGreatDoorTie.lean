/-
  DERIVED. GIVEN WITH THE SEED: THE PROGRAM's TIES (one call each: nine closed facts by the kernel) AND EACH ROW's TIE, after the 31st guide's Derived/Test/Toyas{Tie, Card}.lean. No idea stands in it: it is a product of the set-up. Laid BY PROGRAM, IN A SANDBOX (cutbox-door.mjs). By AI agents, Wed Nov 11 2026. No macro, syntax, notation, axiom, sorry.
-/
import Derived.Test.YtikikddkhikfkaaGreatDoorRows
import Derived.LaidByTextLater
import Derived.SevenTiedAt
import Derived.LaidSub
import Derived.LaidOnce
namespace Go.Proofs.YtikikddkhikfkaaGreatDoor
open Go
set_option maxRecDepth 100000
theorem seatTie1 : Tryz.prog.laidByTextLater [("validatorsandcommits/pub/sha256._K", Rows.laid_validatorsandcommits_pub_sha256_K), ("validatorsandcommits/pub/comettypes.ErrTotalVotingPowerOverflow", Rows.laid_validatorsandcommits_pub_comettypes_ErrTotalVotingPowerOverflow)] [.data, .sentinel] true :=
  Program.laidByTextLater_by_one 71 8 65 (by kernel_rfl) (by kernel_rfl) (by kernel_rfl) (by kernel_rfl) (by kernel_rfl) (by kernel_rfl) (fun _ _ => by kernel_rfl)
theorem noOwnUnsafe : Tryz.pinned.checked.prog.headLifts.contains "ownunsafe" = false := by kernel_rfl
theorem tie : Tryz.prog.laidByTextLater [("validatorsandcommits/pub/comettypes.ErrTotalVotingPowerOverflow", Rows.laid_validatorsandcommits_pub_comettypes_ErrTotalVotingPowerOverflow)] [.sentinel] true :=
  Program.laidByTextLater.sub seatTie1 ["validatorsandcommits/pub/comettypes.ErrTotalVotingPowerOverflow"] (by kernel_rfl) (by kernel_rfl)
theorem fnChanged_row_tie : Rows.fnChangedRow.laidByTextAt .later Tryz.pinned [.sentinel] true :=
  OpenClaim.laidByTextAt_later rfl rfl tie noOwnUnsafe
theorem fnMade_row_tie : Rows.fnMadeRow.laidByTextAt .later Tryz.pinned [.sentinel] true :=
  OpenClaim.laidByTextAt_later rfl rfl tie noOwnUnsafe
theorem tie2 : Tryz.prog.laidByTextLater [("validatorsandcommits/pub/sha256._K", Rows.laid_validatorsandcommits_pub_sha256_K)] [.data] true :=
  Program.laidByTextLater.sub seatTie1 ["validatorsandcommits/pub/sha256._K"] (by kernel_rfl) (by kernel_rfl)
theorem fnTrusted_row_tie : Rows.fnTrustedRow.laidByTextAt .later Tryz.pinned [.data] true :=
  OpenClaim.laidByTextAt_later rfl rfl tie2 noOwnUnsafe
theorem fnVerified_row_tie : Rows.fnVerifiedRow.laidByTextAt .later Tryz.pinned [.data] true :=
  OpenClaim.laidByTextAt_later rfl rfl tie2 noOwnUnsafe
theorem fnChangedUpto_row_tie : Rows.fnChangedUptoRow.laidByTextAt .later Tryz.pinned [.sentinel] true :=
  OpenClaim.laidByTextAt_later rfl rfl tie noOwnUnsafe
theorem fnMadeUpto_row_tie : Rows.fnMadeUptoRow.laidByTextAt .later Tryz.pinned [.sentinel] true :=
  OpenClaim.laidByTextAt_later rfl rfl tie noOwnUnsafe
theorem fnTrustedUpto_row_tie : Rows.fnTrustedUptoRow.laidByTextAt .later Tryz.pinned [.data] true :=
  OpenClaim.laidByTextAt_later rfl rfl tie2 noOwnUnsafe
theorem fnVerifiedUpto_row_tie : Rows.fnVerifiedUptoRow.laidByTextAt .later Tryz.pinned [.data] true :=
  OpenClaim.laidByTextAt_later rfl rfl tie2 noOwnUnsafe
end Go.Proofs.YtikikddkhikfkaaGreatDoor
