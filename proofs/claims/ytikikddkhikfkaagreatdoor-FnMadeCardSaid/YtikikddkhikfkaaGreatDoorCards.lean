/-
  DERIVED. GIVEN WITH THE SEED: THE CARDS: each row of YtikikddkhikfkaaGreatDoorRows.lean that lists a variable, with what it lists TIED to the program's text (the seventh form; the later family's looks); each row that meets fmt, with fmt's text TOLD by the authors' own Lean function (tested against real Go, not proved from fmt's source: count such statements apart). THE CARD IS WHAT COUNTS. Prove the row's statement (the work); the ties are given (YtikikddkhikfkaaGreatDoorTie.lean); close each card by the builder's one call (the guide's Derived/Test/ToyasCard.lean, 'card_holds'). Laid BY PROGRAM, IN A SANDBOX (cutbox-door.mjs). By AI agents, Wed Nov 11 2026. No macro, syntax, notation, axiom, sorry.
-/
import Derived.Test.YtikikddkhikfkaaGreatDoorRows
import GoSem.ClaimSeven
namespace Go.Proofs.YtikikddkhikfkaaGreatDoor
namespace Rows

/-- THE TIED CARD OF 'laws.FnChanged'. -/
def fnChangedCard : Claim7 := { stood := { row := fnChangedRow, standIns := [], harness := (true, "27ddfabc4e5811726a722e95b63c3e4ee7ea1e2a4c05ec24074af4fb6876cd75"), looks := false }, kinds := [], alts := [], laidByText := true, laidKinds := [.sentinel], laidTests := true, laidLooks := .later }
def FnChangedCardSaid : Prop := Claim7.holds Tryz.pinned (.plain (OpenSpec.ofChange fnChangedSpec)) fnChangedCard

/-- THE TIED CARD OF 'laws.FnMade'. -/
def fnMadeCard : Claim7 := { stood := { row := fnMadeRow, standIns := [], harness := (true, "27ddfabc4e5811726a722e95b63c3e4ee7ea1e2a4c05ec24074af4fb6876cd75"), looks := false }, kinds := [], alts := [], laidByText := true, laidKinds := [.sentinel], laidTests := true, laidLooks := .later }
def FnMadeCardSaid : Prop := Claim7.holds Tryz.pinned (.plain (OpenSpec.ofChange fnMadeSpec)) fnMadeCard

/-- THE TIED CARD OF 'laws.FnTrusted'. -/
def fnTrustedCard : Claim7 := { stood := { row := fnTrustedRow, standIns := [], harness := (true, "27ddfabc4e5811726a722e95b63c3e4ee7ea1e2a4c05ec24074af4fb6876cd75"), looks := false }, kinds := [], alts := [], laidByText := true, laidKinds := [.data], laidTests := true, laidLooks := .later }
def FnTrustedCardSaid : Prop := Claim7.holds Tryz.pinned (.plain (OpenSpec.ofChange fnTrustedSpec)) fnTrustedCard

/-- THE TIED CARD OF 'laws.FnVerified'. -/
def fnVerifiedCard : Claim7 := { stood := { row := fnVerifiedRow, standIns := [], harness := (true, "27ddfabc4e5811726a722e95b63c3e4ee7ea1e2a4c05ec24074af4fb6876cd75"), looks := false }, kinds := [], alts := [], laidByText := true, laidKinds := [.data], laidTests := true, laidLooks := .later }
def FnVerifiedCardSaid : Prop := Claim7.holds Tryz.pinned (.plain (OpenSpec.ofChange fnVerifiedSpec)) fnVerifiedCard

/-- THE SECOND FORM's CARD OF 'laws.FnChanged'. -/
def fnChangedUptoCard : Claim7 := { stood := { row := fnChangedUptoRow, standIns := [], harness := (true, "27ddfabc4e5811726a722e95b63c3e4ee7ea1e2a4c05ec24074af4fb6876cd75"), looks := false }, kinds := [], alts := [], laidByText := true, laidKinds := [.sentinel], laidTests := true, laidLooks := .later }
def FnChangedUptoCardSaid : Prop := Claim7.holds Tryz.pinned (.plain (OpenSpec.upto fnChangedSpec)) fnChangedUptoCard

/-- THE SECOND FORM's CARD OF 'laws.FnMade'. -/
def fnMadeUptoCard : Claim7 := { stood := { row := fnMadeUptoRow, standIns := [], harness := (true, "27ddfabc4e5811726a722e95b63c3e4ee7ea1e2a4c05ec24074af4fb6876cd75"), looks := false }, kinds := [], alts := [], laidByText := true, laidKinds := [.sentinel], laidTests := true, laidLooks := .later }
def FnMadeUptoCardSaid : Prop := Claim7.holds Tryz.pinned (.plain (OpenSpec.upto fnMadeSpec)) fnMadeUptoCard

/-- THE SECOND FORM's CARD OF 'laws.FnTrusted'. -/
def fnTrustedUptoCard : Claim7 := { stood := { row := fnTrustedUptoRow, standIns := [], harness := (true, "27ddfabc4e5811726a722e95b63c3e4ee7ea1e2a4c05ec24074af4fb6876cd75"), looks := false }, kinds := [], alts := [], laidByText := true, laidKinds := [.data], laidTests := true, laidLooks := .later }
def FnTrustedUptoCardSaid : Prop := Claim7.holds Tryz.pinned (.plain (OpenSpec.upto fnTrustedSpec)) fnTrustedUptoCard

/-- THE SECOND FORM's CARD OF 'laws.FnVerified'. -/
def fnVerifiedUptoCard : Claim7 := { stood := { row := fnVerifiedUptoRow, standIns := [], harness := (true, "27ddfabc4e5811726a722e95b63c3e4ee7ea1e2a4c05ec24074af4fb6876cd75"), looks := false }, kinds := [], alts := [], laidByText := true, laidKinds := [.data], laidTests := true, laidLooks := .later }
def FnVerifiedUptoCardSaid : Prop := Claim7.holds Tryz.pinned (.plain (OpenSpec.upto fnVerifiedSpec)) fnVerifiedUptoCard
end Rows
end Go.Proofs.YtikikddkhikfkaaGreatDoor
