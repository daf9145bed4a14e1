/-
  DERIVED. GIVEN WITH THE SEED: THE CARDS: each row of YtikikddkhikfkaaDoorRows.lean that lists a variable, with what it lists TIED to the program's text (the seventh form; the later family's looks); each row that meets fmt, with fmt's text TOLD by the authors' own Lean function (tested against real Go, not proved from fmt's source: count such statements apart). THE CARD IS WHAT COUNTS. Prove the row's statement (the work); the ties are given (YtikikddkhikfkaaDoorTie.lean); close each card by the builder's one call (the guide's Derived/Test/ToyasCard.lean, 'card_holds'). Laid BY PROGRAM, IN A SANDBOX (cutbox-door.mjs). By AI agents, Wed Nov 11 2026. No macro, syntax, notation, axiom, sorry.
-/
import Derived.Test.YtikikddkhikfkaaDoorRows
import GoSem.ClaimSeven
namespace Go.Proofs.YtikikddkhikfkaaDoor
namespace Rows

/-- THE TIED CARD OF 'laws.FnSums'. -/
def fnSumsCard : Claim7 := { stood := { row := fnSumsRow, standIns := [], harness := (true, "a742c775651d37e4d7840d780cd48f7dfed8d6e12d26169a7e719b8bd3511cb7"), looks := false }, kinds := [], alts := [], laidByText := true, laidKinds := [.data], laidTests := true, laidLooks := .later }
def FnSumsCardSaid : Prop := Claim7.holds Tryd.pinned (.plain (OpenSpec.ofChange fnSumsSpec)) fnSumsCard

/-- THE TIED CARD OF 'laws.FnTold'. -/
def fnToldCard : Claim7 := { stood := { row := fnToldRow, standIns := [], harness := (true, "a742c775651d37e4d7840d780cd48f7dfed8d6e12d26169a7e719b8bd3511cb7"), looks := false }, kinds := [], alts := [], laidByText := true, laidKinds := [.data], laidTests := true, laidLooks := .later }
def FnToldCardSaid : Prop := Claim7.holds Tryd.pinned (.plain (OpenSpec.ofChange fnToldSpec)) fnToldCard

/-- THE TIED CARD OF 'laws.FnParts'. -/
def fnPartsCard : Claim7 := { stood := { row := fnPartsRow, standIns := [], harness := (true, "a742c775651d37e4d7840d780cd48f7dfed8d6e12d26169a7e719b8bd3511cb7"), looks := false }, kinds := [], alts := [], laidByText := true, laidKinds := [.data, .sentinel, .sentinel], laidTests := true, laidLooks := .later }
def FnPartsCardSaid : Prop := Claim7.holds Tryd.pinned (.plain (OpenSpec.ofChange fnPartsSpec)) fnPartsCard

/-- THE SECOND FORM's CARD OF 'laws.FnSums'. -/
def fnSumsUptoCard : Claim7 := { stood := { row := fnSumsUptoRow, standIns := [], harness := (true, "a742c775651d37e4d7840d780cd48f7dfed8d6e12d26169a7e719b8bd3511cb7"), looks := false }, kinds := [], alts := [], laidByText := true, laidKinds := [.data], laidTests := true, laidLooks := .later }
def FnSumsUptoCardSaid : Prop := Claim7.holds Tryd.pinned (.plain (OpenSpec.upto fnSumsSpec)) fnSumsUptoCard

/-- THE SECOND FORM's CARD OF 'laws.FnTold'. -/
def fnToldUptoCard : Claim7 := { stood := { row := fnToldUptoRow, standIns := [], harness := (true, "a742c775651d37e4d7840d780cd48f7dfed8d6e12d26169a7e719b8bd3511cb7"), looks := false }, kinds := [], alts := [], laidByText := true, laidKinds := [.data], laidTests := true, laidLooks := .later }
def FnToldUptoCardSaid : Prop := Claim7.holds Tryd.pinned (.plain (OpenSpec.upto fnToldSpec)) fnToldUptoCard

/-- THE SECOND FORM's CARD OF 'laws.FnParts'. -/
def fnPartsUptoCard : Claim7 := { stood := { row := fnPartsUptoRow, standIns := [], harness := (true, "a742c775651d37e4d7840d780cd48f7dfed8d6e12d26169a7e719b8bd3511cb7"), looks := false }, kinds := [], alts := [], laidByText := true, laidKinds := [.data, .sentinel, .sentinel], laidTests := true, laidLooks := .later }
def FnPartsUptoCardSaid : Prop := Claim7.holds Tryd.pinned (.plain (OpenSpec.upto fnPartsSpec)) fnPartsUptoCard
end Rows
end Go.Proofs.YtikikddkhikfkaaDoor
