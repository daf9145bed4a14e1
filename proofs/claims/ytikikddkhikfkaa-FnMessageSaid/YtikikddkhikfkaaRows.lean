/-
  No cell of these rows narrows 'for every input' (looked for: loops, veiled, ifaces, maps, wideKeys, modest, calm, conditions, laid).
  DERIVED. THE GIVEN ROWS OF THIS SEAT. 4 by the template 'for every input the law returns true; each argument reads behind the call as it read before'; 0 by the template 'total and deterministic' (their statements: YtikikddkhikfkaaTotals.lean).
  GIVEN WITH THE SEED: the statements are not yours to turn. If you find one false, say at which input.
  Laid BY PROGRAM, IN A SANDBOX (cutbox-rows.mjs): the forced cells as the released guide's own fill.sh prints them over the translation 5ddf64c515ad1379… (all of the seat's roots in one cut). By AI agents, Wed Nov 11 2026. No macro, syntax, notation, axiom, sorry.
-/
import Derived.Test.YtikikddkhikfkaaChecked
import GoSem.Claim
import GoSem.ClaimJoined
import GoSem.ClaimMapViews
import Derived.JoinedTies
import Derived.KernelRfl
namespace Go.Proofs.Ytikikddkhikfkaa
/- THE CELL 'sum', in the pinned program and in every row, IS THE sha256 OF THE DUMP (.gsa) THAT YtikikddkhikfkaaProg.lean LOADS. Nothing in Lean hashes anything: it is a label: what it is worth is what the hold of that sum in a sandbox is worth. -/
noncomputable def Try.pinned : Pinned := { name := "ytikikddkhikfkaa", sum := "5ddf64c515ad13796261254d4f5e75b440467db913cb6176bf84d141a9fbf2d1", checked := Try.checked }
namespace Rows
def none {H : Type} : Left H := { results := [], args := [] }

/-- 'laws.FnMessage': WHATEVER THE INPUT: true; the input reads as it did. -/
def fnMessageSpec : ChangeSpec := { name := "fnMessage", fn := fun _ => fun
  | [d1, d2, d3] => { results := [.lit (.bool true)], args := [d1, d2, d3] }
  | _ => none }
def fnMessageRow : OpenClaim := { program := "ytikikddkhikfkaa", sum := "5ddf64c515ad13796261254d4f5e75b440467db913cb6176bf84d141a9fbf2d1", func := "validatorsandcommits/laws.FnMessage", spec := "fnMessage", unfollowed := true, recurses := true, apart := false }
def FnMessageSaid : Prop := fnMessageRow.holds Try.pinned (OpenSpec.ofChange fnMessageSpec)

/-- ITS FALSE NEIGHBOUR: 'it returns false'. Refute it at one input. -/
def fnMessageWrong : ChangeSpec := { name := "fnMessage", fn := fun _ => fun
  | [d1, d2, d3] => { results := [.lit (.bool false)], args := [d1, d2, d3] }
  | _ => none }
def FnMessageWrongFalsely : Prop := fnMessageRow.holds Try.pinned (OpenSpec.ofChange fnMessageWrong)

/-- 'laws.FnScaled': WHATEVER THE INPUT: true; the input reads as it did. -/
def fnScaledSpec : ChangeSpec := { name := "fnScaled", fn := fun _ => fun
  | [d1, d2] => { results := [.lit (.bool true)], args := [d1, d2] }
  | _ => none }
def fnScaledRow : OpenClaim := { program := "ytikikddkhikfkaa", sum := "5ddf64c515ad13796261254d4f5e75b440467db913cb6176bf84d141a9fbf2d1", func := "validatorsandcommits/laws.FnScaled", spec := "fnScaled", inPlace := ["internal/bytealg.Compare"], unfollowed := true, recurses := true, apart := false }
def FnScaledSaid : Prop := fnScaledRow.holds Try.pinned (OpenSpec.ofChange fnScaledSpec)

/-- ITS FALSE NEIGHBOUR: 'it returns false'. Refute it at one input. -/
def fnScaledWrong : ChangeSpec := { name := "fnScaled", fn := fun _ => fun
  | [d1, d2] => { results := [.lit (.bool false)], args := [d1, d2] }
  | _ => none }
def FnScaledWrongFalsely : Prop := fnScaledRow.holds Try.pinned (OpenSpec.ofChange fnScaledWrong)

/-- 'laws.FnFair': WHATEVER THE INPUT: true; the input reads as it did. -/
def fnFairSpec : ChangeSpec := { name := "fnFair", fn := fun _ => fun
  | [d] => { results := [.lit (.bool true)], args := [d] }
  | _ => none }
def fnFairRow : OpenClaim := { program := "ytikikddkhikfkaa", sum := "5ddf64c515ad13796261254d4f5e75b440467db913cb6176bf84d141a9fbf2d1", func := "validatorsandcommits/laws.FnFair", spec := "fnFair", inPlace := ["internal/bytealg.Compare"], unfollowed := true, recurses := true, apart := false }
def FnFairSaid : Prop := fnFairRow.holds Try.pinned (OpenSpec.ofChange fnFairSpec)

/-- ITS FALSE NEIGHBOUR: 'it returns false'. Refute it at one input. -/
def fnFairWrong : ChangeSpec := { name := "fnFair", fn := fun _ => fun
  | [d] => { results := [.lit (.bool false)], args := [d] }
  | _ => none }
def FnFairWrongFalsely : Prop := fnFairRow.holds Try.pinned (OpenSpec.ofChange fnFairWrong)

/-- 'laws.FnTurned': WHATEVER THE INPUT: true; the input reads as it did. -/
def fnTurnedSpec : ChangeSpec := { name := "fnTurned", fn := fun _ => fun
  | [d1, d2] => { results := [.lit (.bool true)], args := [d1, d2] }
  | _ => none }
def fnTurnedRow : OpenClaim := { program := "ytikikddkhikfkaa", sum := "5ddf64c515ad13796261254d4f5e75b440467db913cb6176bf84d141a9fbf2d1", func := "validatorsandcommits/laws.FnTurned", spec := "fnTurned", inPlace := ["internal/bytealg.Compare"], unfollowed := true, recurses := true, apart := false }
def FnTurnedSaid : Prop := fnTurnedRow.holds Try.pinned (OpenSpec.ofChange fnTurnedSpec)

/-- ITS FALSE NEIGHBOUR: 'it returns false'. Refute it at one input. -/
def fnTurnedWrong : ChangeSpec := { name := "fnTurned", fn := fun _ => fun
  | [d1, d2] => { results := [.lit (.bool false)], args := [d1, d2] }
  | _ => none }
def FnTurnedWrongFalsely : Prop := fnTurnedRow.holds Try.pinned (OpenSpec.ofChange fnTurnedWrong)

/- THE SECOND FORM. 'bulk': how many values and letters a reading holds, each counted each time it is reached (what is shared counts as often as it is met; a slice's spare places count too). A statement '..UptoSaid' is the law's where the arguments, and the package variables that the reading takes, are together of bulk at most 1048576: NARROWER than '..Said'. Prove '..Said' where nothing that the law and all that it calls make is longer than what came in: it says more and counts as full. Else prove '..UptoSaid'. A law counts once. -/
mutual
def uptoBulk {H : Type} : DataW H → Nat
  | .lit (.string bytes) => bytes.length + 1
  | .lit _ => 1
  | .nil => 1
  | .ptr d => uptoBulk d + 1
  | .slice elems spare => uptoBulkAll elems + uptoBulkAll spare + 1
  | .agg parts => uptoBulkAll parts + 1
  | .iface _ d => uptoBulk d + 1
  | .map entries => uptoBulkEntries entries + 1
  | .held _ => 1
def uptoBulkAll {H : Type} : List (DataW H) → Nat
  | [] => 0
  | d :: r => uptoBulk d + uptoBulkAll r
def uptoBulkEntries {H : Type} : List (Lit × DataW H) → Nat
  | [] => 0
  | x :: r => uptoBulkEntry x + uptoBulkEntries r
def uptoBulkEntry {H : Type} : Lit × DataW H → Nat
  | (.string bytes, d) => bytes.length + uptoBulk d + 1
  | (_, d) => uptoBulk d + 1
 end
def uptoSmall : (H : Type) → List (DataW H) → Bool := fun _ ds => decide (uptoBulkAll ds ≤ 1048576)
def OpenSpec.upto (s : _root_.Go.ChangeSpec) : _root_.Go.OpenSpec := { _root_.Go.OpenSpec.ofChange s with cond := some uptoSmall }

/-- 'laws.FnMessage', WHERE WHAT IT READS IS OF BULK AT MOST 1048576: true; the input reads as it did. -/
def fnMessageUptoRow : OpenClaim := { program := "ytikikddkhikfkaa", sum := "5ddf64c515ad13796261254d4f5e75b440467db913cb6176bf84d141a9fbf2d1", func := "validatorsandcommits/laws.FnMessage", spec := "fnMessage", unfollowed := true, recurses := true, apart := false, narrowed := true }
def FnMessageUptoSaid : Prop := fnMessageUptoRow.holds Try.pinned (OpenSpec.upto fnMessageSpec)

/-- 'laws.FnScaled', WHERE WHAT IT READS IS OF BULK AT MOST 1048576: true; the input reads as it did. -/
def fnScaledUptoRow : OpenClaim := { program := "ytikikddkhikfkaa", sum := "5ddf64c515ad13796261254d4f5e75b440467db913cb6176bf84d141a9fbf2d1", func := "validatorsandcommits/laws.FnScaled", spec := "fnScaled", inPlace := ["internal/bytealg.Compare"], unfollowed := true, recurses := true, apart := false, narrowed := true }
def FnScaledUptoSaid : Prop := fnScaledUptoRow.holds Try.pinned (OpenSpec.upto fnScaledSpec)

/-- 'laws.FnFair', WHERE WHAT IT READS IS OF BULK AT MOST 1048576: true; the input reads as it did. -/
def fnFairUptoRow : OpenClaim := { program := "ytikikddkhikfkaa", sum := "5ddf64c515ad13796261254d4f5e75b440467db913cb6176bf84d141a9fbf2d1", func := "validatorsandcommits/laws.FnFair", spec := "fnFair", inPlace := ["internal/bytealg.Compare"], unfollowed := true, recurses := true, apart := false, narrowed := true }
def FnFairUptoSaid : Prop := fnFairUptoRow.holds Try.pinned (OpenSpec.upto fnFairSpec)

/-- 'laws.FnTurned', WHERE WHAT IT READS IS OF BULK AT MOST 1048576: true; the input reads as it did. -/
def fnTurnedUptoRow : OpenClaim := { program := "ytikikddkhikfkaa", sum := "5ddf64c515ad13796261254d4f5e75b440467db913cb6176bf84d141a9fbf2d1", func := "validatorsandcommits/laws.FnTurned", spec := "fnTurned", inPlace := ["internal/bytealg.Compare"], unfollowed := true, recurses := true, apart := false, narrowed := true }
def FnTurnedUptoSaid : Prop := fnTurnedUptoRow.holds Try.pinned (OpenSpec.upto fnTurnedSpec)

end Rows
end Go.Proofs.Ytikikddkhikfkaa
