/-
  NARROWER THAN 'FOR EVERY INPUT', by the rows' own cells (each row's printed sentence says how): FnChanged: laid · FnMade: laid · FnTrusted: laid · FnVerified: laid.
  DERIVED. THE GIVEN ROWS OF THIS SEAT. 4 by the template 'for every input the law returns true; each argument reads behind the call as it read before'; 0 by the template 'total and deterministic' (their statements: YtikikddkhikfkaaGreatDoorTotals.lean).
  GIVEN WITH THE SEED: the statements are not yours to turn. If you find one false, say at which input.
  Laid BY PROGRAM, IN A SANDBOX (cutbox-rows.mjs): the forced cells as the released guide's own fill.sh prints them over the translation 0e59e3420513ebeb… (all of the seat's roots in one cut). By AI agents, Wed Nov 11 2026. No macro, syntax, notation, axiom, sorry.
-/
import Derived.Test.YtikikddkhikfkaaGreatDoorChecked
import GoSem.Claim
import GoSem.ClaimJoined
import GoSem.ClaimMapViews
import Derived.JoinedTies
import Derived.KernelRfl
namespace Go.Proofs.YtikikddkhikfkaaGreatDoor
/- THE CELL 'sum', in the pinned program and in every row, IS THE sha256 OF THE DUMP (.gsa) THAT YtikikddkhikfkaaGreatDoorProg.lean LOADS. Nothing in Lean hashes anything: it is a label: what it is worth is what the hold of that sum in a sandbox is worth. -/
noncomputable def Tryz.pinned : Pinned := { name := "ytikikddkhikfkaagreatdoor", sum := "0e59e3420513ebeb049ce5d476117c7ac9562da8ba0c943c0ac5833ae445144a", checked := Tryz.checked }
namespace Rows
def none {H : Type} : Left H := { results := [], args := [] }

/- WHAT THE LISTED PACKAGE-LEVEL VARIABLES READ AS WHEN THE CALL BEGINS. Each datum BY PROGRAM (the guide's laid-datum.mjs) off the statement by which the dump's own 'gosem.cut.vars' lays the variable. In a bare row this is a premise. The card (YtikikddkhikfkaaGreatDoorCards.lean) ties it to the program's text. -/
def laid_validatorsandcommits_pub_comettypes_ErrTotalVotingPowerOverflow {H : Type} : DataW H := .iface "*errors.errorString" (.ptr (.agg [.lit (.string [116, 111, 116, 97, 108, 32, 118, 111, 116, 105, 110, 103, 32, 112, 111, 119, 101, 114, 32, 111, 102, 32, 114, 101, 115, 117, 108, 116, 105, 110, 103, 32, 118, 97, 108, 115, 101, 116, 32, 101, 120, 99, 101, 101, 100, 115, 32, 109, 97, 120])]))
def laid_validatorsandcommits_pub_sha256_K {H : Type} : DataW H := .agg [.lit (.int .u32 1116352408), .lit (.int .u32 1899447441), .lit (.int .u32 3049323471), .lit (.int .u32 3921009573), .lit (.int .u32 961987163), .lit (.int .u32 1508970993), .lit (.int .u32 2453635748), .lit (.int .u32 2870763221), .lit (.int .u32 3624381080), .lit (.int .u32 310598401), .lit (.int .u32 607225278), .lit (.int .u32 1426881987), .lit (.int .u32 1925078388), .lit (.int .u32 2162078206), .lit (.int .u32 2614888103), .lit (.int .u32 3248222580), .lit (.int .u32 3835390401), .lit (.int .u32 4022224774), .lit (.int .u32 264347078), .lit (.int .u32 604807628), .lit (.int .u32 770255983), .lit (.int .u32 1249150122), .lit (.int .u32 1555081692), .lit (.int .u32 1996064986), .lit (.int .u32 2554220882), .lit (.int .u32 2821834349), .lit (.int .u32 2952996808), .lit (.int .u32 3210313671), .lit (.int .u32 3336571891), .lit (.int .u32 3584528711), .lit (.int .u32 113926993), .lit (.int .u32 338241895), .lit (.int .u32 666307205), .lit (.int .u32 773529912), .lit (.int .u32 1294757372), .lit (.int .u32 1396182291), .lit (.int .u32 1695183700), .lit (.int .u32 1986661051), .lit (.int .u32 2177026350), .lit (.int .u32 2456956037), .lit (.int .u32 2730485921), .lit (.int .u32 2820302411), .lit (.int .u32 3259730800), .lit (.int .u32 3345764771), .lit (.int .u32 3516065817), .lit (.int .u32 3600352804), .lit (.int .u32 4094571909), .lit (.int .u32 275423344), .lit (.int .u32 430227734), .lit (.int .u32 506948616), .lit (.int .u32 659060556), .lit (.int .u32 883997877), .lit (.int .u32 958139571), .lit (.int .u32 1322822218), .lit (.int .u32 1537002063), .lit (.int .u32 1747873779), .lit (.int .u32 1955562222), .lit (.int .u32 2024104815), .lit (.int .u32 2227730452), .lit (.int .u32 2361852424), .lit (.int .u32 2428436474), .lit (.int .u32 2756734187), .lit (.int .u32 3204031479), .lit (.int .u32 3329325298)]

/-- 'laws.FnChanged': WHATEVER THE INPUT: true; the input reads as it did. -/
def fnChangedSpec : ChangeSpec := { name := "fnChanged", fn := fun _ => fun
  | [d1, d2] => { results := [.lit (.bool true)], args := [d1, d2] }
  | _ => none }
def fnChangedRow : OpenClaim := { program := "ytikikddkhikfkaagreatdoor", sum := "0e59e3420513ebeb049ce5d476117c7ac9562da8ba0c943c0ac5833ae445144a", func := "validatorsandcommits/laws.FnChanged", spec := "fnChanged", inPlace := ["internal/bytealg.Compare", "internal/reflectlite.ValueOf", "internal/reflectlite.Swapper", "(internal/reflectlite.Value).Len"], unfollowed := true, recurses := true, named := ["validatorsandcommits/pub/comettypes.ErrTotalVotingPowerOverflow"], apart := false, laid := [("validatorsandcommits/pub/comettypes.ErrTotalVotingPowerOverflow", laid_validatorsandcommits_pub_comettypes_ErrTotalVotingPowerOverflow)] }
def FnChangedSaid : Prop := fnChangedRow.holds Tryz.pinned (OpenSpec.ofChange fnChangedSpec)

/-- ITS FALSE NEIGHBOUR: 'it returns false'. Refute it at one input. -/
def fnChangedWrong : ChangeSpec := { name := "fnChanged", fn := fun _ => fun
  | [d1, d2] => { results := [.lit (.bool false)], args := [d1, d2] }
  | _ => none }
def FnChangedWrongFalsely : Prop := fnChangedRow.holds Tryz.pinned (OpenSpec.ofChange fnChangedWrong)

/-- 'laws.FnMade': WHATEVER THE INPUT: true; the input reads as it did. -/
def fnMadeSpec : ChangeSpec := { name := "fnMade", fn := fun _ => fun
  | [d] => { results := [.lit (.bool true)], args := [d] }
  | _ => none }
def fnMadeRow : OpenClaim := { program := "ytikikddkhikfkaagreatdoor", sum := "0e59e3420513ebeb049ce5d476117c7ac9562da8ba0c943c0ac5833ae445144a", func := "validatorsandcommits/laws.FnMade", spec := "fnMade", inPlace := ["internal/bytealg.Compare", "internal/reflectlite.ValueOf", "internal/reflectlite.Swapper", "(internal/reflectlite.Value).Len"], unfollowed := true, recurses := true, named := ["validatorsandcommits/pub/comettypes.ErrTotalVotingPowerOverflow"], apart := false, laid := [("validatorsandcommits/pub/comettypes.ErrTotalVotingPowerOverflow", laid_validatorsandcommits_pub_comettypes_ErrTotalVotingPowerOverflow)] }
def FnMadeSaid : Prop := fnMadeRow.holds Tryz.pinned (OpenSpec.ofChange fnMadeSpec)

/-- ITS FALSE NEIGHBOUR: 'it returns false'. Refute it at one input. -/
def fnMadeWrong : ChangeSpec := { name := "fnMade", fn := fun _ => fun
  | [d] => { results := [.lit (.bool false)], args := [d] }
  | _ => none }
def FnMadeWrongFalsely : Prop := fnMadeRow.holds Tryz.pinned (OpenSpec.ofChange fnMadeWrong)

/-- 'laws.FnTrusted': WHATEVER THE INPUT: true; the input reads as it did. -/
def fnTrustedSpec : ChangeSpec := { name := "fnTrusted", fn := fun _ => fun
  | [d1, d2, d3, d4, d5, d6, d7, d8] => { results := [.lit (.bool true)], args := [d1, d2, d3, d4, d5, d6, d7, d8] }
  | _ => none }
def fnTrustedRow : OpenClaim := { program := "ytikikddkhikfkaagreatdoor", sum := "0e59e3420513ebeb049ce5d476117c7ac9562da8ba0c943c0ac5833ae445144a", func := "validatorsandcommits/laws.FnTrusted", spec := "fnTrusted", inPlace := ["internal/bytealg.Compare"], unfollowed := true, recurses := true, named := ["validatorsandcommits/pub/sha256._K"], apart := false, laid := [("validatorsandcommits/pub/sha256._K", laid_validatorsandcommits_pub_sha256_K)] }
def FnTrustedSaid : Prop := fnTrustedRow.holds Tryz.pinned (OpenSpec.ofChange fnTrustedSpec)

/-- ITS FALSE NEIGHBOUR: 'it returns false'. Refute it at one input. -/
def fnTrustedWrong : ChangeSpec := { name := "fnTrusted", fn := fun _ => fun
  | [d1, d2, d3, d4, d5, d6, d7, d8] => { results := [.lit (.bool false)], args := [d1, d2, d3, d4, d5, d6, d7, d8] }
  | _ => none }
def FnTrustedWrongFalsely : Prop := fnTrustedRow.holds Tryz.pinned (OpenSpec.ofChange fnTrustedWrong)

/-- 'laws.FnVerified': WHATEVER THE INPUT: true; the input reads as it did. -/
def fnVerifiedSpec : ChangeSpec := { name := "fnVerified", fn := fun _ => fun
  | [d1, d2, d3, d4, d5, d6, d7] => { results := [.lit (.bool true)], args := [d1, d2, d3, d4, d5, d6, d7] }
  | _ => none }
def fnVerifiedRow : OpenClaim := { program := "ytikikddkhikfkaagreatdoor", sum := "0e59e3420513ebeb049ce5d476117c7ac9562da8ba0c943c0ac5833ae445144a", func := "validatorsandcommits/laws.FnVerified", spec := "fnVerified", inPlace := ["internal/bytealg.Compare"], unfollowed := true, recurses := true, named := ["validatorsandcommits/pub/sha256._K"], apart := false, laid := [("validatorsandcommits/pub/sha256._K", laid_validatorsandcommits_pub_sha256_K)] }
def FnVerifiedSaid : Prop := fnVerifiedRow.holds Tryz.pinned (OpenSpec.ofChange fnVerifiedSpec)

/-- ITS FALSE NEIGHBOUR: 'it returns false'. Refute it at one input. -/
def fnVerifiedWrong : ChangeSpec := { name := "fnVerified", fn := fun _ => fun
  | [d1, d2, d3, d4, d5, d6, d7] => { results := [.lit (.bool false)], args := [d1, d2, d3, d4, d5, d6, d7] }
  | _ => none }
def FnVerifiedWrongFalsely : Prop := fnVerifiedRow.holds Tryz.pinned (OpenSpec.ofChange fnVerifiedWrong)

/- THE SECOND FORM. 'bulk': how many values and letters a reading holds, each counted each time it is reached (what is shared counts as often as it is met; a slice's spare places count too). A statement '..UptoSaid' is the law's where the arguments, and the package variables that the reading takes, are together of bulk at most 1048576: NARROWER than '..Said'. Prove '..Said' where nothing that the law and all that it calls make is longer than what came in: it says more and counts as full. Else prove '..UptoSaid'. A law counts once. -/
mutual
def uptoBulk {H : Type} : DataW H → Nat
  | .lit (.string bytes) => bytes.length + 1
  | .lit _ => 1
  | .nil => 1
  | .ptr d => uptoBulk d + 1
  | .slice elems spare => uptoBulkAll elems + uptoBulkAll spare + 1
  | .agg parts => uptoBulkAll parts + 1
  | .iface _ d => uptoBulk d + 1
  | .map entries => uptoBulkEntries entries + 1
  | .held _ => 1
def uptoBulkAll {H : Type} : List (DataW H) → Nat
  | [] => 0
  | d :: r => uptoBulk d + uptoBulkAll r
def uptoBulkEntries {H : Type} : List (Lit × DataW H) → Nat
  | [] => 0
  | x :: r => uptoBulkEntry x + uptoBulkEntries r
def uptoBulkEntry {H : Type} : Lit × DataW H → Nat
  | (.string bytes, d) => bytes.length + uptoBulk d + 1
  | (_, d) => uptoBulk d + 1
 end
def uptoSmall : (H : Type) → List (DataW H) → Bool := fun _ ds => decide (uptoBulkAll ds ≤ 1048576)
def OpenSpec.upto (s : _root_.Go.ChangeSpec) : _root_.Go.OpenSpec := { _root_.Go.OpenSpec.ofChange s with cond := some uptoSmall }

/-- 'laws.FnChanged', WHERE WHAT IT READS IS OF BULK AT MOST 1048576: true; the input reads as it did. -/
def fnChangedUptoRow : OpenClaim := { program := "ytikikddkhikfkaagreatdoor", sum := "0e59e3420513ebeb049ce5d476117c7ac9562da8ba0c943c0ac5833ae445144a", func := "validatorsandcommits/laws.FnChanged", spec := "fnChanged", inPlace := ["internal/bytealg.Compare", "internal/reflectlite.ValueOf", "internal/reflectlite.Swapper", "(internal/reflectlite.Value).Len"], unfollowed := true, recurses := true, named := ["validatorsandcommits/pub/comettypes.ErrTotalVotingPowerOverflow"], apart := false, laid := [("validatorsandcommits/pub/comettypes.ErrTotalVotingPowerOverflow", laid_validatorsandcommits_pub_comettypes_ErrTotalVotingPowerOverflow)], narrowed := true }
def FnChangedUptoSaid : Prop := fnChangedUptoRow.holds Tryz.pinned (OpenSpec.upto fnChangedSpec)

/-- 'laws.FnMade', WHERE WHAT IT READS IS OF BULK AT MOST 1048576: true; the input reads as it did. -/
def fnMadeUptoRow : OpenClaim := { program := "ytikikddkhikfkaagreatdoor", sum := "0e59e3420513ebeb049ce5d476117c7ac9562da8ba0c943c0ac5833ae445144a", func := "validatorsandcommits/laws.FnMade", spec := "fnMade", inPlace := ["internal/bytealg.Compare", "internal/reflectlite.ValueOf", "internal/reflectlite.Swapper", "(internal/reflectlite.Value).Len"], unfollowed := true, recurses := true, named := ["validatorsandcommits/pub/comettypes.ErrTotalVotingPowerOverflow"], apart := false, laid := [("validatorsandcommits/pub/comettypes.ErrTotalVotingPowerOverflow", laid_validatorsandcommits_pub_comettypes_ErrTotalVotingPowerOverflow)], narrowed := true }
def FnMadeUptoSaid : Prop := fnMadeUptoRow.holds Tryz.pinned (OpenSpec.upto fnMadeSpec)

/-- 'laws.FnTrusted', WHERE WHAT IT READS IS OF BULK AT MOST 1048576: true; the input reads as it did. -/
def fnTrustedUptoRow : OpenClaim := { program := "ytikikddkhikfkaagreatdoor", sum := "0e59e3420513ebeb049ce5d476117c7ac9562da8ba0c943c0ac5833ae445144a", func := "validatorsandcommits/laws.FnTrusted", spec := "fnTrusted", inPlace := ["internal/bytealg.Compare"], unfollowed := true, recurses := true, named := ["validatorsandcommits/pub/sha256._K"], apart := false, laid := [("validatorsandcommits/pub/sha256._K", laid_validatorsandcommits_pub_sha256_K)], narrowed := true }
def FnTrustedUptoSaid : Prop := fnTrustedUptoRow.holds Tryz.pinned (OpenSpec.upto fnTrustedSpec)

/-- 'laws.FnVerified', WHERE WHAT IT READS IS OF BULK AT MOST 1048576: true; the input reads as it did. -/
def fnVerifiedUptoRow : OpenClaim := { program := "ytikikddkhikfkaagreatdoor", sum := "0e59e3420513ebeb049ce5d476117c7ac9562da8ba0c943c0ac5833ae445144a", func := "validatorsandcommits/laws.FnVerified", spec := "fnVerified", inPlace := ["internal/bytealg.Compare"], unfollowed := true, recurses := true, named := ["validatorsandcommits/pub/sha256._K"], apart := false, laid := [("validatorsandcommits/pub/sha256._K", laid_validatorsandcommits_pub_sha256_K)], narrowed := true }
def FnVerifiedUptoSaid : Prop := fnVerifiedUptoRow.holds Tryz.pinned (OpenSpec.upto fnVerifiedSpec)

end Rows
end Go.Proofs.YtikikddkhikfkaaGreatDoor
