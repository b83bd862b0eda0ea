/-
  No cell of these rows narrows 'for every input' (looked for: loops, veiled, ifaces, maps, wideKeys, modest, calm, conditions, laid).
  DERIVED. THE GIVEN ROWS OF THIS SEAT. 7 by the template 'for every input the law returns true; each argument reads behind the call as it read before'; 0 by the template 'total and deterministic' (their statements: YtmidelapgdpnoaaTotals.lean).
  GIVEN WITH THE SEED: the statements are not yours to turn. If you find one false, say at which input.
  Laid BY PROGRAM, IN A SANDBOX (cutbox-rows.mjs): the forced cells as the released guide's own fill.sh prints them over the translation 1f2baca639a794da… (all of the seat's roots in one cut). By AI agents, Wed Nov 11 2026. No macro, syntax, notation, axiom, sorry.
-/
import Derived.Test.YtmidelapgdpnoaaChecked
import GoSem.Claim
import GoSem.ClaimJoined
import GoSem.ClaimMapViews
import Derived.JoinedTies
import Derived.KernelRfl
namespace Go.Proofs.Ytmidelapgdpnoaa
/- THE CELL 'sum', in the pinned program and in every row, IS THE sha256 OF THE DUMP (.gsa) THAT YtmidelapgdpnoaaProg.lean LOADS. Nothing in Lean hashes anything: it is a label: what it is worth is what the hold of that sum in a sandbox is worth. -/
noncomputable def Try.pinned : Pinned := { name := "ytmidelapgdpnoaa", sum := "1f2baca639a794dae686f62b05e183f27a61ac84c4deebb6833181fc0e9b8380", checked := Try.checked }
namespace Rows
def none {H : Type} : Left H := { results := [], args := [] }

/-- 'laws.FnNewUnregisterControllerResponse': WHATEVER THE INPUT: true; the input reads as it did. -/
def fnNewUnregisterControllerResponseSpec : ChangeSpec := { name := "fnNewUnregisterControllerResponse", fn := fun _ => fun
  | [d] => { results := [.lit (.bool true)], args := [d] }
  | _ => none }
def fnNewUnregisterControllerResponseRow : OpenClaim := { program := "ytmidelapgdpnoaa", sum := "1f2baca639a794dae686f62b05e183f27a61ac84c4deebb6833181fc0e9b8380", func := "pub-kmsg/laws.FnNewUnregisterControllerResponse", spec := "fnNewUnregisterControllerResponse", inPlace := ["internal/reflectlite.ValueOf", "internal/reflectlite.Swapper", "(internal/reflectlite.Value).Len"], unfollowed := true, recurses := true, apart := false }
def FnNewUnregisterControllerResponseSaid : Prop := fnNewUnregisterControllerResponseRow.holds Try.pinned (OpenSpec.ofChange fnNewUnregisterControllerResponseSpec)

/-- ITS FALSE NEIGHBOUR: 'it returns false'. Refute it at one input. -/
def fnNewUnregisterControllerResponseWrong : ChangeSpec := { name := "fnNewUnregisterControllerResponse", fn := fun _ => fun
  | [d] => { results := [.lit (.bool false)], args := [d] }
  | _ => none }
def FnNewUnregisterControllerResponseWrongFalsely : Prop := fnNewUnregisterControllerResponseRow.holds Try.pinned (OpenSpec.ofChange fnNewUnregisterControllerResponseWrong)

/-- 'laws.FnNewStreamsGroupDescribeRequest': WHATEVER THE INPUT: true; the input reads as it did. -/
def fnNewStreamsGroupDescribeRequestSpec : ChangeSpec := { name := "fnNewStreamsGroupDescribeRequest", fn := fun _ => fun
  | [d] => { results := [.lit (.bool true)], args := [d] }
  | _ => none }
def fnNewStreamsGroupDescribeRequestRow : OpenClaim := { program := "ytmidelapgdpnoaa", sum := "1f2baca639a794dae686f62b05e183f27a61ac84c4deebb6833181fc0e9b8380", func := "pub-kmsg/laws.FnNewStreamsGroupDescribeRequest", spec := "fnNewStreamsGroupDescribeRequest", inPlace := ["internal/reflectlite.ValueOf", "internal/reflectlite.Swapper", "(internal/reflectlite.Value).Len"], unfollowed := true, recurses := true, apart := false }
def FnNewStreamsGroupDescribeRequestSaid : Prop := fnNewStreamsGroupDescribeRequestRow.holds Try.pinned (OpenSpec.ofChange fnNewStreamsGroupDescribeRequestSpec)

/-- ITS FALSE NEIGHBOUR: 'it returns false'. Refute it at one input. -/
def fnNewStreamsGroupDescribeRequestWrong : ChangeSpec := { name := "fnNewStreamsGroupDescribeRequest", fn := fun _ => fun
  | [d] => { results := [.lit (.bool false)], args := [d] }
  | _ => none }
def FnNewStreamsGroupDescribeRequestWrongFalsely : Prop := fnNewStreamsGroupDescribeRequestRow.holds Try.pinned (OpenSpec.ofChange fnNewStreamsGroupDescribeRequestWrong)

/-- 'laws.FnNewSASLAuthenticateResponse': WHATEVER THE INPUT: true; the input reads as it did. -/
def fnNewSASLAuthenticateResponseSpec : ChangeSpec := { name := "fnNewSASLAuthenticateResponse", fn := fun _ => fun
  | [d] => { results := [.lit (.bool true)], args := [d] }
  | _ => none }
def fnNewSASLAuthenticateResponseRow : OpenClaim := { program := "ytmidelapgdpnoaa", sum := "1f2baca639a794dae686f62b05e183f27a61ac84c4deebb6833181fc0e9b8380", func := "pub-kmsg/laws.FnNewSASLAuthenticateResponse", spec := "fnNewSASLAuthenticateResponse", inPlace := ["internal/reflectlite.ValueOf", "internal/reflectlite.Swapper", "(internal/reflectlite.Value).Len"], unfollowed := true, recurses := true, apart := false }
def FnNewSASLAuthenticateResponseSaid : Prop := fnNewSASLAuthenticateResponseRow.holds Try.pinned (OpenSpec.ofChange fnNewSASLAuthenticateResponseSpec)

/-- ITS FALSE NEIGHBOUR: 'it returns false'. Refute it at one input. -/
def fnNewSASLAuthenticateResponseWrong : ChangeSpec := { name := "fnNewSASLAuthenticateResponse", fn := fun _ => fun
  | [d] => { results := [.lit (.bool false)], args := [d] }
  | _ => none }
def FnNewSASLAuthenticateResponseWrongFalsely : Prop := fnNewSASLAuthenticateResponseRow.holds Try.pinned (OpenSpec.ofChange fnNewSASLAuthenticateResponseWrong)

/-- 'laws.FnNewAlterUserSCRAMCredentialsResponse': WHATEVER THE INPUT: true; the input reads as it did. -/
def fnNewAlterUserSCRAMCredentialsResponseSpec : ChangeSpec := { name := "fnNewAlterUserSCRAMCredentialsResponse", fn := fun _ => fun
  | [d] => { results := [.lit (.bool true)], args := [d] }
  | _ => none }
def fnNewAlterUserSCRAMCredentialsResponseRow : OpenClaim := { program := "ytmidelapgdpnoaa", sum := "1f2baca639a794dae686f62b05e183f27a61ac84c4deebb6833181fc0e9b8380", func := "pub-kmsg/laws.FnNewAlterUserSCRAMCredentialsResponse", spec := "fnNewAlterUserSCRAMCredentialsResponse", inPlace := ["internal/reflectlite.ValueOf", "internal/reflectlite.Swapper", "(internal/reflectlite.Value).Len"], unfollowed := true, recurses := true, apart := false }
def FnNewAlterUserSCRAMCredentialsResponseSaid : Prop := fnNewAlterUserSCRAMCredentialsResponseRow.holds Try.pinned (OpenSpec.ofChange fnNewAlterUserSCRAMCredentialsResponseSpec)

/-- ITS FALSE NEIGHBOUR: 'it returns false'. Refute it at one input. -/
def fnNewAlterUserSCRAMCredentialsResponseWrong : ChangeSpec := { name := "fnNewAlterUserSCRAMCredentialsResponse", fn := fun _ => fun
  | [d] => { results := [.lit (.bool false)], args := [d] }
  | _ => none }
def FnNewAlterUserSCRAMCredentialsResponseWrongFalsely : Prop := fnNewAlterUserSCRAMCredentialsResponseRow.holds Try.pinned (OpenSpec.ofChange fnNewAlterUserSCRAMCredentialsResponseWrong)

/-- 'laws.FnNewDescribeACLsRequest': WHATEVER THE INPUT: true; the input reads as it did. -/
def fnNewDescribeACLsRequestSpec : ChangeSpec := { name := "fnNewDescribeACLsRequest", fn := fun _ => fun
  | [d] => { results := [.lit (.bool true)], args := [d] }
  | _ => none }
def fnNewDescribeACLsRequestRow : OpenClaim := { program := "ytmidelapgdpnoaa", sum := "1f2baca639a794dae686f62b05e183f27a61ac84c4deebb6833181fc0e9b8380", func := "pub-kmsg/laws.FnNewDescribeACLsRequest", spec := "fnNewDescribeACLsRequest", inPlace := ["internal/reflectlite.ValueOf", "internal/reflectlite.Swapper", "(internal/reflectlite.Value).Len"], unfollowed := true, recurses := true, apart := false }
def FnNewDescribeACLsRequestSaid : Prop := fnNewDescribeACLsRequestRow.holds Try.pinned (OpenSpec.ofChange fnNewDescribeACLsRequestSpec)

/-- ITS FALSE NEIGHBOUR: 'it returns false'. Refute it at one input. -/
def fnNewDescribeACLsRequestWrong : ChangeSpec := { name := "fnNewDescribeACLsRequest", fn := fun _ => fun
  | [d] => { results := [.lit (.bool false)], args := [d] }
  | _ => none }
def FnNewDescribeACLsRequestWrongFalsely : Prop := fnNewDescribeACLsRequestRow.holds Try.pinned (OpenSpec.ofChange fnNewDescribeACLsRequestWrong)

/-- 'laws.FnNewElectLeadersRequest': WHATEVER THE INPUT: true; the input reads as it did. -/
def fnNewElectLeadersRequestSpec : ChangeSpec := { name := "fnNewElectLeadersRequest", fn := fun _ => fun
  | [d] => { results := [.lit (.bool true)], args := [d] }
  | _ => none }
def fnNewElectLeadersRequestRow : OpenClaim := { program := "ytmidelapgdpnoaa", sum := "1f2baca639a794dae686f62b05e183f27a61ac84c4deebb6833181fc0e9b8380", func := "pub-kmsg/laws.FnNewElectLeadersRequest", spec := "fnNewElectLeadersRequest", inPlace := ["internal/reflectlite.ValueOf", "internal/reflectlite.Swapper", "(internal/reflectlite.Value).Len"], unfollowed := true, recurses := true, apart := false }
def FnNewElectLeadersRequestSaid : Prop := fnNewElectLeadersRequestRow.holds Try.pinned (OpenSpec.ofChange fnNewElectLeadersRequestSpec)

/-- ITS FALSE NEIGHBOUR: 'it returns false'. Refute it at one input. -/
def fnNewElectLeadersRequestWrong : ChangeSpec := { name := "fnNewElectLeadersRequest", fn := fun _ => fun
  | [d] => { results := [.lit (.bool false)], args := [d] }
  | _ => none }
def FnNewElectLeadersRequestWrongFalsely : Prop := fnNewElectLeadersRequestRow.holds Try.pinned (OpenSpec.ofChange fnNewElectLeadersRequestWrong)

/-- 'laws.FnNewJoinGroupRequest': WHATEVER THE INPUT: true; the input reads as it did. -/
def fnNewJoinGroupRequestSpec : ChangeSpec := { name := "fnNewJoinGroupRequest", fn := fun _ => fun
  | [d] => { results := [.lit (.bool true)], args := [d] }
  | _ => none }
def fnNewJoinGroupRequestRow : OpenClaim := { program := "ytmidelapgdpnoaa", sum := "1f2baca639a794dae686f62b05e183f27a61ac84c4deebb6833181fc0e9b8380", func := "pub-kmsg/laws.FnNewJoinGroupRequest", spec := "fnNewJoinGroupRequest", inPlace := ["internal/reflectlite.ValueOf", "internal/reflectlite.Swapper", "(internal/reflectlite.Value).Len"], unfollowed := true, recurses := true, apart := false }
def FnNewJoinGroupRequestSaid : Prop := fnNewJoinGroupRequestRow.holds Try.pinned (OpenSpec.ofChange fnNewJoinGroupRequestSpec)

/-- ITS FALSE NEIGHBOUR: 'it returns false'. Refute it at one input. -/
def fnNewJoinGroupRequestWrong : ChangeSpec := { name := "fnNewJoinGroupRequest", fn := fun _ => fun
  | [d] => { results := [.lit (.bool false)], args := [d] }
  | _ => none }
def FnNewJoinGroupRequestWrongFalsely : Prop := fnNewJoinGroupRequestRow.holds Try.pinned (OpenSpec.ofChange fnNewJoinGroupRequestWrong)

/- THE SECOND FORM. 'bulk': how many values and letters a reading holds, each counted each time it is reached (what is shared counts as often as it is met; a slice's spare places count too). A statement '..UptoSaid' is the law's where the arguments, and the package variables that the reading takes, are together of bulk at most 1048576: NARROWER than '..Said'. Prove '..Said' where nothing that the law and all that it calls make is longer than what came in: it says more and counts as full. Else prove '..UptoSaid'. A law counts once. -/
mutual
def uptoBulk {H : Type} : DataW H → Nat
  | .lit (.string bytes) => bytes.length + 1
  | .lit _ => 1
  | .nil => 1
  | .ptr d => uptoBulk d + 1
  | .slice elems spare => uptoBulkAll elems + uptoBulkAll spare + 1
  | .agg parts => uptoBulkAll parts + 1
  | .iface _ d => uptoBulk d + 1
  | .map entries => uptoBulkEntries entries + 1
  | .held _ => 1
def uptoBulkAll {H : Type} : List (DataW H) → Nat
  | [] => 0
  | d :: r => uptoBulk d + uptoBulkAll r
def uptoBulkEntries {H : Type} : List (Lit × DataW H) → Nat
  | [] => 0
  | x :: r => uptoBulkEntry x + uptoBulkEntries r
def uptoBulkEntry {H : Type} : Lit × DataW H → Nat
  | (.string bytes, d) => bytes.length + uptoBulk d + 1
  | (_, d) => uptoBulk d + 1
 end
def uptoSmall : (H : Type) → List (DataW H) → Bool := fun _ ds => decide (uptoBulkAll ds ≤ 1048576)
def OpenSpec.upto (s : _root_.Go.ChangeSpec) : _root_.Go.OpenSpec := { _root_.Go.OpenSpec.ofChange s with cond := some uptoSmall }

/-- 'laws.FnNewUnregisterControllerResponse', WHERE WHAT IT READS IS OF BULK AT MOST 1048576: true; the input reads as it did. -/
def fnNewUnregisterControllerResponseUptoRow : OpenClaim := { program := "ytmidelapgdpnoaa", sum := "1f2baca639a794dae686f62b05e183f27a61ac84c4deebb6833181fc0e9b8380", func := "pub-kmsg/laws.FnNewUnregisterControllerResponse", spec := "fnNewUnregisterControllerResponse", inPlace := ["internal/reflectlite.ValueOf", "internal/reflectlite.Swapper", "(internal/reflectlite.Value).Len"], unfollowed := true, recurses := true, apart := false, narrowed := true }
def FnNewUnregisterControllerResponseUptoSaid : Prop := fnNewUnregisterControllerResponseUptoRow.holds Try.pinned (OpenSpec.upto fnNewUnregisterControllerResponseSpec)

/-- 'laws.FnNewStreamsGroupDescribeRequest', WHERE WHAT IT READS IS OF BULK AT MOST 1048576: true; the input reads as it did. -/
def fnNewStreamsGroupDescribeRequestUptoRow : OpenClaim := { program := "ytmidelapgdpnoaa", sum := "1f2baca639a794dae686f62b05e183f27a61ac84c4deebb6833181fc0e9b8380", func := "pub-kmsg/laws.FnNewStreamsGroupDescribeRequest", spec := "fnNewStreamsGroupDescribeRequest", inPlace := ["internal/reflectlite.ValueOf", "internal/reflectlite.Swapper", "(internal/reflectlite.Value).Len"], unfollowed := true, recurses := true, apart := false, narrowed := true }
def FnNewStreamsGroupDescribeRequestUptoSaid : Prop := fnNewStreamsGroupDescribeRequestUptoRow.holds Try.pinned (OpenSpec.upto fnNewStreamsGroupDescribeRequestSpec)

/-- 'laws.FnNewSASLAuthenticateResponse', WHERE WHAT IT READS IS OF BULK AT MOST 1048576: true; the input reads as it did. -/
def fnNewSASLAuthenticateResponseUptoRow : OpenClaim := { program := "ytmidelapgdpnoaa", sum := "1f2baca639a794dae686f62b05e183f27a61ac84c4deebb6833181fc0e9b8380", func := "pub-kmsg/laws.FnNewSASLAuthenticateResponse", spec := "fnNewSASLAuthenticateResponse", inPlace := ["internal/reflectlite.ValueOf", "internal/reflectlite.Swapper", "(internal/reflectlite.Value).Len"], unfollowed := true, recurses := true, apart := false, narrowed := true }
def FnNewSASLAuthenticateResponseUptoSaid : Prop := fnNewSASLAuthenticateResponseUptoRow.holds Try.pinned (OpenSpec.upto fnNewSASLAuthenticateResponseSpec)

/-- 'laws.FnNewAlterUserSCRAMCredentialsResponse', WHERE WHAT IT READS IS OF BULK AT MOST 1048576: true; the input reads as it did. -/
def fnNewAlterUserSCRAMCredentialsResponseUptoRow : OpenClaim := { program := "ytmidelapgdpnoaa", sum := "1f2baca639a794dae686f62b05e183f27a61ac84c4deebb6833181fc0e9b8380", func := "pub-kmsg/laws.FnNewAlterUserSCRAMCredentialsResponse", spec := "fnNewAlterUserSCRAMCredentialsResponse", inPlace := ["internal/reflectlite.ValueOf", "internal/reflectlite.Swapper", "(internal/reflectlite.Value).Len"], unfollowed := true, recurses := true, apart := false, narrowed := true }
def FnNewAlterUserSCRAMCredentialsResponseUptoSaid : Prop := fnNewAlterUserSCRAMCredentialsResponseUptoRow.holds Try.pinned (OpenSpec.upto fnNewAlterUserSCRAMCredentialsResponseSpec)

/-- 'laws.FnNewDescribeACLsRequest', WHERE WHAT IT READS IS OF BULK AT MOST 1048576: true; the input reads as it did. -/
def fnNewDescribeACLsRequestUptoRow : OpenClaim := { program := "ytmidelapgdpnoaa", sum := "1f2baca639a794dae686f62b05e183f27a61ac84c4deebb6833181fc0e9b8380", func := "pub-kmsg/laws.FnNewDescribeACLsRequest", spec := "fnNewDescribeACLsRequest", inPlace := ["internal/reflectlite.ValueOf", "internal/reflectlite.Swapper", "(internal/reflectlite.Value).Len"], unfollowed := true, recurses := true, apart := false, narrowed := true }
def FnNewDescribeACLsRequestUptoSaid : Prop := fnNewDescribeACLsRequestUptoRow.holds Try.pinned (OpenSpec.upto fnNewDescribeACLsRequestSpec)

/-- 'laws.FnNewElectLeadersRequest', WHERE WHAT IT READS IS OF BULK AT MOST 1048576: true; the input reads as it did. -/
def fnNewElectLeadersRequestUptoRow : OpenClaim := { program := "ytmidelapgdpnoaa", sum := "1f2baca639a794dae686f62b05e183f27a61ac84c4deebb6833181fc0e9b8380", func := "pub-kmsg/laws.FnNewElectLeadersRequest", spec := "fnNewElectLeadersRequest", inPlace := ["internal/reflectlite.ValueOf", "internal/reflectlite.Swapper", "(internal/reflectlite.Value).Len"], unfollowed := true, recurses := true, apart := false, narrowed := true }
def FnNewElectLeadersRequestUptoSaid : Prop := fnNewElectLeadersRequestUptoRow.holds Try.pinned (OpenSpec.upto fnNewElectLeadersRequestSpec)

/-- 'laws.FnNewJoinGroupRequest', WHERE WHAT IT READS IS OF BULK AT MOST 1048576: true; the input reads as it did. -/
def fnNewJoinGroupRequestUptoRow : OpenClaim := { program := "ytmidelapgdpnoaa", sum := "1f2baca639a794dae686f62b05e183f27a61ac84c4deebb6833181fc0e9b8380", func := "pub-kmsg/laws.FnNewJoinGroupRequest", spec := "fnNewJoinGroupRequest", inPlace := ["internal/reflectlite.ValueOf", "internal/reflectlite.Swapper", "(internal/reflectlite.Value).Len"], unfollowed := true, recurses := true, apart := false, narrowed := true }
def FnNewJoinGroupRequestUptoSaid : Prop := fnNewJoinGroupRequestUptoRow.holds Try.pinned (OpenSpec.upto fnNewJoinGroupRequestSpec)

end Rows
end Go.Proofs.Ytmidelapgdpnoaa
