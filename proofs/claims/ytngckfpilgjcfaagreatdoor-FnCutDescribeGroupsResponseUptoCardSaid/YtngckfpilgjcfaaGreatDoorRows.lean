/-
  NARROWER THAN 'FOR EVERY INPUT', by the rows' own cells (each row's printed sentence says how): FnCutDescribeUserSCRAMCredentialsRequest: loops, laid · FnCutOffsetForLeaderEpochRequest: loops, laid · FnCutCreatePartitionsResponse: loops, laid · FnCutInitializeShareGroupStateRequest: loops, laid · FnCutDeleteTopicsRequest: loops, laid · FnCutListOffsetsResponse: loops, laid · FnCutWriteTxnMarkersRequest: loops, laid · FnCutAlterShareGroupOffsetsResponse: loops, laid · FnCutStopReplicaRequest: loops, laid · FnCutDescribeGroupsResponse: loops, laid.
  DERIVED. THE GIVEN ROWS OF THIS SEAT. 10 by the template 'for every input the law returns true; each argument reads behind the call as it read before'; 0 by the template 'total and deterministic' (their statements: YtngckfpilgjcfaaGreatDoorTotals.lean).
  GIVEN WITH THE SEED: the statements are not yours to turn. If you find one false, say at which input.
  Laid BY PROGRAM, IN A SANDBOX (cutbox-rows.mjs): the forced cells as the released guide's own fill.sh prints them over the translation efe4705dd5da1f0a… (all of the seat's roots in one cut). By AI agents, Wed Nov 11 2026. No macro, syntax, notation, axiom, sorry.
-/
import Derived.Test.YtngckfpilgjcfaaGreatDoorChecked
import GoSem.Claim
import GoSem.ClaimJoined
import GoSem.ClaimMapViews
import Derived.JoinedTies
import Derived.KernelRfl
namespace Go.Proofs.YtngckfpilgjcfaaGreatDoor
/- THE CELL 'sum', in the pinned program and in every row, IS THE sha256 OF THE DUMP (.gsa) THAT YtngckfpilgjcfaaGreatDoorProg.lean LOADS. Nothing in Lean hashes anything: it is a label: what it is worth is what the hold of that sum in a sandbox is worth. -/
noncomputable def Tryz.pinned : Pinned := { name := "ytngckfpilgjcfaagreatdoor", sum := "efe4705dd5da1f0ac352b337e28f2228e420ae2b556a7539cc729ea33fce0dad", checked := Tryz.checked }
namespace Rows
def none {H : Type} : Left H := { results := [], args := [] }

/- WHAT THE LISTED PACKAGE-LEVEL VARIABLES READ AS WHEN THE CALL BEGINS. Each datum BY PROGRAM (the guide's laid-datum.mjs) off the statement by which the dump's own 'gosem.cut.vars' lays the variable. In a bare row this is a premise. The card (YtngckfpilgjcfaaGreatDoorCards.lean) ties it to the program's text. -/
def laid_pub_kmsg_pub_kmsg_inner_kbin_ErrNotEnoughData {H : Type} : DataW H := .iface "*errors.errorString" (.ptr (.agg [.lit (.string [114, 101, 115, 112, 111, 110, 115, 101, 32, 100, 105, 100, 32, 110, 111, 116, 32, 99, 111, 110, 116, 97, 105, 110, 32, 101, 110, 111, 117, 103, 104, 32, 100, 97, 116, 97, 32, 116, 111, 32, 98, 101, 32, 118, 97, 108, 105, 100])]))

/-- 'laws.FnCutDescribeUserSCRAMCredentialsRequest': WHATEVER THE INPUT: true; the input reads as it did. -/
def fnCutDescribeUserSCRAMCredentialsRequestSpec : ChangeSpec := { name := "fnCutDescribeUserSCRAMCredentialsRequest", fn := fun _ => fun
  | [d1, d2, d3] => { results := [.lit (.bool true)], args := [d1, d2, d3] }
  | _ => none }
def fnCutDescribeUserSCRAMCredentialsRequestRow : OpenClaim := { program := "ytngckfpilgjcfaagreatdoor", sum := "efe4705dd5da1f0ac352b337e28f2228e420ae2b556a7539cc729ea33fce0dad", func := "pub-kmsg/laws.FnCutDescribeUserSCRAMCredentialsRequest", spec := "fnCutDescribeUserSCRAMCredentialsRequest", inPlace := ["internal/reflectlite.ValueOf", "internal/reflectlite.Swapper", "(internal/reflectlite.Value).Len"], unfollowed := true, recurses := true, named := ["encoding/binary.BigEndian", "pub-kmsg/pub/kmsg/inner/kbin.ErrNotEnoughData"], loops := true, apart := false, laid := [("pub-kmsg/pub/kmsg/inner/kbin.ErrNotEnoughData", laid_pub_kmsg_pub_kmsg_inner_kbin_ErrNotEnoughData)] }
def FnCutDescribeUserSCRAMCredentialsRequestSaid : Prop := fnCutDescribeUserSCRAMCredentialsRequestRow.holds Tryz.pinned (OpenSpec.ofChange fnCutDescribeUserSCRAMCredentialsRequestSpec)

/-- ITS FALSE NEIGHBOUR: 'it returns false'. Refute it at one input. -/
def fnCutDescribeUserSCRAMCredentialsRequestWrong : ChangeSpec := { name := "fnCutDescribeUserSCRAMCredentialsRequest", fn := fun _ => fun
  | [d1, d2, d3] => { results := [.lit (.bool false)], args := [d1, d2, d3] }
  | _ => none }
def FnCutDescribeUserSCRAMCredentialsRequestWrongFalsely : Prop := fnCutDescribeUserSCRAMCredentialsRequestRow.holds Tryz.pinned (OpenSpec.ofChange fnCutDescribeUserSCRAMCredentialsRequestWrong)

/-- 'laws.FnCutOffsetForLeaderEpochRequest': WHATEVER THE INPUT: true; the input reads as it did. -/
def fnCutOffsetForLeaderEpochRequestSpec : ChangeSpec := { name := "fnCutOffsetForLeaderEpochRequest", fn := fun _ => fun
  | [d1, d2, d3] => { results := [.lit (.bool true)], args := [d1, d2, d3] }
  | _ => none }
def fnCutOffsetForLeaderEpochRequestRow : OpenClaim := { program := "ytngckfpilgjcfaagreatdoor", sum := "efe4705dd5da1f0ac352b337e28f2228e420ae2b556a7539cc729ea33fce0dad", func := "pub-kmsg/laws.FnCutOffsetForLeaderEpochRequest", spec := "fnCutOffsetForLeaderEpochRequest", inPlace := ["internal/reflectlite.ValueOf", "internal/reflectlite.Swapper", "(internal/reflectlite.Value).Len"], unfollowed := true, recurses := true, named := ["encoding/binary.BigEndian", "pub-kmsg/pub/kmsg/inner/kbin.ErrNotEnoughData"], loops := true, apart := false, laid := [("pub-kmsg/pub/kmsg/inner/kbin.ErrNotEnoughData", laid_pub_kmsg_pub_kmsg_inner_kbin_ErrNotEnoughData)] }
def FnCutOffsetForLeaderEpochRequestSaid : Prop := fnCutOffsetForLeaderEpochRequestRow.holds Tryz.pinned (OpenSpec.ofChange fnCutOffsetForLeaderEpochRequestSpec)

/-- ITS FALSE NEIGHBOUR: 'it returns false'. Refute it at one input. -/
def fnCutOffsetForLeaderEpochRequestWrong : ChangeSpec := { name := "fnCutOffsetForLeaderEpochRequest", fn := fun _ => fun
  | [d1, d2, d3] => { results := [.lit (.bool false)], args := [d1, d2, d3] }
  | _ => none }
def FnCutOffsetForLeaderEpochRequestWrongFalsely : Prop := fnCutOffsetForLeaderEpochRequestRow.holds Tryz.pinned (OpenSpec.ofChange fnCutOffsetForLeaderEpochRequestWrong)

/-- 'laws.FnCutCreatePartitionsResponse': WHATEVER THE INPUT: true; the input reads as it did. -/
def fnCutCreatePartitionsResponseSpec : ChangeSpec := { name := "fnCutCreatePartitionsResponse", fn := fun _ => fun
  | [d1, d2, d3] => { results := [.lit (.bool true)], args := [d1, d2, d3] }
  | _ => none }
def fnCutCreatePartitionsResponseRow : OpenClaim := { program := "ytngckfpilgjcfaagreatdoor", sum := "efe4705dd5da1f0ac352b337e28f2228e420ae2b556a7539cc729ea33fce0dad", func := "pub-kmsg/laws.FnCutCreatePartitionsResponse", spec := "fnCutCreatePartitionsResponse", inPlace := ["internal/reflectlite.ValueOf", "internal/reflectlite.Swapper", "(internal/reflectlite.Value).Len"], unfollowed := true, recurses := true, named := ["encoding/binary.BigEndian", "pub-kmsg/pub/kmsg/inner/kbin.ErrNotEnoughData"], loops := true, apart := false, laid := [("pub-kmsg/pub/kmsg/inner/kbin.ErrNotEnoughData", laid_pub_kmsg_pub_kmsg_inner_kbin_ErrNotEnoughData)] }
def FnCutCreatePartitionsResponseSaid : Prop := fnCutCreatePartitionsResponseRow.holds Tryz.pinned (OpenSpec.ofChange fnCutCreatePartitionsResponseSpec)

/-- ITS FALSE NEIGHBOUR: 'it returns false'. Refute it at one input. -/
def fnCutCreatePartitionsResponseWrong : ChangeSpec := { name := "fnCutCreatePartitionsResponse", fn := fun _ => fun
  | [d1, d2, d3] => { results := [.lit (.bool false)], args := [d1, d2, d3] }
  | _ => none }
def FnCutCreatePartitionsResponseWrongFalsely : Prop := fnCutCreatePartitionsResponseRow.holds Tryz.pinned (OpenSpec.ofChange fnCutCreatePartitionsResponseWrong)

/-- 'laws.FnCutInitializeShareGroupStateRequest': WHATEVER THE INPUT: true; the input reads as it did. -/
def fnCutInitializeShareGroupStateRequestSpec : ChangeSpec := { name := "fnCutInitializeShareGroupStateRequest", fn := fun _ => fun
  | [d1, d2, d3] => { results := [.lit (.bool true)], args := [d1, d2, d3] }
  | _ => none }
def fnCutInitializeShareGroupStateRequestRow : OpenClaim := { program := "ytngckfpilgjcfaagreatdoor", sum := "efe4705dd5da1f0ac352b337e28f2228e420ae2b556a7539cc729ea33fce0dad", func := "pub-kmsg/laws.FnCutInitializeShareGroupStateRequest", spec := "fnCutInitializeShareGroupStateRequest", inPlace := ["internal/reflectlite.ValueOf", "internal/reflectlite.Swapper", "(internal/reflectlite.Value).Len"], unfollowed := true, recurses := true, named := ["encoding/binary.BigEndian", "pub-kmsg/pub/kmsg/inner/kbin.ErrNotEnoughData"], loops := true, apart := false, laid := [("pub-kmsg/pub/kmsg/inner/kbin.ErrNotEnoughData", laid_pub_kmsg_pub_kmsg_inner_kbin_ErrNotEnoughData)] }
def FnCutInitializeShareGroupStateRequestSaid : Prop := fnCutInitializeShareGroupStateRequestRow.holds Tryz.pinned (OpenSpec.ofChange fnCutInitializeShareGroupStateRequestSpec)

/-- ITS FALSE NEIGHBOUR: 'it returns false'. Refute it at one input. -/
def fnCutInitializeShareGroupStateRequestWrong : ChangeSpec := { name := "fnCutInitializeShareGroupStateRequest", fn := fun _ => fun
  | [d1, d2, d3] => { results := [.lit (.bool false)], args := [d1, d2, d3] }
  | _ => none }
def FnCutInitializeShareGroupStateRequestWrongFalsely : Prop := fnCutInitializeShareGroupStateRequestRow.holds Tryz.pinned (OpenSpec.ofChange fnCutInitializeShareGroupStateRequestWrong)

/-- 'laws.FnCutDeleteTopicsRequest': WHATEVER THE INPUT: true; the input reads as it did. -/
def fnCutDeleteTopicsRequestSpec : ChangeSpec := { name := "fnCutDeleteTopicsRequest", fn := fun _ => fun
  | [d1, d2, d3] => { results := [.lit (.bool true)], args := [d1, d2, d3] }
  | _ => none }
def fnCutDeleteTopicsRequestRow : OpenClaim := { program := "ytngckfpilgjcfaagreatdoor", sum := "efe4705dd5da1f0ac352b337e28f2228e420ae2b556a7539cc729ea33fce0dad", func := "pub-kmsg/laws.FnCutDeleteTopicsRequest", spec := "fnCutDeleteTopicsRequest", inPlace := ["internal/reflectlite.ValueOf", "internal/reflectlite.Swapper", "(internal/reflectlite.Value).Len"], unfollowed := true, recurses := true, named := ["encoding/binary.BigEndian", "pub-kmsg/pub/kmsg/inner/kbin.ErrNotEnoughData"], loops := true, apart := false, laid := [("pub-kmsg/pub/kmsg/inner/kbin.ErrNotEnoughData", laid_pub_kmsg_pub_kmsg_inner_kbin_ErrNotEnoughData)] }
def FnCutDeleteTopicsRequestSaid : Prop := fnCutDeleteTopicsRequestRow.holds Tryz.pinned (OpenSpec.ofChange fnCutDeleteTopicsRequestSpec)

/-- ITS FALSE NEIGHBOUR: 'it returns false'. Refute it at one input. -/
def fnCutDeleteTopicsRequestWrong : ChangeSpec := { name := "fnCutDeleteTopicsRequest", fn := fun _ => fun
  | [d1, d2, d3] => { results := [.lit (.bool false)], args := [d1, d2, d3] }
  | _ => none }
def FnCutDeleteTopicsRequestWrongFalsely : Prop := fnCutDeleteTopicsRequestRow.holds Tryz.pinned (OpenSpec.ofChange fnCutDeleteTopicsRequestWrong)

/-- 'laws.FnCutListOffsetsResponse': WHATEVER THE INPUT: true; the input reads as it did. -/
def fnCutListOffsetsResponseSpec : ChangeSpec := { name := "fnCutListOffsetsResponse", fn := fun _ => fun
  | [d1, d2, d3] => { results := [.lit (.bool true)], args := [d1, d2, d3] }
  | _ => none }
def fnCutListOffsetsResponseRow : OpenClaim := { program := "ytngckfpilgjcfaagreatdoor", sum := "efe4705dd5da1f0ac352b337e28f2228e420ae2b556a7539cc729ea33fce0dad", func := "pub-kmsg/laws.FnCutListOffsetsResponse", spec := "fnCutListOffsetsResponse", inPlace := ["internal/reflectlite.ValueOf", "internal/reflectlite.Swapper", "(internal/reflectlite.Value).Len"], unfollowed := true, recurses := true, named := ["encoding/binary.BigEndian", "pub-kmsg/pub/kmsg/inner/kbin.ErrNotEnoughData"], loops := true, apart := false, laid := [("pub-kmsg/pub/kmsg/inner/kbin.ErrNotEnoughData", laid_pub_kmsg_pub_kmsg_inner_kbin_ErrNotEnoughData)] }
def FnCutListOffsetsResponseSaid : Prop := fnCutListOffsetsResponseRow.holds Tryz.pinned (OpenSpec.ofChange fnCutListOffsetsResponseSpec)

/-- ITS FALSE NEIGHBOUR: 'it returns false'. Refute it at one input. -/
def fnCutListOffsetsResponseWrong : ChangeSpec := { name := "fnCutListOffsetsResponse", fn := fun _ => fun
  | [d1, d2, d3] => { results := [.lit (.bool false)], args := [d1, d2, d3] }
  | _ => none }
def FnCutListOffsetsResponseWrongFalsely : Prop := fnCutListOffsetsResponseRow.holds Tryz.pinned (OpenSpec.ofChange fnCutListOffsetsResponseWrong)

/-- 'laws.FnCutWriteTxnMarkersRequest': WHATEVER THE INPUT: true; the input reads as it did. -/
def fnCutWriteTxnMarkersRequestSpec : ChangeSpec := { name := "fnCutWriteTxnMarkersRequest", fn := fun _ => fun
  | [d1, d2, d3] => { results := [.lit (.bool true)], args := [d1, d2, d3] }
  | _ => none }
def fnCutWriteTxnMarkersRequestRow : OpenClaim := { program := "ytngckfpilgjcfaagreatdoor", sum := "efe4705dd5da1f0ac352b337e28f2228e420ae2b556a7539cc729ea33fce0dad", func := "pub-kmsg/laws.FnCutWriteTxnMarkersRequest", spec := "fnCutWriteTxnMarkersRequest", inPlace := ["internal/reflectlite.ValueOf", "internal/reflectlite.Swapper", "(internal/reflectlite.Value).Len"], unfollowed := true, recurses := true, named := ["encoding/binary.BigEndian", "pub-kmsg/pub/kmsg/inner/kbin.ErrNotEnoughData"], loops := true, apart := false, laid := [("pub-kmsg/pub/kmsg/inner/kbin.ErrNotEnoughData", laid_pub_kmsg_pub_kmsg_inner_kbin_ErrNotEnoughData)] }
def FnCutWriteTxnMarkersRequestSaid : Prop := fnCutWriteTxnMarkersRequestRow.holds Tryz.pinned (OpenSpec.ofChange fnCutWriteTxnMarkersRequestSpec)

/-- ITS FALSE NEIGHBOUR: 'it returns false'. Refute it at one input. -/
def fnCutWriteTxnMarkersRequestWrong : ChangeSpec := { name := "fnCutWriteTxnMarkersRequest", fn := fun _ => fun
  | [d1, d2, d3] => { results := [.lit (.bool false)], args := [d1, d2, d3] }
  | _ => none }
def FnCutWriteTxnMarkersRequestWrongFalsely : Prop := fnCutWriteTxnMarkersRequestRow.holds Tryz.pinned (OpenSpec.ofChange fnCutWriteTxnMarkersRequestWrong)

/-- 'laws.FnCutAlterShareGroupOffsetsResponse': WHATEVER THE INPUT: true; the input reads as it did. -/
def fnCutAlterShareGroupOffsetsResponseSpec : ChangeSpec := { name := "fnCutAlterShareGroupOffsetsResponse", fn := fun _ => fun
  | [d1, d2, d3] => { results := [.lit (.bool true)], args := [d1, d2, d3] }
  | _ => none }
def fnCutAlterShareGroupOffsetsResponseRow : OpenClaim := { program := "ytngckfpilgjcfaagreatdoor", sum := "efe4705dd5da1f0ac352b337e28f2228e420ae2b556a7539cc729ea33fce0dad", func := "pub-kmsg/laws.FnCutAlterShareGroupOffsetsResponse", spec := "fnCutAlterShareGroupOffsetsResponse", inPlace := ["internal/reflectlite.ValueOf", "internal/reflectlite.Swapper", "(internal/reflectlite.Value).Len"], unfollowed := true, recurses := true, named := ["encoding/binary.BigEndian", "pub-kmsg/pub/kmsg/inner/kbin.ErrNotEnoughData"], loops := true, apart := false, laid := [("pub-kmsg/pub/kmsg/inner/kbin.ErrNotEnoughData", laid_pub_kmsg_pub_kmsg_inner_kbin_ErrNotEnoughData)] }
def FnCutAlterShareGroupOffsetsResponseSaid : Prop := fnCutAlterShareGroupOffsetsResponseRow.holds Tryz.pinned (OpenSpec.ofChange fnCutAlterShareGroupOffsetsResponseSpec)

/-- ITS FALSE NEIGHBOUR: 'it returns false'. Refute it at one input. -/
def fnCutAlterShareGroupOffsetsResponseWrong : ChangeSpec := { name := "fnCutAlterShareGroupOffsetsResponse", fn := fun _ => fun
  | [d1, d2, d3] => { results := [.lit (.bool false)], args := [d1, d2, d3] }
  | _ => none }
def FnCutAlterShareGroupOffsetsResponseWrongFalsely : Prop := fnCutAlterShareGroupOffsetsResponseRow.holds Tryz.pinned (OpenSpec.ofChange fnCutAlterShareGroupOffsetsResponseWrong)

/-- 'laws.FnCutStopReplicaRequest': WHATEVER THE INPUT: true; the input reads as it did. -/
def fnCutStopReplicaRequestSpec : ChangeSpec := { name := "fnCutStopReplicaRequest", fn := fun _ => fun
  | [d1, d2, d3] => { results := [.lit (.bool true)], args := [d1, d2, d3] }
  | _ => none }
def fnCutStopReplicaRequestRow : OpenClaim := { program := "ytngckfpilgjcfaagreatdoor", sum := "efe4705dd5da1f0ac352b337e28f2228e420ae2b556a7539cc729ea33fce0dad", func := "pub-kmsg/laws.FnCutStopReplicaRequest", spec := "fnCutStopReplicaRequest", inPlace := ["internal/reflectlite.ValueOf", "internal/reflectlite.Swapper", "(internal/reflectlite.Value).Len"], unfollowed := true, recurses := true, named := ["encoding/binary.BigEndian", "pub-kmsg/pub/kmsg/inner/kbin.ErrNotEnoughData"], loops := true, apart := false, laid := [("pub-kmsg/pub/kmsg/inner/kbin.ErrNotEnoughData", laid_pub_kmsg_pub_kmsg_inner_kbin_ErrNotEnoughData)] }
def FnCutStopReplicaRequestSaid : Prop := fnCutStopReplicaRequestRow.holds Tryz.pinned (OpenSpec.ofChange fnCutStopReplicaRequestSpec)

/-- ITS FALSE NEIGHBOUR: 'it returns false'. Refute it at one input. -/
def fnCutStopReplicaRequestWrong : ChangeSpec := { name := "fnCutStopReplicaRequest", fn := fun _ => fun
  | [d1, d2, d3] => { results := [.lit (.bool false)], args := [d1, d2, d3] }
  | _ => none }
def FnCutStopReplicaRequestWrongFalsely : Prop := fnCutStopReplicaRequestRow.holds Tryz.pinned (OpenSpec.ofChange fnCutStopReplicaRequestWrong)

/-- 'laws.FnCutDescribeGroupsResponse': WHATEVER THE INPUT: true; the input reads as it did. -/
def fnCutDescribeGroupsResponseSpec : ChangeSpec := { name := "fnCutDescribeGroupsResponse", fn := fun _ => fun
  | [d1, d2, d3] => { results := [.lit (.bool true)], args := [d1, d2, d3] }
  | _ => none }
def fnCutDescribeGroupsResponseRow : OpenClaim := { program := "ytngckfpilgjcfaagreatdoor", sum := "efe4705dd5da1f0ac352b337e28f2228e420ae2b556a7539cc729ea33fce0dad", func := "pub-kmsg/laws.FnCutDescribeGroupsResponse", spec := "fnCutDescribeGroupsResponse", inPlace := ["internal/reflectlite.ValueOf", "internal/reflectlite.Swapper", "(internal/reflectlite.Value).Len"], unfollowed := true, recurses := true, named := ["encoding/binary.BigEndian", "pub-kmsg/pub/kmsg/inner/kbin.ErrNotEnoughData"], loops := true, apart := false, laid := [("pub-kmsg/pub/kmsg/inner/kbin.ErrNotEnoughData", laid_pub_kmsg_pub_kmsg_inner_kbin_ErrNotEnoughData)] }
def FnCutDescribeGroupsResponseSaid : Prop := fnCutDescribeGroupsResponseRow.holds Tryz.pinned (OpenSpec.ofChange fnCutDescribeGroupsResponseSpec)

/-- ITS FALSE NEIGHBOUR: 'it returns false'. Refute it at one input. -/
def fnCutDescribeGroupsResponseWrong : ChangeSpec := { name := "fnCutDescribeGroupsResponse", fn := fun _ => fun
  | [d1, d2, d3] => { results := [.lit (.bool false)], args := [d1, d2, d3] }
  | _ => none }
def FnCutDescribeGroupsResponseWrongFalsely : Prop := fnCutDescribeGroupsResponseRow.holds Tryz.pinned (OpenSpec.ofChange fnCutDescribeGroupsResponseWrong)

/- THE SECOND FORM. 'bulk': how many values and letters a reading holds, each counted each time it is reached (what is shared counts as often as it is met; a slice's spare places count too). A statement '..UptoSaid' is the law's where the arguments, and the package variables that the reading takes, are together of bulk at most 1048576: NARROWER than '..Said'. Prove '..Said' where nothing that the law and all that it calls make is longer than what came in: it says more and counts as full. Else prove '..UptoSaid'. A law counts once. -/
mutual
def uptoBulk {H : Type} : DataW H → Nat
  | .lit (.string bytes) => bytes.length + 1
  | .lit _ => 1
  | .nil => 1
  | .ptr d => uptoBulk d + 1
  | .slice elems spare => uptoBulkAll elems + uptoBulkAll spare + 1
  | .agg parts => uptoBulkAll parts + 1
  | .iface _ d => uptoBulk d + 1
  | .map entries => uptoBulkEntries entries + 1
  | .held _ => 1
def uptoBulkAll {H : Type} : List (DataW H) → Nat
  | [] => 0
  | d :: r => uptoBulk d + uptoBulkAll r
def uptoBulkEntries {H : Type} : List (Lit × DataW H) → Nat
  | [] => 0
  | x :: r => uptoBulkEntry x + uptoBulkEntries r
def uptoBulkEntry {H : Type} : Lit × DataW H → Nat
  | (.string bytes, d) => bytes.length + uptoBulk d + 1
  | (_, d) => uptoBulk d + 1
 end
def uptoSmall : (H : Type) → List (DataW H) → Bool := fun _ ds => decide (uptoBulkAll ds ≤ 1048576)
def OpenSpec.upto (s : _root_.Go.ChangeSpec) : _root_.Go.OpenSpec := { _root_.Go.OpenSpec.ofChange s with cond := some uptoSmall }

/-- 'laws.FnCutDescribeUserSCRAMCredentialsRequest', WHERE WHAT IT READS IS OF BULK AT MOST 1048576: true; the input reads as it did. -/
def fnCutDescribeUserSCRAMCredentialsRequestUptoRow : OpenClaim := { program := "ytngckfpilgjcfaagreatdoor", sum := "efe4705dd5da1f0ac352b337e28f2228e420ae2b556a7539cc729ea33fce0dad", func := "pub-kmsg/laws.FnCutDescribeUserSCRAMCredentialsRequest", spec := "fnCutDescribeUserSCRAMCredentialsRequest", inPlace := ["internal/reflectlite.ValueOf", "internal/reflectlite.Swapper", "(internal/reflectlite.Value).Len"], unfollowed := true, recurses := true, named := ["encoding/binary.BigEndian", "pub-kmsg/pub/kmsg/inner/kbin.ErrNotEnoughData"], loops := true, apart := false, laid := [("pub-kmsg/pub/kmsg/inner/kbin.ErrNotEnoughData", laid_pub_kmsg_pub_kmsg_inner_kbin_ErrNotEnoughData)], narrowed := true }
def FnCutDescribeUserSCRAMCredentialsRequestUptoSaid : Prop := fnCutDescribeUserSCRAMCredentialsRequestUptoRow.holds Tryz.pinned (OpenSpec.upto fnCutDescribeUserSCRAMCredentialsRequestSpec)

/-- 'laws.FnCutOffsetForLeaderEpochRequest', WHERE WHAT IT READS IS OF BULK AT MOST 1048576: true; the input reads as it did. -/
def fnCutOffsetForLeaderEpochRequestUptoRow : OpenClaim := { program := "ytngckfpilgjcfaagreatdoor", sum := "efe4705dd5da1f0ac352b337e28f2228e420ae2b556a7539cc729ea33fce0dad", func := "pub-kmsg/laws.FnCutOffsetForLeaderEpochRequest", spec := "fnCutOffsetForLeaderEpochRequest", inPlace := ["internal/reflectlite.ValueOf", "internal/reflectlite.Swapper", "(internal/reflectlite.Value).Len"], unfollowed := true, recurses := true, named := ["encoding/binary.BigEndian", "pub-kmsg/pub/kmsg/inner/kbin.ErrNotEnoughData"], loops := true, apart := false, laid := [("pub-kmsg/pub/kmsg/inner/kbin.ErrNotEnoughData", laid_pub_kmsg_pub_kmsg_inner_kbin_ErrNotEnoughData)], narrowed := true }
def FnCutOffsetForLeaderEpochRequestUptoSaid : Prop := fnCutOffsetForLeaderEpochRequestUptoRow.holds Tryz.pinned (OpenSpec.upto fnCutOffsetForLeaderEpochRequestSpec)

/-- 'laws.FnCutCreatePartitionsResponse', WHERE WHAT IT READS IS OF BULK AT MOST 1048576: true; the input reads as it did. -/
def fnCutCreatePartitionsResponseUptoRow : OpenClaim := { program := "ytngckfpilgjcfaagreatdoor", sum := "efe4705dd5da1f0ac352b337e28f2228e420ae2b556a7539cc729ea33fce0dad", func := "pub-kmsg/laws.FnCutCreatePartitionsResponse", spec := "fnCutCreatePartitionsResponse", inPlace := ["internal/reflectlite.ValueOf", "internal/reflectlite.Swapper", "(internal/reflectlite.Value).Len"], unfollowed := true, recurses := true, named := ["encoding/binary.BigEndian", "pub-kmsg/pub/kmsg/inner/kbin.ErrNotEnoughData"], loops := true, apart := false, laid := [("pub-kmsg/pub/kmsg/inner/kbin.ErrNotEnoughData", laid_pub_kmsg_pub_kmsg_inner_kbin_ErrNotEnoughData)], narrowed := true }
def FnCutCreatePartitionsResponseUptoSaid : Prop := fnCutCreatePartitionsResponseUptoRow.holds Tryz.pinned (OpenSpec.upto fnCutCreatePartitionsResponseSpec)

/-- 'laws.FnCutInitializeShareGroupStateRequest', WHERE WHAT IT READS IS OF BULK AT MOST 1048576: true; the input reads as it did. -/
def fnCutInitializeShareGroupStateRequestUptoRow : OpenClaim := { program := "ytngckfpilgjcfaagreatdoor", sum := "efe4705dd5da1f0ac352b337e28f2228e420ae2b556a7539cc729ea33fce0dad", func := "pub-kmsg/laws.FnCutInitializeShareGroupStateRequest", spec := "fnCutInitializeShareGroupStateRequest", inPlace := ["internal/reflectlite.ValueOf", "internal/reflectlite.Swapper", "(internal/reflectlite.Value).Len"], unfollowed := true, recurses := true, named := ["encoding/binary.BigEndian", "pub-kmsg/pub/kmsg/inner/kbin.ErrNotEnoughData"], loops := true, apart := false, laid := [("pub-kmsg/pub/kmsg/inner/kbin.ErrNotEnoughData", laid_pub_kmsg_pub_kmsg_inner_kbin_ErrNotEnoughData)], narrowed := true }
def FnCutInitializeShareGroupStateRequestUptoSaid : Prop := fnCutInitializeShareGroupStateRequestUptoRow.holds Tryz.pinned (OpenSpec.upto fnCutInitializeShareGroupStateRequestSpec)

/-- 'laws.FnCutDeleteTopicsRequest', WHERE WHAT IT READS IS OF BULK AT MOST 1048576: true; the input reads as it did. -/
def fnCutDeleteTopicsRequestUptoRow : OpenClaim := { program := "ytngckfpilgjcfaagreatdoor", sum := "efe4705dd5da1f0ac352b337e28f2228e420ae2b556a7539cc729ea33fce0dad", func := "pub-kmsg/laws.FnCutDeleteTopicsRequest", spec := "fnCutDeleteTopicsRequest", inPlace := ["internal/reflectlite.ValueOf", "internal/reflectlite.Swapper", "(internal/reflectlite.Value).Len"], unfollowed := true, recurses := true, named := ["encoding/binary.BigEndian", "pub-kmsg/pub/kmsg/inner/kbin.ErrNotEnoughData"], loops := true, apart := false, laid := [("pub-kmsg/pub/kmsg/inner/kbin.ErrNotEnoughData", laid_pub_kmsg_pub_kmsg_inner_kbin_ErrNotEnoughData)], narrowed := true }
def FnCutDeleteTopicsRequestUptoSaid : Prop := fnCutDeleteTopicsRequestUptoRow.holds Tryz.pinned (OpenSpec.upto fnCutDeleteTopicsRequestSpec)

/-- 'laws.FnCutListOffsetsResponse', WHERE WHAT IT READS IS OF BULK AT MOST 1048576: true; the input reads as it did. -/
def fnCutListOffsetsResponseUptoRow : OpenClaim := { program := "ytngckfpilgjcfaagreatdoor", sum := "efe4705dd5da1f0ac352b337e28f2228e420ae2b556a7539cc729ea33fce0dad", func := "pub-kmsg/laws.FnCutListOffsetsResponse", spec := "fnCutListOffsetsResponse", inPlace := ["internal/reflectlite.ValueOf", "internal/reflectlite.Swapper", "(internal/reflectlite.Value).Len"], unfollowed := true, recurses := true, named := ["encoding/binary.BigEndian", "pub-kmsg/pub/kmsg/inner/kbin.ErrNotEnoughData"], loops := true, apart := false, laid := [("pub-kmsg/pub/kmsg/inner/kbin.ErrNotEnoughData", laid_pub_kmsg_pub_kmsg_inner_kbin_ErrNotEnoughData)], narrowed := true }
def FnCutListOffsetsResponseUptoSaid : Prop := fnCutListOffsetsResponseUptoRow.holds Tryz.pinned (OpenSpec.upto fnCutListOffsetsResponseSpec)

/-- 'laws.FnCutWriteTxnMarkersRequest', WHERE WHAT IT READS IS OF BULK AT MOST 1048576: true; the input reads as it did. -/
def fnCutWriteTxnMarkersRequestUptoRow : OpenClaim := { program := "ytngckfpilgjcfaagreatdoor", sum := "efe4705dd5da1f0ac352b337e28f2228e420ae2b556a7539cc729ea33fce0dad", func := "pub-kmsg/laws.FnCutWriteTxnMarkersRequest", spec := "fnCutWriteTxnMarkersRequest", inPlace := ["internal/reflectlite.ValueOf", "internal/reflectlite.Swapper", "(internal/reflectlite.Value).Len"], unfollowed := true, recurses := true, named := ["encoding/binary.BigEndian", "pub-kmsg/pub/kmsg/inner/kbin.ErrNotEnoughData"], loops := true, apart := false, laid := [("pub-kmsg/pub/kmsg/inner/kbin.ErrNotEnoughData", laid_pub_kmsg_pub_kmsg_inner_kbin_ErrNotEnoughData)], narrowed := true }
def FnCutWriteTxnMarkersRequestUptoSaid : Prop := fnCutWriteTxnMarkersRequestUptoRow.holds Tryz.pinned (OpenSpec.upto fnCutWriteTxnMarkersRequestSpec)

/-- 'laws.FnCutAlterShareGroupOffsetsResponse', WHERE WHAT IT READS IS OF BULK AT MOST 1048576: true; the input reads as it did. -/
def fnCutAlterShareGroupOffsetsResponseUptoRow : OpenClaim := { program := "ytngckfpilgjcfaagreatdoor", sum := "efe4705dd5da1f0ac352b337e28f2228e420ae2b556a7539cc729ea33fce0dad", func := "pub-kmsg/laws.FnCutAlterShareGroupOffsetsResponse", spec := "fnCutAlterShareGroupOffsetsResponse", inPlace := ["internal/reflectlite.ValueOf", "internal/reflectlite.Swapper", "(internal/reflectlite.Value).Len"], unfollowed := true, recurses := true, named := ["encoding/binary.BigEndian", "pub-kmsg/pub/kmsg/inner/kbin.ErrNotEnoughData"], loops := true, apart := false, laid := [("pub-kmsg/pub/kmsg/inner/kbin.ErrNotEnoughData", laid_pub_kmsg_pub_kmsg_inner_kbin_ErrNotEnoughData)], narrowed := true }
def FnCutAlterShareGroupOffsetsResponseUptoSaid : Prop := fnCutAlterShareGroupOffsetsResponseUptoRow.holds Tryz.pinned (OpenSpec.upto fnCutAlterShareGroupOffsetsResponseSpec)

/-- 'laws.FnCutStopReplicaRequest', WHERE WHAT IT READS IS OF BULK AT MOST 1048576: true; the input reads as it did. -/
def fnCutStopReplicaRequestUptoRow : OpenClaim := { program := "ytngckfpilgjcfaagreatdoor", sum := "efe4705dd5da1f0ac352b337e28f2228e420ae2b556a7539cc729ea33fce0dad", func := "pub-kmsg/laws.FnCutStopReplicaRequest", spec := "fnCutStopReplicaRequest", inPlace := ["internal/reflectlite.ValueOf", "internal/reflectlite.Swapper", "(internal/reflectlite.Value).Len"], unfollowed := true, recurses := true, named := ["encoding/binary.BigEndian", "pub-kmsg/pub/kmsg/inner/kbin.ErrNotEnoughData"], loops := true, apart := false, laid := [("pub-kmsg/pub/kmsg/inner/kbin.ErrNotEnoughData", laid_pub_kmsg_pub_kmsg_inner_kbin_ErrNotEnoughData)], narrowed := true }
def FnCutStopReplicaRequestUptoSaid : Prop := fnCutStopReplicaRequestUptoRow.holds Tryz.pinned (OpenSpec.upto fnCutStopReplicaRequestSpec)

/-- 'laws.FnCutDescribeGroupsResponse', WHERE WHAT IT READS IS OF BULK AT MOST 1048576: true; the input reads as it did. -/
def fnCutDescribeGroupsResponseUptoRow : OpenClaim := { program := "ytngckfpilgjcfaagreatdoor", sum := "efe4705dd5da1f0ac352b337e28f2228e420ae2b556a7539cc729ea33fce0dad", func := "pub-kmsg/laws.FnCutDescribeGroupsResponse", spec := "fnCutDescribeGroupsResponse", inPlace := ["internal/reflectlite.ValueOf", "internal/reflectlite.Swapper", "(internal/reflectlite.Value).Len"], unfollowed := true, recurses := true, named := ["encoding/binary.BigEndian", "pub-kmsg/pub/kmsg/inner/kbin.ErrNotEnoughData"], loops := true, apart := false, laid := [("pub-kmsg/pub/kmsg/inner/kbin.ErrNotEnoughData", laid_pub_kmsg_pub_kmsg_inner_kbin_ErrNotEnoughData)], narrowed := true }
def FnCutDescribeGroupsResponseUptoSaid : Prop := fnCutDescribeGroupsResponseUptoRow.holds Tryz.pinned (OpenSpec.upto fnCutDescribeGroupsResponseSpec)

end Rows
end Go.Proofs.YtngckfpilgjcfaaGreatDoor
