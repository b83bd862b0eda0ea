/-
  No cell of these rows narrows 'for every input' (looked for: loops, veiled, ifaces, maps, wideKeys, modest, calm, conditions, laid).
  DERIVED. THE GIVEN ROWS OF THIS SEAT. 7 by the template 'for every input the law returns true; each argument reads behind the call as it read before'; 0 by the template 'total and deterministic' (their statements: YtmidelapgdpnoabTotals.lean).
  GIVEN WITH THE SEED: the statements are not yours to turn. If you find one false, say at which input.
  Laid BY PROGRAM, IN A SANDBOX (cutbox-rows.mjs): the forced cells as the released guide's own fill.sh prints them over the translation cf256033a120178a… (all of the seat's roots in one cut). By AI agents, Wed Nov 11 2026. No macro, syntax, notation, axiom, sorry.
-/
import Derived.Test.YtmidelapgdpnoabChecked
import GoSem.Claim
import GoSem.ClaimJoined
import GoSem.ClaimMapViews
import Derived.JoinedTies
import Derived.KernelRfl
namespace Go.Proofs.Ytmidelapgdpnoab
/- THE CELL 'sum', in the pinned program and in every row, IS THE sha256 OF THE DUMP (.gsa) THAT YtmidelapgdpnoabProg.lean LOADS. Nothing in Lean hashes anything: it is a label: what it is worth is what the hold of that sum in a sandbox is worth. -/
noncomputable def Try.pinned : Pinned := { name := "ytmidelapgdpnoab", sum := "cf256033a120178a00ccabbf4c17d4bbf1cbdb703d3e1bfe986368ac5e8fe15f", checked := Try.checked }
namespace Rows
def none {H : Type} : Left H := { results := [], args := [] }

/-- 'laws.FnNewListPartitionReassignmentsResponse': WHATEVER THE INPUT: true; the input reads as it did. -/
def fnNewListPartitionReassignmentsResponseSpec : ChangeSpec := { name := "fnNewListPartitionReassignmentsResponse", fn := fun _ => fun
  | [d] => { results := [.lit (.bool true)], args := [d] }
  | _ => none }
def fnNewListPartitionReassignmentsResponseRow : OpenClaim := { program := "ytmidelapgdpnoab", sum := "cf256033a120178a00ccabbf4c17d4bbf1cbdb703d3e1bfe986368ac5e8fe15f", func := "pub-kmsg/laws.FnNewListPartitionReassignmentsResponse", spec := "fnNewListPartitionReassignmentsResponse", inPlace := ["internal/reflectlite.ValueOf", "internal/reflectlite.Swapper", "(internal/reflectlite.Value).Len"], unfollowed := true, recurses := true, apart := false }
def FnNewListPartitionReassignmentsResponseSaid : Prop := fnNewListPartitionReassignmentsResponseRow.holds Try.pinned (OpenSpec.ofChange fnNewListPartitionReassignmentsResponseSpec)

/-- ITS FALSE NEIGHBOUR: 'it returns false'. Refute it at one input. -/
def fnNewListPartitionReassignmentsResponseWrong : ChangeSpec := { name := "fnNewListPartitionReassignmentsResponse", fn := fun _ => fun
  | [d] => { results := [.lit (.bool false)], args := [d] }
  | _ => none }
def FnNewListPartitionReassignmentsResponseWrongFalsely : Prop := fnNewListPartitionReassignmentsResponseRow.holds Try.pinned (OpenSpec.ofChange fnNewListPartitionReassignmentsResponseWrong)

/-- 'laws.FnNewProduceRequest': WHATEVER THE INPUT: true; the input reads as it did. -/
def fnNewProduceRequestSpec : ChangeSpec := { name := "fnNewProduceRequest", fn := fun _ => fun
  | [d] => { results := [.lit (.bool true)], args := [d] }
  | _ => none }
def fnNewProduceRequestRow : OpenClaim := { program := "ytmidelapgdpnoab", sum := "cf256033a120178a00ccabbf4c17d4bbf1cbdb703d3e1bfe986368ac5e8fe15f", func := "pub-kmsg/laws.FnNewProduceRequest", spec := "fnNewProduceRequest", inPlace := ["internal/reflectlite.ValueOf", "internal/reflectlite.Swapper", "(internal/reflectlite.Value).Len"], unfollowed := true, recurses := true, apart := false }
def FnNewProduceRequestSaid : Prop := fnNewProduceRequestRow.holds Try.pinned (OpenSpec.ofChange fnNewProduceRequestSpec)

/-- ITS FALSE NEIGHBOUR: 'it returns false'. Refute it at one input. -/
def fnNewProduceRequestWrong : ChangeSpec := { name := "fnNewProduceRequest", fn := fun _ => fun
  | [d] => { results := [.lit (.bool false)], args := [d] }
  | _ => none }
def FnNewProduceRequestWrongFalsely : Prop := fnNewProduceRequestRow.holds Try.pinned (OpenSpec.ofChange fnNewProduceRequestWrong)

/-- 'laws.FnNewAlterClientQuotasRequest': WHATEVER THE INPUT: true; the input reads as it did. -/
def fnNewAlterClientQuotasRequestSpec : ChangeSpec := { name := "fnNewAlterClientQuotasRequest", fn := fun _ => fun
  | [d] => { results := [.lit (.bool true)], args := [d] }
  | _ => none }
def fnNewAlterClientQuotasRequestRow : OpenClaim := { program := "ytmidelapgdpnoab", sum := "cf256033a120178a00ccabbf4c17d4bbf1cbdb703d3e1bfe986368ac5e8fe15f", func := "pub-kmsg/laws.FnNewAlterClientQuotasRequest", spec := "fnNewAlterClientQuotasRequest", inPlace := ["internal/reflectlite.ValueOf", "internal/reflectlite.Swapper", "(internal/reflectlite.Value).Len", "math.Float64bits"], unfollowed := true, recurses := true, apart := false }
def FnNewAlterClientQuotasRequestSaid : Prop := fnNewAlterClientQuotasRequestRow.holds Try.pinned (OpenSpec.ofChange fnNewAlterClientQuotasRequestSpec)

/-- ITS FALSE NEIGHBOUR: 'it returns false'. Refute it at one input. -/
def fnNewAlterClientQuotasRequestWrong : ChangeSpec := { name := "fnNewAlterClientQuotasRequest", fn := fun _ => fun
  | [d] => { results := [.lit (.bool false)], args := [d] }
  | _ => none }
def FnNewAlterClientQuotasRequestWrongFalsely : Prop := fnNewAlterClientQuotasRequestRow.holds Try.pinned (OpenSpec.ofChange fnNewAlterClientQuotasRequestWrong)

/-- 'laws.FnNewDescribeLogDirsResponse': WHATEVER THE INPUT: true; the input reads as it did. -/
def fnNewDescribeLogDirsResponseSpec : ChangeSpec := { name := "fnNewDescribeLogDirsResponse", fn := fun _ => fun
  | [d] => { results := [.lit (.bool true)], args := [d] }
  | _ => none }
def fnNewDescribeLogDirsResponseRow : OpenClaim := { program := "ytmidelapgdpnoab", sum := "cf256033a120178a00ccabbf4c17d4bbf1cbdb703d3e1bfe986368ac5e8fe15f", func := "pub-kmsg/laws.FnNewDescribeLogDirsResponse", spec := "fnNewDescribeLogDirsResponse", inPlace := ["internal/reflectlite.ValueOf", "internal/reflectlite.Swapper", "(internal/reflectlite.Value).Len"], unfollowed := true, recurses := true, apart := false }
def FnNewDescribeLogDirsResponseSaid : Prop := fnNewDescribeLogDirsResponseRow.holds Try.pinned (OpenSpec.ofChange fnNewDescribeLogDirsResponseSpec)

/-- ITS FALSE NEIGHBOUR: 'it returns false'. Refute it at one input. -/
def fnNewDescribeLogDirsResponseWrong : ChangeSpec := { name := "fnNewDescribeLogDirsResponse", fn := fun _ => fun
  | [d] => { results := [.lit (.bool false)], args := [d] }
  | _ => none }
def FnNewDescribeLogDirsResponseWrongFalsely : Prop := fnNewDescribeLogDirsResponseRow.holds Try.pinned (OpenSpec.ofChange fnNewDescribeLogDirsResponseWrong)

/-- 'laws.FnNewConsumerGroupHeartbeatRequest': WHATEVER THE INPUT: true; the input reads as it did. -/
def fnNewConsumerGroupHeartbeatRequestSpec : ChangeSpec := { name := "fnNewConsumerGroupHeartbeatRequest", fn := fun _ => fun
  | [d] => { results := [.lit (.bool true)], args := [d] }
  | _ => none }
def fnNewConsumerGroupHeartbeatRequestRow : OpenClaim := { program := "ytmidelapgdpnoab", sum := "cf256033a120178a00ccabbf4c17d4bbf1cbdb703d3e1bfe986368ac5e8fe15f", func := "pub-kmsg/laws.FnNewConsumerGroupHeartbeatRequest", spec := "fnNewConsumerGroupHeartbeatRequest", inPlace := ["internal/reflectlite.ValueOf", "internal/reflectlite.Swapper", "(internal/reflectlite.Value).Len"], unfollowed := true, recurses := true, apart := false }
def FnNewConsumerGroupHeartbeatRequestSaid : Prop := fnNewConsumerGroupHeartbeatRequestRow.holds Try.pinned (OpenSpec.ofChange fnNewConsumerGroupHeartbeatRequestSpec)

/-- ITS FALSE NEIGHBOUR: 'it returns false'. Refute it at one input. -/
def fnNewConsumerGroupHeartbeatRequestWrong : ChangeSpec := { name := "fnNewConsumerGroupHeartbeatRequest", fn := fun _ => fun
  | [d] => { results := [.lit (.bool false)], args := [d] }
  | _ => none }
def FnNewConsumerGroupHeartbeatRequestWrongFalsely : Prop := fnNewConsumerGroupHeartbeatRequestRow.holds Try.pinned (OpenSpec.ofChange fnNewConsumerGroupHeartbeatRequestWrong)

/-- 'laws.FnNewCreateTopicsResponse': WHATEVER THE INPUT: true; the input reads as it did. -/
def fnNewCreateTopicsResponseSpec : ChangeSpec := { name := "fnNewCreateTopicsResponse", fn := fun _ => fun
  | [d] => { results := [.lit (.bool true)], args := [d] }
  | _ => none }
def fnNewCreateTopicsResponseRow : OpenClaim := { program := "ytmidelapgdpnoab", sum := "cf256033a120178a00ccabbf4c17d4bbf1cbdb703d3e1bfe986368ac5e8fe15f", func := "pub-kmsg/laws.FnNewCreateTopicsResponse", spec := "fnNewCreateTopicsResponse", inPlace := ["internal/reflectlite.ValueOf", "internal/reflectlite.Swapper", "(internal/reflectlite.Value).Len"], unfollowed := true, recurses := true, apart := false }
def FnNewCreateTopicsResponseSaid : Prop := fnNewCreateTopicsResponseRow.holds Try.pinned (OpenSpec.ofChange fnNewCreateTopicsResponseSpec)

/-- ITS FALSE NEIGHBOUR: 'it returns false'. Refute it at one input. -/
def fnNewCreateTopicsResponseWrong : ChangeSpec := { name := "fnNewCreateTopicsResponse", fn := fun _ => fun
  | [d] => { results := [.lit (.bool false)], args := [d] }
  | _ => none }
def FnNewCreateTopicsResponseWrongFalsely : Prop := fnNewCreateTopicsResponseRow.holds Try.pinned (OpenSpec.ofChange fnNewCreateTopicsResponseWrong)

/-- 'laws.FnNewFetchSnapshotResponse': WHATEVER THE INPUT: true; the input reads as it did. -/
def fnNewFetchSnapshotResponseSpec : ChangeSpec := { name := "fnNewFetchSnapshotResponse", fn := fun _ => fun
  | [d] => { results := [.lit (.bool true)], args := [d] }
  | _ => none }
def fnNewFetchSnapshotResponseRow : OpenClaim := { program := "ytmidelapgdpnoab", sum := "cf256033a120178a00ccabbf4c17d4bbf1cbdb703d3e1bfe986368ac5e8fe15f", func := "pub-kmsg/laws.FnNewFetchSnapshotResponse", spec := "fnNewFetchSnapshotResponse", inPlace := ["internal/reflectlite.ValueOf", "internal/reflectlite.Swapper", "(internal/reflectlite.Value).Len"], unfollowed := true, recurses := true, apart := false }
def FnNewFetchSnapshotResponseSaid : Prop := fnNewFetchSnapshotResponseRow.holds Try.pinned (OpenSpec.ofChange fnNewFetchSnapshotResponseSpec)

/-- ITS FALSE NEIGHBOUR: 'it returns false'. Refute it at one input. -/
def fnNewFetchSnapshotResponseWrong : ChangeSpec := { name := "fnNewFetchSnapshotResponse", fn := fun _ => fun
  | [d] => { results := [.lit (.bool false)], args := [d] }
  | _ => none }
def FnNewFetchSnapshotResponseWrongFalsely : Prop := fnNewFetchSnapshotResponseRow.holds Try.pinned (OpenSpec.ofChange fnNewFetchSnapshotResponseWrong)

/- THE SECOND FORM. 'bulk': how many values and letters a reading holds, each counted each time it is reached (what is shared counts as often as it is met; a slice's spare places count too). A statement '..UptoSaid' is the law's where the arguments, and the package variables that the reading takes, are together of bulk at most 1048576: NARROWER than '..Said'. Prove '..Said' where nothing that the law and all that it calls make is longer than what came in: it says more and counts as full. Else prove '..UptoSaid'. A law counts once. -/
mutual
def uptoBulk {H : Type} : DataW H → Nat
  | .lit (.string bytes) => bytes.length + 1
  | .lit _ => 1
  | .nil => 1
  | .ptr d => uptoBulk d + 1
  | .slice elems spare => uptoBulkAll elems + uptoBulkAll spare + 1
  | .agg parts => uptoBulkAll parts + 1
  | .iface _ d => uptoBulk d + 1
  | .map entries => uptoBulkEntries entries + 1
  | .held _ => 1
def uptoBulkAll {H : Type} : List (DataW H) → Nat
  | [] => 0
  | d :: r => uptoBulk d + uptoBulkAll r
def uptoBulkEntries {H : Type} : List (Lit × DataW H) → Nat
  | [] => 0
  | x :: r => uptoBulkEntry x + uptoBulkEntries r
def uptoBulkEntry {H : Type} : Lit × DataW H → Nat
  | (.string bytes, d) => bytes.length + uptoBulk d + 1
  | (_, d) => uptoBulk d + 1
 end
def uptoSmall : (H : Type) → List (DataW H) → Bool := fun _ ds => decide (uptoBulkAll ds ≤ 1048576)
def OpenSpec.upto (s : _root_.Go.ChangeSpec) : _root_.Go.OpenSpec := { _root_.Go.OpenSpec.ofChange s with cond := some uptoSmall }

/-- 'laws.FnNewListPartitionReassignmentsResponse', WHERE WHAT IT READS IS OF BULK AT MOST 1048576: true; the input reads as it did. -/
def fnNewListPartitionReassignmentsResponseUptoRow : OpenClaim := { program := "ytmidelapgdpnoab", sum := "cf256033a120178a00ccabbf4c17d4bbf1cbdb703d3e1bfe986368ac5e8fe15f", func := "pub-kmsg/laws.FnNewListPartitionReassignmentsResponse", spec := "fnNewListPartitionReassignmentsResponse", inPlace := ["internal/reflectlite.ValueOf", "internal/reflectlite.Swapper", "(internal/reflectlite.Value).Len"], unfollowed := true, recurses := true, apart := false, narrowed := true }
def FnNewListPartitionReassignmentsResponseUptoSaid : Prop := fnNewListPartitionReassignmentsResponseUptoRow.holds Try.pinned (OpenSpec.upto fnNewListPartitionReassignmentsResponseSpec)

/-- 'laws.FnNewProduceRequest', WHERE WHAT IT READS IS OF BULK AT MOST 1048576: true; the input reads as it did. -/
def fnNewProduceRequestUptoRow : OpenClaim := { program := "ytmidelapgdpnoab", sum := "cf256033a120178a00ccabbf4c17d4bbf1cbdb703d3e1bfe986368ac5e8fe15f", func := "pub-kmsg/laws.FnNewProduceRequest", spec := "fnNewProduceRequest", inPlace := ["internal/reflectlite.ValueOf", "internal/reflectlite.Swapper", "(internal/reflectlite.Value).Len"], unfollowed := true, recurses := true, apart := false, narrowed := true }
def FnNewProduceRequestUptoSaid : Prop := fnNewProduceRequestUptoRow.holds Try.pinned (OpenSpec.upto fnNewProduceRequestSpec)

/-- 'laws.FnNewAlterClientQuotasRequest', WHERE WHAT IT READS IS OF BULK AT MOST 1048576: true; the input reads as it did. -/
def fnNewAlterClientQuotasRequestUptoRow : OpenClaim := { program := "ytmidelapgdpnoab", sum := "cf256033a120178a00ccabbf4c17d4bbf1cbdb703d3e1bfe986368ac5e8fe15f", func := "pub-kmsg/laws.FnNewAlterClientQuotasRequest", spec := "fnNewAlterClientQuotasRequest", inPlace := ["internal/reflectlite.ValueOf", "internal/reflectlite.Swapper", "(internal/reflectlite.Value).Len", "math.Float64bits"], unfollowed := true, recurses := true, apart := false, narrowed := true }
def FnNewAlterClientQuotasRequestUptoSaid : Prop := fnNewAlterClientQuotasRequestUptoRow.holds Try.pinned (OpenSpec.upto fnNewAlterClientQuotasRequestSpec)

/-- 'laws.FnNewDescribeLogDirsResponse', WHERE WHAT IT READS IS OF BULK AT MOST 1048576: true; the input reads as it did. -/
def fnNewDescribeLogDirsResponseUptoRow : OpenClaim := { program := "ytmidelapgdpnoab", sum := "cf256033a120178a00ccabbf4c17d4bbf1cbdb703d3e1bfe986368ac5e8fe15f", func := "pub-kmsg/laws.FnNewDescribeLogDirsResponse", spec := "fnNewDescribeLogDirsResponse", inPlace := ["internal/reflectlite.ValueOf", "internal/reflectlite.Swapper", "(internal/reflectlite.Value).Len"], unfollowed := true, recurses := true, apart := false, narrowed := true }
def FnNewDescribeLogDirsResponseUptoSaid : Prop := fnNewDescribeLogDirsResponseUptoRow.holds Try.pinned (OpenSpec.upto fnNewDescribeLogDirsResponseSpec)

/-- 'laws.FnNewConsumerGroupHeartbeatRequest', WHERE WHAT IT READS IS OF BULK AT MOST 1048576: true; the input reads as it did. -/
def fnNewConsumerGroupHeartbeatRequestUptoRow : OpenClaim := { program := "ytmidelapgdpnoab", sum := "cf256033a120178a00ccabbf4c17d4bbf1cbdb703d3e1bfe986368ac5e8fe15f", func := "pub-kmsg/laws.FnNewConsumerGroupHeartbeatRequest", spec := "fnNewConsumerGroupHeartbeatRequest", inPlace := ["internal/reflectlite.ValueOf", "internal/reflectlite.Swapper", "(internal/reflectlite.Value).Len"], unfollowed := true, recurses := true, apart := false, narrowed := true }
def FnNewConsumerGroupHeartbeatRequestUptoSaid : Prop := fnNewConsumerGroupHeartbeatRequestUptoRow.holds Try.pinned (OpenSpec.upto fnNewConsumerGroupHeartbeatRequestSpec)

/-- 'laws.FnNewCreateTopicsResponse', WHERE WHAT IT READS IS OF BULK AT MOST 1048576: true; the input reads as it did. -/
def fnNewCreateTopicsResponseUptoRow : OpenClaim := { program := "ytmidelapgdpnoab", sum := "cf256033a120178a00ccabbf4c17d4bbf1cbdb703d3e1bfe986368ac5e8fe15f", func := "pub-kmsg/laws.FnNewCreateTopicsResponse", spec := "fnNewCreateTopicsResponse", inPlace := ["internal/reflectlite.ValueOf", "internal/reflectlite.Swapper", "(internal/reflectlite.Value).Len"], unfollowed := true, recurses := true, apart := false, narrowed := true }
def FnNewCreateTopicsResponseUptoSaid : Prop := fnNewCreateTopicsResponseUptoRow.holds Try.pinned (OpenSpec.upto fnNewCreateTopicsResponseSpec)

/-- 'laws.FnNewFetchSnapshotResponse', WHERE WHAT IT READS IS OF BULK AT MOST 1048576: true; the input reads as it did. -/
def fnNewFetchSnapshotResponseUptoRow : OpenClaim := { program := "ytmidelapgdpnoab", sum := "cf256033a120178a00ccabbf4c17d4bbf1cbdb703d3e1bfe986368ac5e8fe15f", func := "pub-kmsg/laws.FnNewFetchSnapshotResponse", spec := "fnNewFetchSnapshotResponse", inPlace := ["internal/reflectlite.ValueOf", "internal/reflectlite.Swapper", "(internal/reflectlite.Value).Len"], unfollowed := true, recurses := true, apart := false, narrowed := true }
def FnNewFetchSnapshotResponseUptoSaid : Prop := fnNewFetchSnapshotResponseUptoRow.holds Try.pinned (OpenSpec.upto fnNewFetchSnapshotResponseSpec)

end Rows
end Go.Proofs.Ytmidelapgdpnoab
