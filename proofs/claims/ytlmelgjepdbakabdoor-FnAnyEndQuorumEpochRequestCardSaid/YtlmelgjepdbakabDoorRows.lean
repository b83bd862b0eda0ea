/-
  NARROWER THAN 'FOR EVERY INPUT', by the rows' own cells (each row's printed sentence says how): FnAnyListTransactionsResponse: laid · FnAnyAlterConfigsRequest: laid · FnAnyFindCoordinatorResponse: laid · FnAnyDescribeProducersResponse: laid · FnAnyDeleteACLsResponse: laid · FnAnyApiVersionsResponse: laid · FnAnyEndQuorumEpochRequest: laid.
  DERIVED. THE GIVEN ROWS OF THIS SEAT. 7 by the template 'for every input the law returns true; each argument reads behind the call as it read before'; 0 by the template 'total and deterministic' (their statements: YtlmelgjepdbakabDoorTotals.lean).
  GIVEN WITH THE SEED: the statements are not yours to turn. If you find one false, say at which input.
  Laid BY PROGRAM, IN A SANDBOX (cutbox-rows.mjs): the forced cells as the released guide's own fill.sh prints them over the translation 166509fa7f3382e3… (all of the seat's roots in one cut). By AI agents, Wed Nov 11 2026. No macro, syntax, notation, axiom, sorry.
-/
import Derived.Test.YtlmelgjepdbakabDoorChecked
import GoSem.Claim
import GoSem.ClaimJoined
import GoSem.ClaimMapViews
import Derived.JoinedTies
import Derived.KernelRfl
namespace Go.Proofs.YtlmelgjepdbakabDoor
/- THE CELL 'sum', in the pinned program and in every row, IS THE sha256 OF THE DUMP (.gsa) THAT YtlmelgjepdbakabDoorProg.lean LOADS. Nothing in Lean hashes anything: it is a label: what it is worth is what the hold of that sum in a sandbox is worth. -/
noncomputable def Tryd.pinned : Pinned := { name := "ytlmelgjepdbakabdoor", sum := "166509fa7f3382e372ddd524e7f350e55e45ee3421bba056623eee024a7bb7ea", checked := Tryd.checked }
namespace Rows
def none {H : Type} : Left H := { results := [], args := [] }

/- WHAT THE LISTED PACKAGE-LEVEL VARIABLES READ AS WHEN THE CALL BEGINS. Each datum BY PROGRAM (the guide's laid-datum.mjs) off the statement by which the dump's own 'gosem.cut.vars' lays the variable. In a bare row this is a premise. The card (YtlmelgjepdbakabDoorCards.lean) ties it to the program's text. -/
def laid_pub_kmsg_pub_kmsg_inner_kbin_ErrNotEnoughData {H : Type} : DataW H := .iface "*errors.errorString" (.ptr (.agg [.lit (.string [114, 101, 115, 112, 111, 110, 115, 101, 32, 100, 105, 100, 32, 110, 111, 116, 32, 99, 111, 110, 116, 97, 105, 110, 32, 101, 110, 111, 117, 103, 104, 32, 100, 97, 116, 97, 32, 116, 111, 32, 98, 101, 32, 118, 97, 108, 105, 100])]))

/-- 'laws.FnAnyListTransactionsResponse': WHATEVER THE INPUT: true; the input reads as it did. -/
def fnAnyListTransactionsResponseSpec : ChangeSpec := { name := "fnAnyListTransactionsResponse", fn := fun _ => fun
  | [d1, d2] => { results := [.lit (.bool true)], args := [d1, d2] }
  | _ => none }
def fnAnyListTransactionsResponseRow : OpenClaim := { program := "ytlmelgjepdbakabdoor", sum := "166509fa7f3382e372ddd524e7f350e55e45ee3421bba056623eee024a7bb7ea", func := "pub-kmsg/laws.FnAnyListTransactionsResponse", spec := "fnAnyListTransactionsResponse", inPlace := ["internal/reflectlite.ValueOf", "internal/reflectlite.Swapper", "(internal/reflectlite.Value).Len"], unfollowed := true, recurses := true, named := ["encoding/binary.BigEndian", "pub-kmsg/pub/kmsg/inner/kbin.ErrNotEnoughData"], apart := false, laid := [("pub-kmsg/pub/kmsg/inner/kbin.ErrNotEnoughData", laid_pub_kmsg_pub_kmsg_inner_kbin_ErrNotEnoughData)] }
def FnAnyListTransactionsResponseSaid : Prop := fnAnyListTransactionsResponseRow.holds Tryd.pinned (OpenSpec.ofChange fnAnyListTransactionsResponseSpec)

/-- ITS FALSE NEIGHBOUR: 'it returns false'. Refute it at one input. -/
def fnAnyListTransactionsResponseWrong : ChangeSpec := { name := "fnAnyListTransactionsResponse", fn := fun _ => fun
  | [d1, d2] => { results := [.lit (.bool false)], args := [d1, d2] }
  | _ => none }
def FnAnyListTransactionsResponseWrongFalsely : Prop := fnAnyListTransactionsResponseRow.holds Tryd.pinned (OpenSpec.ofChange fnAnyListTransactionsResponseWrong)

/-- 'laws.FnAnyAlterConfigsRequest': WHATEVER THE INPUT: true; the input reads as it did. -/
def fnAnyAlterConfigsRequestSpec : ChangeSpec := { name := "fnAnyAlterConfigsRequest", fn := fun _ => fun
  | [d1, d2] => { results := [.lit (.bool true)], args := [d1, d2] }
  | _ => none }
def fnAnyAlterConfigsRequestRow : OpenClaim := { program := "ytlmelgjepdbakabdoor", sum := "166509fa7f3382e372ddd524e7f350e55e45ee3421bba056623eee024a7bb7ea", func := "pub-kmsg/laws.FnAnyAlterConfigsRequest", spec := "fnAnyAlterConfigsRequest", inPlace := ["internal/reflectlite.ValueOf", "internal/reflectlite.Swapper", "(internal/reflectlite.Value).Len"], unfollowed := true, recurses := true, named := ["encoding/binary.BigEndian", "pub-kmsg/pub/kmsg/inner/kbin.ErrNotEnoughData"], apart := false, laid := [("pub-kmsg/pub/kmsg/inner/kbin.ErrNotEnoughData", laid_pub_kmsg_pub_kmsg_inner_kbin_ErrNotEnoughData)] }
def FnAnyAlterConfigsRequestSaid : Prop := fnAnyAlterConfigsRequestRow.holds Tryd.pinned (OpenSpec.ofChange fnAnyAlterConfigsRequestSpec)

/-- ITS FALSE NEIGHBOUR: 'it returns false'. Refute it at one input. -/
def fnAnyAlterConfigsRequestWrong : ChangeSpec := { name := "fnAnyAlterConfigsRequest", fn := fun _ => fun
  | [d1, d2] => { results := [.lit (.bool false)], args := [d1, d2] }
  | _ => none }
def FnAnyAlterConfigsRequestWrongFalsely : Prop := fnAnyAlterConfigsRequestRow.holds Tryd.pinned (OpenSpec.ofChange fnAnyAlterConfigsRequestWrong)

/-- 'laws.FnAnyFindCoordinatorResponse': WHATEVER THE INPUT: true; the input reads as it did. -/
def fnAnyFindCoordinatorResponseSpec : ChangeSpec := { name := "fnAnyFindCoordinatorResponse", fn := fun _ => fun
  | [d1, d2] => { results := [.lit (.bool true)], args := [d1, d2] }
  | _ => none }
def fnAnyFindCoordinatorResponseRow : OpenClaim := { program := "ytlmelgjepdbakabdoor", sum := "166509fa7f3382e372ddd524e7f350e55e45ee3421bba056623eee024a7bb7ea", func := "pub-kmsg/laws.FnAnyFindCoordinatorResponse", spec := "fnAnyFindCoordinatorResponse", inPlace := ["internal/reflectlite.ValueOf", "internal/reflectlite.Swapper", "(internal/reflectlite.Value).Len"], unfollowed := true, recurses := true, named := ["encoding/binary.BigEndian", "pub-kmsg/pub/kmsg/inner/kbin.ErrNotEnoughData"], apart := false, laid := [("pub-kmsg/pub/kmsg/inner/kbin.ErrNotEnoughData", laid_pub_kmsg_pub_kmsg_inner_kbin_ErrNotEnoughData)] }
def FnAnyFindCoordinatorResponseSaid : Prop := fnAnyFindCoordinatorResponseRow.holds Tryd.pinned (OpenSpec.ofChange fnAnyFindCoordinatorResponseSpec)

/-- ITS FALSE NEIGHBOUR: 'it returns false'. Refute it at one input. -/
def fnAnyFindCoordinatorResponseWrong : ChangeSpec := { name := "fnAnyFindCoordinatorResponse", fn := fun _ => fun
  | [d1, d2] => { results := [.lit (.bool false)], args := [d1, d2] }
  | _ => none }
def FnAnyFindCoordinatorResponseWrongFalsely : Prop := fnAnyFindCoordinatorResponseRow.holds Tryd.pinned (OpenSpec.ofChange fnAnyFindCoordinatorResponseWrong)

/-- 'laws.FnAnyDescribeProducersResponse': WHATEVER THE INPUT: true; the input reads as it did. -/
def fnAnyDescribeProducersResponseSpec : ChangeSpec := { name := "fnAnyDescribeProducersResponse", fn := fun _ => fun
  | [d1, d2] => { results := [.lit (.bool true)], args := [d1, d2] }
  | _ => none }
def fnAnyDescribeProducersResponseRow : OpenClaim := { program := "ytlmelgjepdbakabdoor", sum := "166509fa7f3382e372ddd524e7f350e55e45ee3421bba056623eee024a7bb7ea", func := "pub-kmsg/laws.FnAnyDescribeProducersResponse", spec := "fnAnyDescribeProducersResponse", inPlace := ["internal/reflectlite.ValueOf", "internal/reflectlite.Swapper", "(internal/reflectlite.Value).Len"], unfollowed := true, recurses := true, named := ["encoding/binary.BigEndian", "pub-kmsg/pub/kmsg/inner/kbin.ErrNotEnoughData"], apart := false, laid := [("pub-kmsg/pub/kmsg/inner/kbin.ErrNotEnoughData", laid_pub_kmsg_pub_kmsg_inner_kbin_ErrNotEnoughData)] }
def FnAnyDescribeProducersResponseSaid : Prop := fnAnyDescribeProducersResponseRow.holds Tryd.pinned (OpenSpec.ofChange fnAnyDescribeProducersResponseSpec)

/-- ITS FALSE NEIGHBOUR: 'it returns false'. Refute it at one input. -/
def fnAnyDescribeProducersResponseWrong : ChangeSpec := { name := "fnAnyDescribeProducersResponse", fn := fun _ => fun
  | [d1, d2] => { results := [.lit (.bool false)], args := [d1, d2] }
  | _ => none }
def FnAnyDescribeProducersResponseWrongFalsely : Prop := fnAnyDescribeProducersResponseRow.holds Tryd.pinned (OpenSpec.ofChange fnAnyDescribeProducersResponseWrong)

/-- 'laws.FnAnyDeleteACLsResponse': WHATEVER THE INPUT: true; the input reads as it did. -/
def fnAnyDeleteACLsResponseSpec : ChangeSpec := { name := "fnAnyDeleteACLsResponse", fn := fun _ => fun
  | [d1, d2] => { results := [.lit (.bool true)], args := [d1, d2] }
  | _ => none }
def fnAnyDeleteACLsResponseRow : OpenClaim := { program := "ytlmelgjepdbakabdoor", sum := "166509fa7f3382e372ddd524e7f350e55e45ee3421bba056623eee024a7bb7ea", func := "pub-kmsg/laws.FnAnyDeleteACLsResponse", spec := "fnAnyDeleteACLsResponse", inPlace := ["internal/reflectlite.ValueOf", "internal/reflectlite.Swapper", "(internal/reflectlite.Value).Len"], unfollowed := true, recurses := true, named := ["encoding/binary.BigEndian", "pub-kmsg/pub/kmsg/inner/kbin.ErrNotEnoughData"], apart := false, laid := [("pub-kmsg/pub/kmsg/inner/kbin.ErrNotEnoughData", laid_pub_kmsg_pub_kmsg_inner_kbin_ErrNotEnoughData)] }
def FnAnyDeleteACLsResponseSaid : Prop := fnAnyDeleteACLsResponseRow.holds Tryd.pinned (OpenSpec.ofChange fnAnyDeleteACLsResponseSpec)

/-- ITS FALSE NEIGHBOUR: 'it returns false'. Refute it at one input. -/
def fnAnyDeleteACLsResponseWrong : ChangeSpec := { name := "fnAnyDeleteACLsResponse", fn := fun _ => fun
  | [d1, d2] => { results := [.lit (.bool false)], args := [d1, d2] }
  | _ => none }
def FnAnyDeleteACLsResponseWrongFalsely : Prop := fnAnyDeleteACLsResponseRow.holds Tryd.pinned (OpenSpec.ofChange fnAnyDeleteACLsResponseWrong)

/-- 'laws.FnAnyApiVersionsResponse': WHATEVER THE INPUT: true; the input reads as it did. -/
def fnAnyApiVersionsResponseSpec : ChangeSpec := { name := "fnAnyApiVersionsResponse", fn := fun _ => fun
  | [d1, d2] => { results := [.lit (.bool true)], args := [d1, d2] }
  | _ => none }
def fnAnyApiVersionsResponseRow : OpenClaim := { program := "ytlmelgjepdbakabdoor", sum := "166509fa7f3382e372ddd524e7f350e55e45ee3421bba056623eee024a7bb7ea", func := "pub-kmsg/laws.FnAnyApiVersionsResponse", spec := "fnAnyApiVersionsResponse", inPlace := ["internal/reflectlite.ValueOf", "internal/reflectlite.Swapper", "(internal/reflectlite.Value).Len"], unfollowed := true, recurses := true, named := ["encoding/binary.BigEndian", "pub-kmsg/pub/kmsg/inner/kbin.ErrNotEnoughData"], apart := false, laid := [("pub-kmsg/pub/kmsg/inner/kbin.ErrNotEnoughData", laid_pub_kmsg_pub_kmsg_inner_kbin_ErrNotEnoughData)] }
def FnAnyApiVersionsResponseSaid : Prop := fnAnyApiVersionsResponseRow.holds Tryd.pinned (OpenSpec.ofChange fnAnyApiVersionsResponseSpec)

/-- ITS FALSE NEIGHBOUR: 'it returns false'. Refute it at one input. -/
def fnAnyApiVersionsResponseWrong : ChangeSpec := { name := "fnAnyApiVersionsResponse", fn := fun _ => fun
  | [d1, d2] => { results := [.lit (.bool false)], args := [d1, d2] }
  | _ => none }
def FnAnyApiVersionsResponseWrongFalsely : Prop := fnAnyApiVersionsResponseRow.holds Tryd.pinned (OpenSpec.ofChange fnAnyApiVersionsResponseWrong)

/-- 'laws.FnAnyEndQuorumEpochRequest': WHATEVER THE INPUT: true; the input reads as it did. -/
def fnAnyEndQuorumEpochRequestSpec : ChangeSpec := { name := "fnAnyEndQuorumEpochRequest", fn := fun _ => fun
  | [d1, d2] => { results := [.lit (.bool true)], args := [d1, d2] }
  | _ => none }
def fnAnyEndQuorumEpochRequestRow : OpenClaim := { program := "ytlmelgjepdbakabdoor", sum := "166509fa7f3382e372ddd524e7f350e55e45ee3421bba056623eee024a7bb7ea", func := "pub-kmsg/laws.FnAnyEndQuorumEpochRequest", spec := "fnAnyEndQuorumEpochRequest", inPlace := ["internal/reflectlite.ValueOf", "internal/reflectlite.Swapper", "(internal/reflectlite.Value).Len"], unfollowed := true, recurses := true, named := ["encoding/binary.BigEndian", "pub-kmsg/pub/kmsg/inner/kbin.ErrNotEnoughData"], apart := false, laid := [("pub-kmsg/pub/kmsg/inner/kbin.ErrNotEnoughData", laid_pub_kmsg_pub_kmsg_inner_kbin_ErrNotEnoughData)] }
def FnAnyEndQuorumEpochRequestSaid : Prop := fnAnyEndQuorumEpochRequestRow.holds Tryd.pinned (OpenSpec.ofChange fnAnyEndQuorumEpochRequestSpec)

/-- ITS FALSE NEIGHBOUR: 'it returns false'. Refute it at one input. -/
def fnAnyEndQuorumEpochRequestWrong : ChangeSpec := { name := "fnAnyEndQuorumEpochRequest", fn := fun _ => fun
  | [d1, d2] => { results := [.lit (.bool false)], args := [d1, d2] }
  | _ => none }
def FnAnyEndQuorumEpochRequestWrongFalsely : Prop := fnAnyEndQuorumEpochRequestRow.holds Tryd.pinned (OpenSpec.ofChange fnAnyEndQuorumEpochRequestWrong)

/- THE SECOND FORM. 'bulk': how many values and letters a reading holds, each counted each time it is reached (what is shared counts as often as it is met; a slice's spare places count too). A statement '..UptoSaid' is the law's where the arguments, and the package variables that the reading takes, are together of bulk at most 1048576: NARROWER than '..Said'. Prove '..Said' where nothing that the law and all that it calls make is longer than what came in: it says more and counts as full. Else prove '..UptoSaid'. A law counts once. -/
mutual
def uptoBulk {H : Type} : DataW H → Nat
  | .lit (.string bytes) => bytes.length + 1
  | .lit _ => 1
  | .nil => 1
  | .ptr d => uptoBulk d + 1
  | .slice elems spare => uptoBulkAll elems + uptoBulkAll spare + 1
  | .agg parts => uptoBulkAll parts + 1
  | .iface _ d => uptoBulk d + 1
  | .map entries => uptoBulkEntries entries + 1
  | .held _ => 1
def uptoBulkAll {H : Type} : List (DataW H) → Nat
  | [] => 0
  | d :: r => uptoBulk d + uptoBulkAll r
def uptoBulkEntries {H : Type} : List (Lit × DataW H) → Nat
  | [] => 0
  | x :: r => uptoBulkEntry x + uptoBulkEntries r
def uptoBulkEntry {H : Type} : Lit × DataW H → Nat
  | (.string bytes, d) => bytes.length + uptoBulk d + 1
  | (_, d) => uptoBulk d + 1
 end
def uptoSmall : (H : Type) → List (DataW H) → Bool := fun _ ds => decide (uptoBulkAll ds ≤ 1048576)
def OpenSpec.upto (s : _root_.Go.ChangeSpec) : _root_.Go.OpenSpec := { _root_.Go.OpenSpec.ofChange s with cond := some uptoSmall }

/-- 'laws.FnAnyListTransactionsResponse', WHERE WHAT IT READS IS OF BULK AT MOST 1048576: true; the input reads as it did. -/
def fnAnyListTransactionsResponseUptoRow : OpenClaim := { program := "ytlmelgjepdbakabdoor", sum := "166509fa7f3382e372ddd524e7f350e55e45ee3421bba056623eee024a7bb7ea", func := "pub-kmsg/laws.FnAnyListTransactionsResponse", spec := "fnAnyListTransactionsResponse", inPlace := ["internal/reflectlite.ValueOf", "internal/reflectlite.Swapper", "(internal/reflectlite.Value).Len"], unfollowed := true, recurses := true, named := ["encoding/binary.BigEndian", "pub-kmsg/pub/kmsg/inner/kbin.ErrNotEnoughData"], apart := false, laid := [("pub-kmsg/pub/kmsg/inner/kbin.ErrNotEnoughData", laid_pub_kmsg_pub_kmsg_inner_kbin_ErrNotEnoughData)], narrowed := true }
def FnAnyListTransactionsResponseUptoSaid : Prop := fnAnyListTransactionsResponseUptoRow.holds Tryd.pinned (OpenSpec.upto fnAnyListTransactionsResponseSpec)

/-- 'laws.FnAnyAlterConfigsRequest', WHERE WHAT IT READS IS OF BULK AT MOST 1048576: true; the input reads as it did. -/
def fnAnyAlterConfigsRequestUptoRow : OpenClaim := { program := "ytlmelgjepdbakabdoor", sum := "166509fa7f3382e372ddd524e7f350e55e45ee3421bba056623eee024a7bb7ea", func := "pub-kmsg/laws.FnAnyAlterConfigsRequest", spec := "fnAnyAlterConfigsRequest", inPlace := ["internal/reflectlite.ValueOf", "internal/reflectlite.Swapper", "(internal/reflectlite.Value).Len"], unfollowed := true, recurses := true, named := ["encoding/binary.BigEndian", "pub-kmsg/pub/kmsg/inner/kbin.ErrNotEnoughData"], apart := false, laid := [("pub-kmsg/pub/kmsg/inner/kbin.ErrNotEnoughData", laid_pub_kmsg_pub_kmsg_inner_kbin_ErrNotEnoughData)], narrowed := true }
def FnAnyAlterConfigsRequestUptoSaid : Prop := fnAnyAlterConfigsRequestUptoRow.holds Tryd.pinned (OpenSpec.upto fnAnyAlterConfigsRequestSpec)

/-- 'laws.FnAnyFindCoordinatorResponse', WHERE WHAT IT READS IS OF BULK AT MOST 1048576: true; the input reads as it did. -/
def fnAnyFindCoordinatorResponseUptoRow : OpenClaim := { program := "ytlmelgjepdbakabdoor", sum := "166509fa7f3382e372ddd524e7f350e55e45ee3421bba056623eee024a7bb7ea", func := "pub-kmsg/laws.FnAnyFindCoordinatorResponse", spec := "fnAnyFindCoordinatorResponse", inPlace := ["internal/reflectlite.ValueOf", "internal/reflectlite.Swapper", "(internal/reflectlite.Value).Len"], unfollowed := true, recurses := true, named := ["encoding/binary.BigEndian", "pub-kmsg/pub/kmsg/inner/kbin.ErrNotEnoughData"], apart := false, laid := [("pub-kmsg/pub/kmsg/inner/kbin.ErrNotEnoughData", laid_pub_kmsg_pub_kmsg_inner_kbin_ErrNotEnoughData)], narrowed := true }
def FnAnyFindCoordinatorResponseUptoSaid : Prop := fnAnyFindCoordinatorResponseUptoRow.holds Tryd.pinned (OpenSpec.upto fnAnyFindCoordinatorResponseSpec)

/-- 'laws.FnAnyDescribeProducersResponse', WHERE WHAT IT READS IS OF BULK AT MOST 1048576: true; the input reads as it did. -/
def fnAnyDescribeProducersResponseUptoRow : OpenClaim := { program := "ytlmelgjepdbakabdoor", sum := "166509fa7f3382e372ddd524e7f350e55e45ee3421bba056623eee024a7bb7ea", func := "pub-kmsg/laws.FnAnyDescribeProducersResponse", spec := "fnAnyDescribeProducersResponse", inPlace := ["internal/reflectlite.ValueOf", "internal/reflectlite.Swapper", "(internal/reflectlite.Value).Len"], unfollowed := true, recurses := true, named := ["encoding/binary.BigEndian", "pub-kmsg/pub/kmsg/inner/kbin.ErrNotEnoughData"], apart := false, laid := [("pub-kmsg/pub/kmsg/inner/kbin.ErrNotEnoughData", laid_pub_kmsg_pub_kmsg_inner_kbin_ErrNotEnoughData)], narrowed := true }
def FnAnyDescribeProducersResponseUptoSaid : Prop := fnAnyDescribeProducersResponseUptoRow.holds Tryd.pinned (OpenSpec.upto fnAnyDescribeProducersResponseSpec)

/-- 'laws.FnAnyDeleteACLsResponse', WHERE WHAT IT READS IS OF BULK AT MOST 1048576: true; the input reads as it did. -/
def fnAnyDeleteACLsResponseUptoRow : OpenClaim := { program := "ytlmelgjepdbakabdoor", sum := "166509fa7f3382e372ddd524e7f350e55e45ee3421bba056623eee024a7bb7ea", func := "pub-kmsg/laws.FnAnyDeleteACLsResponse", spec := "fnAnyDeleteACLsResponse", inPlace := ["internal/reflectlite.ValueOf", "internal/reflectlite.Swapper", "(internal/reflectlite.Value).Len"], unfollowed := true, recurses := true, named := ["encoding/binary.BigEndian", "pub-kmsg/pub/kmsg/inner/kbin.ErrNotEnoughData"], apart := false, laid := [("pub-kmsg/pub/kmsg/inner/kbin.ErrNotEnoughData", laid_pub_kmsg_pub_kmsg_inner_kbin_ErrNotEnoughData)], narrowed := true }
def FnAnyDeleteACLsResponseUptoSaid : Prop := fnAnyDeleteACLsResponseUptoRow.holds Tryd.pinned (OpenSpec.upto fnAnyDeleteACLsResponseSpec)

/-- 'laws.FnAnyApiVersionsResponse', WHERE WHAT IT READS IS OF BULK AT MOST 1048576: true; the input reads as it did. -/
def fnAnyApiVersionsResponseUptoRow : OpenClaim := { program := "ytlmelgjepdbakabdoor", sum := "166509fa7f3382e372ddd524e7f350e55e45ee3421bba056623eee024a7bb7ea", func := "pub-kmsg/laws.FnAnyApiVersionsResponse", spec := "fnAnyApiVersionsResponse", inPlace := ["internal/reflectlite.ValueOf", "internal/reflectlite.Swapper", "(internal/reflectlite.Value).Len"], unfollowed := true, recurses := true, named := ["encoding/binary.BigEndian", "pub-kmsg/pub/kmsg/inner/kbin.ErrNotEnoughData"], apart := false, laid := [("pub-kmsg/pub/kmsg/inner/kbin.ErrNotEnoughData", laid_pub_kmsg_pub_kmsg_inner_kbin_ErrNotEnoughData)], narrowed := true }
def FnAnyApiVersionsResponseUptoSaid : Prop := fnAnyApiVersionsResponseUptoRow.holds Tryd.pinned (OpenSpec.upto fnAnyApiVersionsResponseSpec)

/-- 'laws.FnAnyEndQuorumEpochRequest', WHERE WHAT IT READS IS OF BULK AT MOST 1048576: true; the input reads as it did. -/
def fnAnyEndQuorumEpochRequestUptoRow : OpenClaim := { program := "ytlmelgjepdbakabdoor", sum := "166509fa7f3382e372ddd524e7f350e55e45ee3421bba056623eee024a7bb7ea", func := "pub-kmsg/laws.FnAnyEndQuorumEpochRequest", spec := "fnAnyEndQuorumEpochRequest", inPlace := ["internal/reflectlite.ValueOf", "internal/reflectlite.Swapper", "(internal/reflectlite.Value).Len"], unfollowed := true, recurses := true, named := ["encoding/binary.BigEndian", "pub-kmsg/pub/kmsg/inner/kbin.ErrNotEnoughData"], apart := false, laid := [("pub-kmsg/pub/kmsg/inner/kbin.ErrNotEnoughData", laid_pub_kmsg_pub_kmsg_inner_kbin_ErrNotEnoughData)], narrowed := true }
def FnAnyEndQuorumEpochRequestUptoSaid : Prop := fnAnyEndQuorumEpochRequestUptoRow.holds Tryd.pinned (OpenSpec.upto fnAnyEndQuorumEpochRequestSpec)

end Rows
end Go.Proofs.YtlmelgjepdbakabDoor
