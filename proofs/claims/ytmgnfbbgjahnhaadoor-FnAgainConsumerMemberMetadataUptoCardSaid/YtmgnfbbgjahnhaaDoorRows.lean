/-
  NARROWER THAN 'FOR EVERY INPUT', by the rows' own cells (each row's printed sentence says how): FnCutGroupMetadataKey: loops, laid · FnAnySASLHandshakeResponse: laid · FnAgainOffsetDeleteRequest: loops, laid · FnAgainConsumerMemberMetadata: loops, laid.
  DERIVED. THE GIVEN ROWS OF THIS SEAT. 4 by the template 'for every input the law returns true; each argument reads behind the call as it read before'; 0 by the template 'total and deterministic' (their statements: YtmgnfbbgjahnhaaDoorTotals.lean).
  GIVEN WITH THE SEED: the statements are not yours to turn. If you find one false, say at which input.
  Laid BY PROGRAM, IN A SANDBOX (cutbox-rows.mjs): the forced cells as the released guide's own fill.sh prints them over the translation 5381efd56f9d2d98… (all of the seat's roots in one cut). By AI agents, Wed Nov 11 2026. No macro, syntax, notation, axiom, sorry.
-/
import Derived.Test.YtmgnfbbgjahnhaaDoorChecked
import GoSem.Claim
import GoSem.ClaimJoined
import GoSem.ClaimMapViews
import Derived.JoinedTies
import Derived.KernelRfl
namespace Go.Proofs.YtmgnfbbgjahnhaaDoor
/- THE CELL 'sum', in the pinned program and in every row, IS THE sha256 OF THE DUMP (.gsa) THAT YtmgnfbbgjahnhaaDoorProg.lean LOADS. Nothing in Lean hashes anything: it is a label: what it is worth is what the hold of that sum in a sandbox is worth. -/
noncomputable def Tryd.pinned : Pinned := { name := "ytmgnfbbgjahnhaadoor", sum := "5381efd56f9d2d9811cecad32b704c483a74abcd4141b2b17103ac3a84e3b6f4", checked := Tryd.checked }
namespace Rows
def none {H : Type} : Left H := { results := [], args := [] }

/- WHAT THE LISTED PACKAGE-LEVEL VARIABLES READ AS WHEN THE CALL BEGINS. Each datum BY PROGRAM (the guide's laid-datum.mjs) off the statement by which the dump's own 'gosem.cut.vars' lays the variable. In a bare row this is a premise. The card (YtmgnfbbgjahnhaaDoorCards.lean) ties it to the program's text. -/
def laid_pub_kmsg_pub_kmsg_inner_kbin_ErrNotEnoughData {H : Type} : DataW H := .iface "*errors.errorString" (.ptr (.agg [.lit (.string [114, 101, 115, 112, 111, 110, 115, 101, 32, 100, 105, 100, 32, 110, 111, 116, 32, 99, 111, 110, 116, 97, 105, 110, 32, 101, 110, 111, 117, 103, 104, 32, 100, 97, 116, 97, 32, 116, 111, 32, 98, 101, 32, 118, 97, 108, 105, 100])]))

/-- 'laws.FnCutGroupMetadataKey': WHATEVER THE INPUT: true; the input reads as it did. -/
def fnCutGroupMetadataKeySpec : ChangeSpec := { name := "fnCutGroupMetadataKey", fn := fun _ => fun
  | [d1, d2, d3] => { results := [.lit (.bool true)], args := [d1, d2, d3] }
  | _ => none }
def fnCutGroupMetadataKeyRow : OpenClaim := { program := "ytmgnfbbgjahnhaadoor", sum := "5381efd56f9d2d9811cecad32b704c483a74abcd4141b2b17103ac3a84e3b6f4", func := "pub-kmsg/laws.FnCutGroupMetadataKey", spec := "fnCutGroupMetadataKey", recurses := true, named := ["encoding/binary.BigEndian", "pub-kmsg/pub/kmsg/inner/kbin.ErrNotEnoughData"], loops := true, apart := false, laid := [("pub-kmsg/pub/kmsg/inner/kbin.ErrNotEnoughData", laid_pub_kmsg_pub_kmsg_inner_kbin_ErrNotEnoughData)] }
def FnCutGroupMetadataKeySaid : Prop := fnCutGroupMetadataKeyRow.holds Tryd.pinned (OpenSpec.ofChange fnCutGroupMetadataKeySpec)

/-- ITS FALSE NEIGHBOUR: 'it returns false'. Refute it at one input. -/
def fnCutGroupMetadataKeyWrong : ChangeSpec := { name := "fnCutGroupMetadataKey", fn := fun _ => fun
  | [d1, d2, d3] => { results := [.lit (.bool false)], args := [d1, d2, d3] }
  | _ => none }
def FnCutGroupMetadataKeyWrongFalsely : Prop := fnCutGroupMetadataKeyRow.holds Tryd.pinned (OpenSpec.ofChange fnCutGroupMetadataKeyWrong)

/-- 'laws.FnAnySASLHandshakeResponse': WHATEVER THE INPUT: true; the input reads as it did. -/
def fnAnySASLHandshakeResponseSpec : ChangeSpec := { name := "fnAnySASLHandshakeResponse", fn := fun _ => fun
  | [d1, d2] => { results := [.lit (.bool true)], args := [d1, d2] }
  | _ => none }
def fnAnySASLHandshakeResponseRow : OpenClaim := { program := "ytmgnfbbgjahnhaadoor", sum := "5381efd56f9d2d9811cecad32b704c483a74abcd4141b2b17103ac3a84e3b6f4", func := "pub-kmsg/laws.FnAnySASLHandshakeResponse", spec := "fnAnySASLHandshakeResponse", named := ["encoding/binary.BigEndian", "pub-kmsg/pub/kmsg/inner/kbin.ErrNotEnoughData"], apart := false, laid := [("pub-kmsg/pub/kmsg/inner/kbin.ErrNotEnoughData", laid_pub_kmsg_pub_kmsg_inner_kbin_ErrNotEnoughData)] }
def FnAnySASLHandshakeResponseSaid : Prop := fnAnySASLHandshakeResponseRow.holds Tryd.pinned (OpenSpec.ofChange fnAnySASLHandshakeResponseSpec)

/-- ITS FALSE NEIGHBOUR: 'it returns false'. Refute it at one input. -/
def fnAnySASLHandshakeResponseWrong : ChangeSpec := { name := "fnAnySASLHandshakeResponse", fn := fun _ => fun
  | [d1, d2] => { results := [.lit (.bool false)], args := [d1, d2] }
  | _ => none }
def FnAnySASLHandshakeResponseWrongFalsely : Prop := fnAnySASLHandshakeResponseRow.holds Tryd.pinned (OpenSpec.ofChange fnAnySASLHandshakeResponseWrong)

/-- 'laws.FnAgainOffsetDeleteRequest': WHATEVER THE INPUT: true; the input reads as it did. -/
def fnAgainOffsetDeleteRequestSpec : ChangeSpec := { name := "fnAgainOffsetDeleteRequest", fn := fun _ => fun
  | [d1, d2] => { results := [.lit (.bool true)], args := [d1, d2] }
  | _ => none }
def fnAgainOffsetDeleteRequestRow : OpenClaim := { program := "ytmgnfbbgjahnhaadoor", sum := "5381efd56f9d2d9811cecad32b704c483a74abcd4141b2b17103ac3a84e3b6f4", func := "pub-kmsg/laws.FnAgainOffsetDeleteRequest", spec := "fnAgainOffsetDeleteRequest", recurses := true, named := ["encoding/binary.BigEndian", "pub-kmsg/pub/kmsg/inner/kbin.ErrNotEnoughData"], loops := true, apart := false, laid := [("pub-kmsg/pub/kmsg/inner/kbin.ErrNotEnoughData", laid_pub_kmsg_pub_kmsg_inner_kbin_ErrNotEnoughData)] }
def FnAgainOffsetDeleteRequestSaid : Prop := fnAgainOffsetDeleteRequestRow.holds Tryd.pinned (OpenSpec.ofChange fnAgainOffsetDeleteRequestSpec)

/-- ITS FALSE NEIGHBOUR: 'it returns false'. Refute it at one input. -/
def fnAgainOffsetDeleteRequestWrong : ChangeSpec := { name := "fnAgainOffsetDeleteRequest", fn := fun _ => fun
  | [d1, d2] => { results := [.lit (.bool false)], args := [d1, d2] }
  | _ => none }
def FnAgainOffsetDeleteRequestWrongFalsely : Prop := fnAgainOffsetDeleteRequestRow.holds Tryd.pinned (OpenSpec.ofChange fnAgainOffsetDeleteRequestWrong)

/-- 'laws.FnAgainConsumerMemberMetadata': WHATEVER THE INPUT: true; the input reads as it did. -/
def fnAgainConsumerMemberMetadataSpec : ChangeSpec := { name := "fnAgainConsumerMemberMetadata", fn := fun _ => fun
  | [d1, d2] => { results := [.lit (.bool true)], args := [d1, d2] }
  | _ => none }
def fnAgainConsumerMemberMetadataRow : OpenClaim := { program := "ytmgnfbbgjahnhaadoor", sum := "5381efd56f9d2d9811cecad32b704c483a74abcd4141b2b17103ac3a84e3b6f4", func := "pub-kmsg/laws.FnAgainConsumerMemberMetadata", spec := "fnAgainConsumerMemberMetadata", recurses := true, named := ["encoding/binary.BigEndian", "pub-kmsg/pub/kmsg/inner/kbin.ErrNotEnoughData"], loops := true, apart := false, laid := [("pub-kmsg/pub/kmsg/inner/kbin.ErrNotEnoughData", laid_pub_kmsg_pub_kmsg_inner_kbin_ErrNotEnoughData)] }
def FnAgainConsumerMemberMetadataSaid : Prop := fnAgainConsumerMemberMetadataRow.holds Tryd.pinned (OpenSpec.ofChange fnAgainConsumerMemberMetadataSpec)

/-- ITS FALSE NEIGHBOUR: 'it returns false'. Refute it at one input. -/
def fnAgainConsumerMemberMetadataWrong : ChangeSpec := { name := "fnAgainConsumerMemberMetadata", fn := fun _ => fun
  | [d1, d2] => { results := [.lit (.bool false)], args := [d1, d2] }
  | _ => none }
def FnAgainConsumerMemberMetadataWrongFalsely : Prop := fnAgainConsumerMemberMetadataRow.holds Tryd.pinned (OpenSpec.ofChange fnAgainConsumerMemberMetadataWrong)

/- THE SECOND FORM. 'bulk': how many values and letters a reading holds, each counted each time it is reached (what is shared counts as often as it is met; a slice's spare places count too). A statement '..UptoSaid' is the law's where the arguments, and the package variables that the reading takes, are together of bulk at most 1048576: NARROWER than '..Said'. Prove '..Said' where nothing that the law and all that it calls make is longer than what came in: it says more and counts as full. Else prove '..UptoSaid'. A law counts once. -/
mutual
def uptoBulk {H : Type} : DataW H → Nat
  | .lit (.string bytes) => bytes.length + 1
  | .lit _ => 1
  | .nil => 1
  | .ptr d => uptoBulk d + 1
  | .slice elems spare => uptoBulkAll elems + uptoBulkAll spare + 1
  | .agg parts => uptoBulkAll parts + 1
  | .iface _ d => uptoBulk d + 1
  | .map entries => uptoBulkEntries entries + 1
  | .held _ => 1
def uptoBulkAll {H : Type} : List (DataW H) → Nat
  | [] => 0
  | d :: r => uptoBulk d + uptoBulkAll r
def uptoBulkEntries {H : Type} : List (Lit × DataW H) → Nat
  | [] => 0
  | x :: r => uptoBulkEntry x + uptoBulkEntries r
def uptoBulkEntry {H : Type} : Lit × DataW H → Nat
  | (.string bytes, d) => bytes.length + uptoBulk d + 1
  | (_, d) => uptoBulk d + 1
 end
def uptoSmall : (H : Type) → List (DataW H) → Bool := fun _ ds => decide (uptoBulkAll ds ≤ 1048576)
def OpenSpec.upto (s : _root_.Go.ChangeSpec) : _root_.Go.OpenSpec := { _root_.Go.OpenSpec.ofChange s with cond := some uptoSmall }

/-- 'laws.FnCutGroupMetadataKey', WHERE WHAT IT READS IS OF BULK AT MOST 1048576: true; the input reads as it did. -/
def fnCutGroupMetadataKeyUptoRow : OpenClaim := { program := "ytmgnfbbgjahnhaadoor", sum := "5381efd56f9d2d9811cecad32b704c483a74abcd4141b2b17103ac3a84e3b6f4", func := "pub-kmsg/laws.FnCutGroupMetadataKey", spec := "fnCutGroupMetadataKey", recurses := true, named := ["encoding/binary.BigEndian", "pub-kmsg/pub/kmsg/inner/kbin.ErrNotEnoughData"], loops := true, apart := false, laid := [("pub-kmsg/pub/kmsg/inner/kbin.ErrNotEnoughData", laid_pub_kmsg_pub_kmsg_inner_kbin_ErrNotEnoughData)], narrowed := true }
def FnCutGroupMetadataKeyUptoSaid : Prop := fnCutGroupMetadataKeyUptoRow.holds Tryd.pinned (OpenSpec.upto fnCutGroupMetadataKeySpec)

/-- 'laws.FnAnySASLHandshakeResponse', WHERE WHAT IT READS IS OF BULK AT MOST 1048576: true; the input reads as it did. -/
def fnAnySASLHandshakeResponseUptoRow : OpenClaim := { program := "ytmgnfbbgjahnhaadoor", sum := "5381efd56f9d2d9811cecad32b704c483a74abcd4141b2b17103ac3a84e3b6f4", func := "pub-kmsg/laws.FnAnySASLHandshakeResponse", spec := "fnAnySASLHandshakeResponse", named := ["encoding/binary.BigEndian", "pub-kmsg/pub/kmsg/inner/kbin.ErrNotEnoughData"], apart := false, laid := [("pub-kmsg/pub/kmsg/inner/kbin.ErrNotEnoughData", laid_pub_kmsg_pub_kmsg_inner_kbin_ErrNotEnoughData)], narrowed := true }
def FnAnySASLHandshakeResponseUptoSaid : Prop := fnAnySASLHandshakeResponseUptoRow.holds Tryd.pinned (OpenSpec.upto fnAnySASLHandshakeResponseSpec)

/-- 'laws.FnAgainOffsetDeleteRequest', WHERE WHAT IT READS IS OF BULK AT MOST 1048576: true; the input reads as it did. -/
def fnAgainOffsetDeleteRequestUptoRow : OpenClaim := { program := "ytmgnfbbgjahnhaadoor", sum := "5381efd56f9d2d9811cecad32b704c483a74abcd4141b2b17103ac3a84e3b6f4", func := "pub-kmsg/laws.FnAgainOffsetDeleteRequest", spec := "fnAgainOffsetDeleteRequest", recurses := true, named := ["encoding/binary.BigEndian", "pub-kmsg/pub/kmsg/inner/kbin.ErrNotEnoughData"], loops := true, apart := false, laid := [("pub-kmsg/pub/kmsg/inner/kbin.ErrNotEnoughData", laid_pub_kmsg_pub_kmsg_inner_kbin_ErrNotEnoughData)], narrowed := true }
def FnAgainOffsetDeleteRequestUptoSaid : Prop := fnAgainOffsetDeleteRequestUptoRow.holds Tryd.pinned (OpenSpec.upto fnAgainOffsetDeleteRequestSpec)

/-- 'laws.FnAgainConsumerMemberMetadata', WHERE WHAT IT READS IS OF BULK AT MOST 1048576: true; the input reads as it did. -/
def fnAgainConsumerMemberMetadataUptoRow : OpenClaim := { program := "ytmgnfbbgjahnhaadoor", sum := "5381efd56f9d2d9811cecad32b704c483a74abcd4141b2b17103ac3a84e3b6f4", func := "pub-kmsg/laws.FnAgainConsumerMemberMetadata", spec := "fnAgainConsumerMemberMetadata", recurses := true, named := ["encoding/binary.BigEndian", "pub-kmsg/pub/kmsg/inner/kbin.ErrNotEnoughData"], loops := true, apart := false, laid := [("pub-kmsg/pub/kmsg/inner/kbin.ErrNotEnoughData", laid_pub_kmsg_pub_kmsg_inner_kbin_ErrNotEnoughData)], narrowed := true }
def FnAgainConsumerMemberMetadataUptoSaid : Prop := fnAgainConsumerMemberMetadataUptoRow.holds Tryd.pinned (OpenSpec.upto fnAgainConsumerMemberMetadataSpec)

end Rows
end Go.Proofs.YtmgnfbbgjahnhaaDoor
