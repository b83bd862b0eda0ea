/-
  NARROWER THAN 'FOR EVERY INPUT', by the rows' own cells (each row's printed sentence says how): FnAnySASLHandshakeResponse: laid · FnAnyControlledShutdownRequest: laid · FnAnyPushTelemetryRequest: laid · FnAnyOffsetCommitValue: laid · FnAnyUpdateFeaturesResponse: laid · FnAnyDescribeClientQuotasRequest: laid.
  DERIVED. THE GIVEN ROWS OF THIS SEAT. 6 by the template 'for every input the law returns true; each argument reads behind the call as it read before'; 0 by the template 'total and deterministic' (their statements: YtlmelgjepdbakaaDoorRTotals.lean).
  GIVEN WITH THE SEED: the statements are not yours to turn. If you find one false, say at which input.
  Laid BY PROGRAM, IN A SANDBOX (cutbox-rows.mjs): the forced cells as the released guide's own fill.sh prints them over the translation 6c08a0c04d95171d… (all of the seat's roots in one cut). By AI agents, Wed Nov 11 2026. No macro, syntax, notation, axiom, sorry.
-/
import Derived.Test.YtlmelgjepdbakaaDoorRChecked
import GoSem.Claim
import GoSem.ClaimJoined
import GoSem.ClaimMapViews
import Derived.JoinedTies
import Derived.KernelRfl
namespace Go.Proofs.YtlmelgjepdbakaaDoorR
/- THE CELL 'sum', in the pinned program and in every row, IS THE sha256 OF THE DUMP (.gsa) THAT YtlmelgjepdbakaaDoorRProg.lean LOADS. Nothing in Lean hashes anything: it is a label: what it is worth is what the hold of that sum in a sandbox is worth. -/
noncomputable def Tryd.pinned : Pinned := { name := "ytlmelgjepdbakaadoorr", sum := "6c08a0c04d95171db92cc7154c8c5545e5776fc015cde65ba5feb64cd695aeea", checked := Tryd.checked }
namespace Rows
def none {H : Type} : Left H := { results := [], args := [] }

/- WHAT THE LISTED PACKAGE-LEVEL VARIABLES READ AS WHEN THE CALL BEGINS. Each datum BY PROGRAM (the guide's laid-datum.mjs) off the statement by which the dump's own 'gosem.cut.vars' lays the variable. In a bare row this is a premise. The card (YtlmelgjepdbakaaDoorRCards.lean) ties it to the program's text. -/
def laid_pub_kmsg_pub_kmsg_inner_kbin_ErrNotEnoughData {H : Type} : DataW H := .iface "*errors.errorString" (.ptr (.agg [.lit (.string [114, 101, 115, 112, 111, 110, 115, 101, 32, 100, 105, 100, 32, 110, 111, 116, 32, 99, 111, 110, 116, 97, 105, 110, 32, 101, 110, 111, 117, 103, 104, 32, 100, 97, 116, 97, 32, 116, 111, 32, 98, 101, 32, 118, 97, 108, 105, 100])]))

/-- 'laws.FnAnySASLHandshakeResponse': WHATEVER THE INPUT: true; the input reads as it did. -/
def fnAnySASLHandshakeResponseSpec : ChangeSpec := { name := "fnAnySASLHandshakeResponse", fn := fun _ => fun
  | [d1, d2] => { results := [.lit (.bool true)], args := [d1, d2] }
  | _ => none }
def fnAnySASLHandshakeResponseRow : OpenClaim := { program := "ytlmelgjepdbakaadoorr", sum := "6c08a0c04d95171db92cc7154c8c5545e5776fc015cde65ba5feb64cd695aeea", func := "pub-kmsg/laws.FnAnySASLHandshakeResponse", spec := "fnAnySASLHandshakeResponse", named := ["encoding/binary.BigEndian", "pub-kmsg/pub/kmsg/inner/kbin.ErrNotEnoughData"], apart := false, laid := [("pub-kmsg/pub/kmsg/inner/kbin.ErrNotEnoughData", laid_pub_kmsg_pub_kmsg_inner_kbin_ErrNotEnoughData)] }
def FnAnySASLHandshakeResponseSaid : Prop := fnAnySASLHandshakeResponseRow.holds Tryd.pinned (OpenSpec.ofChange fnAnySASLHandshakeResponseSpec)

/-- ITS FALSE NEIGHBOUR: 'it returns false'. Refute it at one input. -/
def fnAnySASLHandshakeResponseWrong : ChangeSpec := { name := "fnAnySASLHandshakeResponse", fn := fun _ => fun
  | [d1, d2] => { results := [.lit (.bool false)], args := [d1, d2] }
  | _ => none }
def FnAnySASLHandshakeResponseWrongFalsely : Prop := fnAnySASLHandshakeResponseRow.holds Tryd.pinned (OpenSpec.ofChange fnAnySASLHandshakeResponseWrong)

/-- 'laws.FnAnyControlledShutdownRequest': WHATEVER THE INPUT: true; the input reads as it did. -/
def fnAnyControlledShutdownRequestSpec : ChangeSpec := { name := "fnAnyControlledShutdownRequest", fn := fun _ => fun
  | [d1, d2] => { results := [.lit (.bool true)], args := [d1, d2] }
  | _ => none }
def fnAnyControlledShutdownRequestRow : OpenClaim := { program := "ytlmelgjepdbakaadoorr", sum := "6c08a0c04d95171db92cc7154c8c5545e5776fc015cde65ba5feb64cd695aeea", func := "pub-kmsg/laws.FnAnyControlledShutdownRequest", spec := "fnAnyControlledShutdownRequest", inPlace := ["internal/reflectlite.ValueOf", "internal/reflectlite.Swapper", "(internal/reflectlite.Value).Len"], unfollowed := true, recurses := true, named := ["encoding/binary.BigEndian", "pub-kmsg/pub/kmsg/inner/kbin.ErrNotEnoughData"], apart := false, laid := [("pub-kmsg/pub/kmsg/inner/kbin.ErrNotEnoughData", laid_pub_kmsg_pub_kmsg_inner_kbin_ErrNotEnoughData)] }
def FnAnyControlledShutdownRequestSaid : Prop := fnAnyControlledShutdownRequestRow.holds Tryd.pinned (OpenSpec.ofChange fnAnyControlledShutdownRequestSpec)

/-- ITS FALSE NEIGHBOUR: 'it returns false'. Refute it at one input. -/
def fnAnyControlledShutdownRequestWrong : ChangeSpec := { name := "fnAnyControlledShutdownRequest", fn := fun _ => fun
  | [d1, d2] => { results := [.lit (.bool false)], args := [d1, d2] }
  | _ => none }
def FnAnyControlledShutdownRequestWrongFalsely : Prop := fnAnyControlledShutdownRequestRow.holds Tryd.pinned (OpenSpec.ofChange fnAnyControlledShutdownRequestWrong)

/-- 'laws.FnAnyPushTelemetryRequest': WHATEVER THE INPUT: true; the input reads as it did. -/
def fnAnyPushTelemetryRequestSpec : ChangeSpec := { name := "fnAnyPushTelemetryRequest", fn := fun _ => fun
  | [d1, d2] => { results := [.lit (.bool true)], args := [d1, d2] }
  | _ => none }
def fnAnyPushTelemetryRequestRow : OpenClaim := { program := "ytlmelgjepdbakaadoorr", sum := "6c08a0c04d95171db92cc7154c8c5545e5776fc015cde65ba5feb64cd695aeea", func := "pub-kmsg/laws.FnAnyPushTelemetryRequest", spec := "fnAnyPushTelemetryRequest", inPlace := ["internal/reflectlite.ValueOf", "internal/reflectlite.Swapper", "(internal/reflectlite.Value).Len"], unfollowed := true, recurses := true, named := ["encoding/binary.BigEndian", "pub-kmsg/pub/kmsg/inner/kbin.ErrNotEnoughData"], apart := false, laid := [("pub-kmsg/pub/kmsg/inner/kbin.ErrNotEnoughData", laid_pub_kmsg_pub_kmsg_inner_kbin_ErrNotEnoughData)] }
def FnAnyPushTelemetryRequestSaid : Prop := fnAnyPushTelemetryRequestRow.holds Tryd.pinned (OpenSpec.ofChange fnAnyPushTelemetryRequestSpec)

/-- ITS FALSE NEIGHBOUR: 'it returns false'. Refute it at one input. -/
def fnAnyPushTelemetryRequestWrong : ChangeSpec := { name := "fnAnyPushTelemetryRequest", fn := fun _ => fun
  | [d1, d2] => { results := [.lit (.bool false)], args := [d1, d2] }
  | _ => none }
def FnAnyPushTelemetryRequestWrongFalsely : Prop := fnAnyPushTelemetryRequestRow.holds Tryd.pinned (OpenSpec.ofChange fnAnyPushTelemetryRequestWrong)

/-- 'laws.FnAnyOffsetCommitValue': WHATEVER THE INPUT: true; the input reads as it did. -/
def fnAnyOffsetCommitValueSpec : ChangeSpec := { name := "fnAnyOffsetCommitValue", fn := fun _ => fun
  | [d] => { results := [.lit (.bool true)], args := [d] }
  | _ => none }
def fnAnyOffsetCommitValueRow : OpenClaim := { program := "ytlmelgjepdbakaadoorr", sum := "6c08a0c04d95171db92cc7154c8c5545e5776fc015cde65ba5feb64cd695aeea", func := "pub-kmsg/laws.FnAnyOffsetCommitValue", spec := "fnAnyOffsetCommitValue", inPlace := ["internal/reflectlite.ValueOf", "internal/reflectlite.Swapper", "(internal/reflectlite.Value).Len"], unfollowed := true, recurses := true, named := ["encoding/binary.BigEndian", "pub-kmsg/pub/kmsg/inner/kbin.ErrNotEnoughData"], apart := false, laid := [("pub-kmsg/pub/kmsg/inner/kbin.ErrNotEnoughData", laid_pub_kmsg_pub_kmsg_inner_kbin_ErrNotEnoughData)] }
def FnAnyOffsetCommitValueSaid : Prop := fnAnyOffsetCommitValueRow.holds Tryd.pinned (OpenSpec.ofChange fnAnyOffsetCommitValueSpec)

/-- ITS FALSE NEIGHBOUR: 'it returns false'. Refute it at one input. -/
def fnAnyOffsetCommitValueWrong : ChangeSpec := { name := "fnAnyOffsetCommitValue", fn := fun _ => fun
  | [d] => { results := [.lit (.bool false)], args := [d] }
  | _ => none }
def FnAnyOffsetCommitValueWrongFalsely : Prop := fnAnyOffsetCommitValueRow.holds Tryd.pinned (OpenSpec.ofChange fnAnyOffsetCommitValueWrong)

/-- 'laws.FnAnyUpdateFeaturesResponse': WHATEVER THE INPUT: true; the input reads as it did. -/
def fnAnyUpdateFeaturesResponseSpec : ChangeSpec := { name := "fnAnyUpdateFeaturesResponse", fn := fun _ => fun
  | [d1, d2] => { results := [.lit (.bool true)], args := [d1, d2] }
  | _ => none }
def fnAnyUpdateFeaturesResponseRow : OpenClaim := { program := "ytlmelgjepdbakaadoorr", sum := "6c08a0c04d95171db92cc7154c8c5545e5776fc015cde65ba5feb64cd695aeea", func := "pub-kmsg/laws.FnAnyUpdateFeaturesResponse", spec := "fnAnyUpdateFeaturesResponse", inPlace := ["internal/reflectlite.ValueOf", "internal/reflectlite.Swapper", "(internal/reflectlite.Value).Len"], unfollowed := true, recurses := true, named := ["encoding/binary.BigEndian", "pub-kmsg/pub/kmsg/inner/kbin.ErrNotEnoughData"], apart := false, laid := [("pub-kmsg/pub/kmsg/inner/kbin.ErrNotEnoughData", laid_pub_kmsg_pub_kmsg_inner_kbin_ErrNotEnoughData)] }
def FnAnyUpdateFeaturesResponseSaid : Prop := fnAnyUpdateFeaturesResponseRow.holds Tryd.pinned (OpenSpec.ofChange fnAnyUpdateFeaturesResponseSpec)

/-- ITS FALSE NEIGHBOUR: 'it returns false'. Refute it at one input. -/
def fnAnyUpdateFeaturesResponseWrong : ChangeSpec := { name := "fnAnyUpdateFeaturesResponse", fn := fun _ => fun
  | [d1, d2] => { results := [.lit (.bool false)], args := [d1, d2] }
  | _ => none }
def FnAnyUpdateFeaturesResponseWrongFalsely : Prop := fnAnyUpdateFeaturesResponseRow.holds Tryd.pinned (OpenSpec.ofChange fnAnyUpdateFeaturesResponseWrong)

/-- 'laws.FnAnyDescribeClientQuotasRequest': WHATEVER THE INPUT: true; the input reads as it did. -/
def fnAnyDescribeClientQuotasRequestSpec : ChangeSpec := { name := "fnAnyDescribeClientQuotasRequest", fn := fun _ => fun
  | [d1, d2] => { results := [.lit (.bool true)], args := [d1, d2] }
  | _ => none }
def fnAnyDescribeClientQuotasRequestRow : OpenClaim := { program := "ytlmelgjepdbakaadoorr", sum := "6c08a0c04d95171db92cc7154c8c5545e5776fc015cde65ba5feb64cd695aeea", func := "pub-kmsg/laws.FnAnyDescribeClientQuotasRequest", spec := "fnAnyDescribeClientQuotasRequest", inPlace := ["internal/reflectlite.ValueOf", "internal/reflectlite.Swapper", "(internal/reflectlite.Value).Len"], unfollowed := true, recurses := true, named := ["encoding/binary.BigEndian", "pub-kmsg/pub/kmsg/inner/kbin.ErrNotEnoughData"], apart := false, laid := [("pub-kmsg/pub/kmsg/inner/kbin.ErrNotEnoughData", laid_pub_kmsg_pub_kmsg_inner_kbin_ErrNotEnoughData)] }
def FnAnyDescribeClientQuotasRequestSaid : Prop := fnAnyDescribeClientQuotasRequestRow.holds Tryd.pinned (OpenSpec.ofChange fnAnyDescribeClientQuotasRequestSpec)

/-- ITS FALSE NEIGHBOUR: 'it returns false'. Refute it at one input. -/
def fnAnyDescribeClientQuotasRequestWrong : ChangeSpec := { name := "fnAnyDescribeClientQuotasRequest", fn := fun _ => fun
  | [d1, d2] => { results := [.lit (.bool false)], args := [d1, d2] }
  | _ => none }
def FnAnyDescribeClientQuotasRequestWrongFalsely : Prop := fnAnyDescribeClientQuotasRequestRow.holds Tryd.pinned (OpenSpec.ofChange fnAnyDescribeClientQuotasRequestWrong)

/- THE SECOND FORM. 'bulk': how many values and letters a reading holds, each counted each time it is reached (what is shared counts as often as it is met; a slice's spare places count too). A statement '..UptoSaid' is the law's where the arguments, and the package variables that the reading takes, are together of bulk at most 1048576: NARROWER than '..Said'. Prove '..Said' where nothing that the law and all that it calls make is longer than what came in: it says more and counts as full. Else prove '..UptoSaid'. A law counts once. -/
mutual
def uptoBulk {H : Type} : DataW H → Nat
  | .lit (.string bytes) => bytes.length + 1
  | .lit _ => 1
  | .nil => 1
  | .ptr d => uptoBulk d + 1
  | .slice elems spare => uptoBulkAll elems + uptoBulkAll spare + 1
  | .agg parts => uptoBulkAll parts + 1
  | .iface _ d => uptoBulk d + 1
  | .map entries => uptoBulkEntries entries + 1
  | .held _ => 1
def uptoBulkAll {H : Type} : List (DataW H) → Nat
  | [] => 0
  | d :: r => uptoBulk d + uptoBulkAll r
def uptoBulkEntries {H : Type} : List (Lit × DataW H) → Nat
  | [] => 0
  | x :: r => uptoBulkEntry x + uptoBulkEntries r
def uptoBulkEntry {H : Type} : Lit × DataW H → Nat
  | (.string bytes, d) => bytes.length + uptoBulk d + 1
  | (_, d) => uptoBulk d + 1
 end
def uptoSmall : (H : Type) → List (DataW H) → Bool := fun _ ds => decide (uptoBulkAll ds ≤ 1048576)
def OpenSpec.upto (s : _root_.Go.ChangeSpec) : _root_.Go.OpenSpec := { _root_.Go.OpenSpec.ofChange s with cond := some uptoSmall }

/-- 'laws.FnAnySASLHandshakeResponse', WHERE WHAT IT READS IS OF BULK AT MOST 1048576: true; the input reads as it did. -/
def fnAnySASLHandshakeResponseUptoRow : OpenClaim := { program := "ytlmelgjepdbakaadoorr", sum := "6c08a0c04d95171db92cc7154c8c5545e5776fc015cde65ba5feb64cd695aeea", func := "pub-kmsg/laws.FnAnySASLHandshakeResponse", spec := "fnAnySASLHandshakeResponse", named := ["encoding/binary.BigEndian", "pub-kmsg/pub/kmsg/inner/kbin.ErrNotEnoughData"], apart := false, laid := [("pub-kmsg/pub/kmsg/inner/kbin.ErrNotEnoughData", laid_pub_kmsg_pub_kmsg_inner_kbin_ErrNotEnoughData)], narrowed := true }
def FnAnySASLHandshakeResponseUptoSaid : Prop := fnAnySASLHandshakeResponseUptoRow.holds Tryd.pinned (OpenSpec.upto fnAnySASLHandshakeResponseSpec)

/-- 'laws.FnAnyControlledShutdownRequest', WHERE WHAT IT READS IS OF BULK AT MOST 1048576: true; the input reads as it did. -/
def fnAnyControlledShutdownRequestUptoRow : OpenClaim := { program := "ytlmelgjepdbakaadoorr", sum := "6c08a0c04d95171db92cc7154c8c5545e5776fc015cde65ba5feb64cd695aeea", func := "pub-kmsg/laws.FnAnyControlledShutdownRequest", spec := "fnAnyControlledShutdownRequest", inPlace := ["internal/reflectlite.ValueOf", "internal/reflectlite.Swapper", "(internal/reflectlite.Value).Len"], unfollowed := true, recurses := true, named := ["encoding/binary.BigEndian", "pub-kmsg/pub/kmsg/inner/kbin.ErrNotEnoughData"], apart := false, laid := [("pub-kmsg/pub/kmsg/inner/kbin.ErrNotEnoughData", laid_pub_kmsg_pub_kmsg_inner_kbin_ErrNotEnoughData)], narrowed := true }
def FnAnyControlledShutdownRequestUptoSaid : Prop := fnAnyControlledShutdownRequestUptoRow.holds Tryd.pinned (OpenSpec.upto fnAnyControlledShutdownRequestSpec)

/-- 'laws.FnAnyPushTelemetryRequest', WHERE WHAT IT READS IS OF BULK AT MOST 1048576: true; the input reads as it did. -/
def fnAnyPushTelemetryRequestUptoRow : OpenClaim := { program := "ytlmelgjepdbakaadoorr", sum := "6c08a0c04d95171db92cc7154c8c5545e5776fc015cde65ba5feb64cd695aeea", func := "pub-kmsg/laws.FnAnyPushTelemetryRequest", spec := "fnAnyPushTelemetryRequest", inPlace := ["internal/reflectlite.ValueOf", "internal/reflectlite.Swapper", "(internal/reflectlite.Value).Len"], unfollowed := true, recurses := true, named := ["encoding/binary.BigEndian", "pub-kmsg/pub/kmsg/inner/kbin.ErrNotEnoughData"], apart := false, laid := [("pub-kmsg/pub/kmsg/inner/kbin.ErrNotEnoughData", laid_pub_kmsg_pub_kmsg_inner_kbin_ErrNotEnoughData)], narrowed := true }
def FnAnyPushTelemetryRequestUptoSaid : Prop := fnAnyPushTelemetryRequestUptoRow.holds Tryd.pinned (OpenSpec.upto fnAnyPushTelemetryRequestSpec)

/-- 'laws.FnAnyOffsetCommitValue', WHERE WHAT IT READS IS OF BULK AT MOST 1048576: true; the input reads as it did. -/
def fnAnyOffsetCommitValueUptoRow : OpenClaim := { program := "ytlmelgjepdbakaadoorr", sum := "6c08a0c04d95171db92cc7154c8c5545e5776fc015cde65ba5feb64cd695aeea", func := "pub-kmsg/laws.FnAnyOffsetCommitValue", spec := "fnAnyOffsetCommitValue", inPlace := ["internal/reflectlite.ValueOf", "internal/reflectlite.Swapper", "(internal/reflectlite.Value).Len"], unfollowed := true, recurses := true, named := ["encoding/binary.BigEndian", "pub-kmsg/pub/kmsg/inner/kbin.ErrNotEnoughData"], apart := false, laid := [("pub-kmsg/pub/kmsg/inner/kbin.ErrNotEnoughData", laid_pub_kmsg_pub_kmsg_inner_kbin_ErrNotEnoughData)], narrowed := true }
def FnAnyOffsetCommitValueUptoSaid : Prop := fnAnyOffsetCommitValueUptoRow.holds Tryd.pinned (OpenSpec.upto fnAnyOffsetCommitValueSpec)

/-- 'laws.FnAnyUpdateFeaturesResponse', WHERE WHAT IT READS IS OF BULK AT MOST 1048576: true; the input reads as it did. -/
def fnAnyUpdateFeaturesResponseUptoRow : OpenClaim := { program := "ytlmelgjepdbakaadoorr", sum := "6c08a0c04d95171db92cc7154c8c5545e5776fc015cde65ba5feb64cd695aeea", func := "pub-kmsg/laws.FnAnyUpdateFeaturesResponse", spec := "fnAnyUpdateFeaturesResponse", inPlace := ["internal/reflectlite.ValueOf", "internal/reflectlite.Swapper", "(internal/reflectlite.Value).Len"], unfollowed := true, recurses := true, named := ["encoding/binary.BigEndian", "pub-kmsg/pub/kmsg/inner/kbin.ErrNotEnoughData"], apart := false, laid := [("pub-kmsg/pub/kmsg/inner/kbin.ErrNotEnoughData", laid_pub_kmsg_pub_kmsg_inner_kbin_ErrNotEnoughData)], narrowed := true }
def FnAnyUpdateFeaturesResponseUptoSaid : Prop := fnAnyUpdateFeaturesResponseUptoRow.holds Tryd.pinned (OpenSpec.upto fnAnyUpdateFeaturesResponseSpec)

/-- 'laws.FnAnyDescribeClientQuotasRequest', WHERE WHAT IT READS IS OF BULK AT MOST 1048576: true; the input reads as it did. -/
def fnAnyDescribeClientQuotasRequestUptoRow : OpenClaim := { program := "ytlmelgjepdbakaadoorr", sum := "6c08a0c04d95171db92cc7154c8c5545e5776fc015cde65ba5feb64cd695aeea", func := "pub-kmsg/laws.FnAnyDescribeClientQuotasRequest", spec := "fnAnyDescribeClientQuotasRequest", inPlace := ["internal/reflectlite.ValueOf", "internal/reflectlite.Swapper", "(internal/reflectlite.Value).Len"], unfollowed := true, recurses := true, named := ["encoding/binary.BigEndian", "pub-kmsg/pub/kmsg/inner/kbin.ErrNotEnoughData"], apart := false, laid := [("pub-kmsg/pub/kmsg/inner/kbin.ErrNotEnoughData", laid_pub_kmsg_pub_kmsg_inner_kbin_ErrNotEnoughData)], narrowed := true }
def FnAnyDescribeClientQuotasRequestUptoSaid : Prop := fnAnyDescribeClientQuotasRequestUptoRow.holds Tryd.pinned (OpenSpec.upto fnAnyDescribeClientQuotasRequestSpec)

end Rows
end Go.Proofs.YtlmelgjepdbakaaDoorR
