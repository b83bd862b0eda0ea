/-
  DERIVED. GIVEN WITH THE SEED: THE CARDS: each row of YtlmelgjepdbakaaDoorRRows.lean that lists a variable, with what it lists TIED to the program's text (the seventh form; the later family's looks); each row that meets fmt, with fmt's text TOLD by the authors' own Lean function (tested against real Go, not proved from fmt's source: count such statements apart). THE CARD IS WHAT COUNTS. Prove the row's statement (the work); the ties are given (YtlmelgjepdbakaaDoorRTie.lean); close each card by the builder's one call (the guide's Derived/Test/ToyasCard.lean, 'card_holds'). Laid BY PROGRAM, IN A SANDBOX (cutbox-door.mjs). By AI agents, Wed Nov 11 2026. No macro, syntax, notation, axiom, sorry.
-/
import Derived.Test.YtlmelgjepdbakaaDoorRRows
import GoSem.ClaimSeven
namespace Go.Proofs.YtlmelgjepdbakaaDoorR
namespace Rows

/-- THE TIED CARD OF 'laws.FnAnySASLHandshakeResponse'. -/
def fnAnySASLHandshakeResponseCard : Claim7 := { stood := { row := fnAnySASLHandshakeResponseRow, standIns := [], harness := (true, "9ff6def5ef933042f62983b406824c65ee491ea0e1976d35dda4f6483e9998b9"), looks := false }, kinds := [], alts := [], laidByText := true, laidKinds := [.sentinel], laidTests := true, laidLooks := .later }
def FnAnySASLHandshakeResponseCardSaid : Prop := Claim7.holds Tryd.pinned (.plain (OpenSpec.ofChange fnAnySASLHandshakeResponseSpec)) fnAnySASLHandshakeResponseCard

/-- THE TIED CARD OF 'laws.FnAnyControlledShutdownRequest'. -/
def fnAnyControlledShutdownRequestCard : Claim7 := { stood := { row := fnAnyControlledShutdownRequestRow, standIns := [], harness := (true, "9ff6def5ef933042f62983b406824c65ee491ea0e1976d35dda4f6483e9998b9"), looks := false }, kinds := [], alts := [], laidByText := true, laidKinds := [.sentinel], laidTests := true, laidLooks := .later }
def FnAnyControlledShutdownRequestCardSaid : Prop := Claim7.holds Tryd.pinned (.plain (OpenSpec.ofChange fnAnyControlledShutdownRequestSpec)) fnAnyControlledShutdownRequestCard

/-- THE TIED CARD OF 'laws.FnAnyPushTelemetryRequest'. -/
def fnAnyPushTelemetryRequestCard : Claim7 := { stood := { row := fnAnyPushTelemetryRequestRow, standIns := [], harness := (true, "9ff6def5ef933042f62983b406824c65ee491ea0e1976d35dda4f6483e9998b9"), looks := false }, kinds := [], alts := [], laidByText := true, laidKinds := [.sentinel], laidTests := true, laidLooks := .later }
def FnAnyPushTelemetryRequestCardSaid : Prop := Claim7.holds Tryd.pinned (.plain (OpenSpec.ofChange fnAnyPushTelemetryRequestSpec)) fnAnyPushTelemetryRequestCard

/-- THE TIED CARD OF 'laws.FnAnyOffsetCommitValue'. -/
def fnAnyOffsetCommitValueCard : Claim7 := { stood := { row := fnAnyOffsetCommitValueRow, standIns := [], harness := (true, "9ff6def5ef933042f62983b406824c65ee491ea0e1976d35dda4f6483e9998b9"), looks := false }, kinds := [], alts := [], laidByText := true, laidKinds := [.sentinel], laidTests := true, laidLooks := .later }
def FnAnyOffsetCommitValueCardSaid : Prop := Claim7.holds Tryd.pinned (.plain (OpenSpec.ofChange fnAnyOffsetCommitValueSpec)) fnAnyOffsetCommitValueCard

/-- THE TIED CARD OF 'laws.FnAnyUpdateFeaturesResponse'. -/
def fnAnyUpdateFeaturesResponseCard : Claim7 := { stood := { row := fnAnyUpdateFeaturesResponseRow, standIns := [], harness := (true, "9ff6def5ef933042f62983b406824c65ee491ea0e1976d35dda4f6483e9998b9"), looks := false }, kinds := [], alts := [], laidByText := true, laidKinds := [.sentinel], laidTests := true, laidLooks := .later }
def FnAnyUpdateFeaturesResponseCardSaid : Prop := Claim7.holds Tryd.pinned (.plain (OpenSpec.ofChange fnAnyUpdateFeaturesResponseSpec)) fnAnyUpdateFeaturesResponseCard

/-- THE TIED CARD OF 'laws.FnAnyDescribeClientQuotasRequest'. -/
def fnAnyDescribeClientQuotasRequestCard : Claim7 := { stood := { row := fnAnyDescribeClientQuotasRequestRow, standIns := [], harness := (true, "9ff6def5ef933042f62983b406824c65ee491ea0e1976d35dda4f6483e9998b9"), looks := false }, kinds := [], alts := [], laidByText := true, laidKinds := [.sentinel], laidTests := true, laidLooks := .later }
def FnAnyDescribeClientQuotasRequestCardSaid : Prop := Claim7.holds Tryd.pinned (.plain (OpenSpec.ofChange fnAnyDescribeClientQuotasRequestSpec)) fnAnyDescribeClientQuotasRequestCard

/-- THE SECOND FORM's CARD OF 'laws.FnAnySASLHandshakeResponse'. -/
def fnAnySASLHandshakeResponseUptoCard : Claim7 := { stood := { row := fnAnySASLHandshakeResponseUptoRow, standIns := [], harness := (true, "9ff6def5ef933042f62983b406824c65ee491ea0e1976d35dda4f6483e9998b9"), looks := false }, kinds := [], alts := [], laidByText := true, laidKinds := [.sentinel], laidTests := true, laidLooks := .later }
def FnAnySASLHandshakeResponseUptoCardSaid : Prop := Claim7.holds Tryd.pinned (.plain (OpenSpec.upto fnAnySASLHandshakeResponseSpec)) fnAnySASLHandshakeResponseUptoCard

/-- THE SECOND FORM's CARD OF 'laws.FnAnyControlledShutdownRequest'. -/
def fnAnyControlledShutdownRequestUptoCard : Claim7 := { stood := { row := fnAnyControlledShutdownRequestUptoRow, standIns := [], harness := (true, "9ff6def5ef933042f62983b406824c65ee491ea0e1976d35dda4f6483e9998b9"), looks := false }, kinds := [], alts := [], laidByText := true, laidKinds := [.sentinel], laidTests := true, laidLooks := .later }
def FnAnyControlledShutdownRequestUptoCardSaid : Prop := Claim7.holds Tryd.pinned (.plain (OpenSpec.upto fnAnyControlledShutdownRequestSpec)) fnAnyControlledShutdownRequestUptoCard

/-- THE SECOND FORM's CARD OF 'laws.FnAnyPushTelemetryRequest'. -/
def fnAnyPushTelemetryRequestUptoCard : Claim7 := { stood := { row := fnAnyPushTelemetryRequestUptoRow, standIns := [], harness := (true, "9ff6def5ef933042f62983b406824c65ee491ea0e1976d35dda4f6483e9998b9"), looks := false }, kinds := [], alts := [], laidByText := true, laidKinds := [.sentinel], laidTests := true, laidLooks := .later }
def FnAnyPushTelemetryRequestUptoCardSaid : Prop := Claim7.holds Tryd.pinned (.plain (OpenSpec.upto fnAnyPushTelemetryRequestSpec)) fnAnyPushTelemetryRequestUptoCard

/-- THE SECOND FORM's CARD OF 'laws.FnAnyOffsetCommitValue'. -/
def fnAnyOffsetCommitValueUptoCard : Claim7 := { stood := { row := fnAnyOffsetCommitValueUptoRow, standIns := [], harness := (true, "9ff6def5ef933042f62983b406824c65ee491ea0e1976d35dda4f6483e9998b9"), looks := false }, kinds := [], alts := [], laidByText := true, laidKinds := [.sentinel], laidTests := true, laidLooks := .later }
def FnAnyOffsetCommitValueUptoCardSaid : Prop := Claim7.holds Tryd.pinned (.plain (OpenSpec.upto fnAnyOffsetCommitValueSpec)) fnAnyOffsetCommitValueUptoCard

/-- THE SECOND FORM's CARD OF 'laws.FnAnyUpdateFeaturesResponse'. -/
def fnAnyUpdateFeaturesResponseUptoCard : Claim7 := { stood := { row := fnAnyUpdateFeaturesResponseUptoRow, standIns := [], harness := (true, "9ff6def5ef933042f62983b406824c65ee491ea0e1976d35dda4f6483e9998b9"), looks := false }, kinds := [], alts := [], laidByText := true, laidKinds := [.sentinel], laidTests := true, laidLooks := .later }
def FnAnyUpdateFeaturesResponseUptoCardSaid : Prop := Claim7.holds Tryd.pinned (.plain (OpenSpec.upto fnAnyUpdateFeaturesResponseSpec)) fnAnyUpdateFeaturesResponseUptoCard

/-- THE SECOND FORM's CARD OF 'laws.FnAnyDescribeClientQuotasRequest'. -/
def fnAnyDescribeClientQuotasRequestUptoCard : Claim7 := { stood := { row := fnAnyDescribeClientQuotasRequestUptoRow, standIns := [], harness := (true, "9ff6def5ef933042f62983b406824c65ee491ea0e1976d35dda4f6483e9998b9"), looks := false }, kinds := [], alts := [], laidByText := true, laidKinds := [.sentinel], laidTests := true, laidLooks := .later }
def FnAnyDescribeClientQuotasRequestUptoCardSaid : Prop := Claim7.holds Tryd.pinned (.plain (OpenSpec.upto fnAnyDescribeClientQuotasRequestSpec)) fnAnyDescribeClientQuotasRequestUptoCard
end Rows
end Go.Proofs.YtlmelgjepdbakaaDoorR
