/-
  DERIVED. GIVEN WITH THE SEED: THE CARDS: each row of YtngckfpilgjcfaaGreatDoorRows.lean that lists a variable, with what it lists TIED to the program's text (the seventh form; the later family's looks); each row that meets fmt, with fmt's text TOLD by the authors' own Lean function (tested against real Go, not proved from fmt's source: count such statements apart). THE CARD IS WHAT COUNTS. Prove the row's statement (the work); the ties are given (YtngckfpilgjcfaaGreatDoorTie.lean); close each card by the builder's one call (the guide's Derived/Test/ToyasCard.lean, 'card_holds'). Laid BY PROGRAM, IN A SANDBOX (cutbox-door.mjs). By AI agents, Wed Nov 11 2026. No macro, syntax, notation, axiom, sorry.
-/
import Derived.Test.YtngckfpilgjcfaaGreatDoorRows
import GoSem.ClaimSeven
namespace Go.Proofs.YtngckfpilgjcfaaGreatDoor
namespace Rows

/-- THE TIED CARD OF 'laws.FnCutDescribeUserSCRAMCredentialsRequest'. -/
def fnCutDescribeUserSCRAMCredentialsRequestCard : Claim7 := { stood := { row := fnCutDescribeUserSCRAMCredentialsRequestRow, standIns := [], harness := (true, "1f30af6de41797cfc1b53207fa345543271f89f2a4f29583b008e385b833e2e2"), looks := false }, kinds := [], alts := [], laidByText := true, laidKinds := [.sentinel], laidTests := true, laidLooks := .later }
def FnCutDescribeUserSCRAMCredentialsRequestCardSaid : Prop := Claim7.holds Tryz.pinned (.plain (OpenSpec.ofChange fnCutDescribeUserSCRAMCredentialsRequestSpec)) fnCutDescribeUserSCRAMCredentialsRequestCard

/-- THE TIED CARD OF 'laws.FnCutOffsetForLeaderEpochRequest'. -/
def fnCutOffsetForLeaderEpochRequestCard : Claim7 := { stood := { row := fnCutOffsetForLeaderEpochRequestRow, standIns := [], harness := (true, "1f30af6de41797cfc1b53207fa345543271f89f2a4f29583b008e385b833e2e2"), looks := false }, kinds := [], alts := [], laidByText := true, laidKinds := [.sentinel], laidTests := true, laidLooks := .later }
def FnCutOffsetForLeaderEpochRequestCardSaid : Prop := Claim7.holds Tryz.pinned (.plain (OpenSpec.ofChange fnCutOffsetForLeaderEpochRequestSpec)) fnCutOffsetForLeaderEpochRequestCard

/-- THE TIED CARD OF 'laws.FnCutCreatePartitionsResponse'. -/
def fnCutCreatePartitionsResponseCard : Claim7 := { stood := { row := fnCutCreatePartitionsResponseRow, standIns := [], harness := (true, "1f30af6de41797cfc1b53207fa345543271f89f2a4f29583b008e385b833e2e2"), looks := false }, kinds := [], alts := [], laidByText := true, laidKinds := [.sentinel], laidTests := true, laidLooks := .later }
def FnCutCreatePartitionsResponseCardSaid : Prop := Claim7.holds Tryz.pinned (.plain (OpenSpec.ofChange fnCutCreatePartitionsResponseSpec)) fnCutCreatePartitionsResponseCard

/-- THE TIED CARD OF 'laws.FnCutInitializeShareGroupStateRequest'. -/
def fnCutInitializeShareGroupStateRequestCard : Claim7 := { stood := { row := fnCutInitializeShareGroupStateRequestRow, standIns := [], harness := (true, "1f30af6de41797cfc1b53207fa345543271f89f2a4f29583b008e385b833e2e2"), looks := false }, kinds := [], alts := [], laidByText := true, laidKinds := [.sentinel], laidTests := true, laidLooks := .later }
def FnCutInitializeShareGroupStateRequestCardSaid : Prop := Claim7.holds Tryz.pinned (.plain (OpenSpec.ofChange fnCutInitializeShareGroupStateRequestSpec)) fnCutInitializeShareGroupStateRequestCard

/-- THE TIED CARD OF 'laws.FnCutDeleteTopicsRequest'. -/
def fnCutDeleteTopicsRequestCard : Claim7 := { stood := { row := fnCutDeleteTopicsRequestRow, standIns := [], harness := (true, "1f30af6de41797cfc1b53207fa345543271f89f2a4f29583b008e385b833e2e2"), looks := false }, kinds := [], alts := [], laidByText := true, laidKinds := [.sentinel], laidTests := true, laidLooks := .later }
def FnCutDeleteTopicsRequestCardSaid : Prop := Claim7.holds Tryz.pinned (.plain (OpenSpec.ofChange fnCutDeleteTopicsRequestSpec)) fnCutDeleteTopicsRequestCard

/-- THE TIED CARD OF 'laws.FnCutListOffsetsResponse'. -/
def fnCutListOffsetsResponseCard : Claim7 := { stood := { row := fnCutListOffsetsResponseRow, standIns := [], harness := (true, "1f30af6de41797cfc1b53207fa345543271f89f2a4f29583b008e385b833e2e2"), looks := false }, kinds := [], alts := [], laidByText := true, laidKinds := [.sentinel], laidTests := true, laidLooks := .later }
def FnCutListOffsetsResponseCardSaid : Prop := Claim7.holds Tryz.pinned (.plain (OpenSpec.ofChange fnCutListOffsetsResponseSpec)) fnCutListOffsetsResponseCard

/-- THE TIED CARD OF 'laws.FnCutWriteTxnMarkersRequest'. -/
def fnCutWriteTxnMarkersRequestCard : Claim7 := { stood := { row := fnCutWriteTxnMarkersRequestRow, standIns := [], harness := (true, "1f30af6de41797cfc1b53207fa345543271f89f2a4f29583b008e385b833e2e2"), looks := false }, kinds := [], alts := [], laidByText := true, laidKinds := [.sentinel], laidTests := true, laidLooks := .later }
def FnCutWriteTxnMarkersRequestCardSaid : Prop := Claim7.holds Tryz.pinned (.plain (OpenSpec.ofChange fnCutWriteTxnMarkersRequestSpec)) fnCutWriteTxnMarkersRequestCard

/-- THE TIED CARD OF 'laws.FnCutAlterShareGroupOffsetsResponse'. -/
def fnCutAlterShareGroupOffsetsResponseCard : Claim7 := { stood := { row := fnCutAlterShareGroupOffsetsResponseRow, standIns := [], harness := (true, "1f30af6de41797cfc1b53207fa345543271f89f2a4f29583b008e385b833e2e2"), looks := false }, kinds := [], alts := [], laidByText := true, laidKinds := [.sentinel], laidTests := true, laidLooks := .later }
def FnCutAlterShareGroupOffsetsResponseCardSaid : Prop := Claim7.holds Tryz.pinned (.plain (OpenSpec.ofChange fnCutAlterShareGroupOffsetsResponseSpec)) fnCutAlterShareGroupOffsetsResponseCard

/-- THE TIED CARD OF 'laws.FnCutStopReplicaRequest'. -/
def fnCutStopReplicaRequestCard : Claim7 := { stood := { row := fnCutStopReplicaRequestRow, standIns := [], harness := (true, "1f30af6de41797cfc1b53207fa345543271f89f2a4f29583b008e385b833e2e2"), looks := false }, kinds := [], alts := [], laidByText := true, laidKinds := [.sentinel], laidTests := true, laidLooks := .later }
def FnCutStopReplicaRequestCardSaid : Prop := Claim7.holds Tryz.pinned (.plain (OpenSpec.ofChange fnCutStopReplicaRequestSpec)) fnCutStopReplicaRequestCard

/-- THE TIED CARD OF 'laws.FnCutDescribeGroupsResponse'. -/
def fnCutDescribeGroupsResponseCard : Claim7 := { stood := { row := fnCutDescribeGroupsResponseRow, standIns := [], harness := (true, "1f30af6de41797cfc1b53207fa345543271f89f2a4f29583b008e385b833e2e2"), looks := false }, kinds := [], alts := [], laidByText := true, laidKinds := [.sentinel], laidTests := true, laidLooks := .later }
def FnCutDescribeGroupsResponseCardSaid : Prop := Claim7.holds Tryz.pinned (.plain (OpenSpec.ofChange fnCutDescribeGroupsResponseSpec)) fnCutDescribeGroupsResponseCard

/-- THE SECOND FORM's CARD OF 'laws.FnCutDescribeUserSCRAMCredentialsRequest'. -/
def fnCutDescribeUserSCRAMCredentialsRequestUptoCard : Claim7 := { stood := { row := fnCutDescribeUserSCRAMCredentialsRequestUptoRow, standIns := [], harness := (true, "1f30af6de41797cfc1b53207fa345543271f89f2a4f29583b008e385b833e2e2"), looks := false }, kinds := [], alts := [], laidByText := true, laidKinds := [.sentinel], laidTests := true, laidLooks := .later }
def FnCutDescribeUserSCRAMCredentialsRequestUptoCardSaid : Prop := Claim7.holds Tryz.pinned (.plain (OpenSpec.upto fnCutDescribeUserSCRAMCredentialsRequestSpec)) fnCutDescribeUserSCRAMCredentialsRequestUptoCard

/-- THE SECOND FORM's CARD OF 'laws.FnCutOffsetForLeaderEpochRequest'. -/
def fnCutOffsetForLeaderEpochRequestUptoCard : Claim7 := { stood := { row := fnCutOffsetForLeaderEpochRequestUptoRow, standIns := [], harness := (true, "1f30af6de41797cfc1b53207fa345543271f89f2a4f29583b008e385b833e2e2"), looks := false }, kinds := [], alts := [], laidByText := true, laidKinds := [.sentinel], laidTests := true, laidLooks := .later }
def FnCutOffsetForLeaderEpochRequestUptoCardSaid : Prop := Claim7.holds Tryz.pinned (.plain (OpenSpec.upto fnCutOffsetForLeaderEpochRequestSpec)) fnCutOffsetForLeaderEpochRequestUptoCard

/-- THE SECOND FORM's CARD OF 'laws.FnCutCreatePartitionsResponse'. -/
def fnCutCreatePartitionsResponseUptoCard : Claim7 := { stood := { row := fnCutCreatePartitionsResponseUptoRow, standIns := [], harness := (true, "1f30af6de41797cfc1b53207fa345543271f89f2a4f29583b008e385b833e2e2"), looks := false }, kinds := [], alts := [], laidByText := true, laidKinds := [.sentinel], laidTests := true, laidLooks := .later }
def FnCutCreatePartitionsResponseUptoCardSaid : Prop := Claim7.holds Tryz.pinned (.plain (OpenSpec.upto fnCutCreatePartitionsResponseSpec)) fnCutCreatePartitionsResponseUptoCard

/-- THE SECOND FORM's CARD OF 'laws.FnCutInitializeShareGroupStateRequest'. -/
def fnCutInitializeShareGroupStateRequestUptoCard : Claim7 := { stood := { row := fnCutInitializeShareGroupStateRequestUptoRow, standIns := [], harness := (true, "1f30af6de41797cfc1b53207fa345543271f89f2a4f29583b008e385b833e2e2"), looks := false }, kinds := [], alts := [], laidByText := true, laidKinds := [.sentinel], laidTests := true, laidLooks := .later }
def FnCutInitializeShareGroupStateRequestUptoCardSaid : Prop := Claim7.holds Tryz.pinned (.plain (OpenSpec.upto fnCutInitializeShareGroupStateRequestSpec)) fnCutInitializeShareGroupStateRequestUptoCard

/-- THE SECOND FORM's CARD OF 'laws.FnCutDeleteTopicsRequest'. -/
def fnCutDeleteTopicsRequestUptoCard : Claim7 := { stood := { row := fnCutDeleteTopicsRequestUptoRow, standIns := [], harness := (true, "1f30af6de41797cfc1b53207fa345543271f89f2a4f29583b008e385b833e2e2"), looks := false }, kinds := [], alts := [], laidByText := true, laidKinds := [.sentinel], laidTests := true, laidLooks := .later }
def FnCutDeleteTopicsRequestUptoCardSaid : Prop := Claim7.holds Tryz.pinned (.plain (OpenSpec.upto fnCutDeleteTopicsRequestSpec)) fnCutDeleteTopicsRequestUptoCard

/-- THE SECOND FORM's CARD OF 'laws.FnCutListOffsetsResponse'. -/
def fnCutListOffsetsResponseUptoCard : Claim7 := { stood := { row := fnCutListOffsetsResponseUptoRow, standIns := [], harness := (true, "1f30af6de41797cfc1b53207fa345543271f89f2a4f29583b008e385b833e2e2"), looks := false }, kinds := [], alts := [], laidByText := true, laidKinds := [.sentinel], laidTests := true, laidLooks := .later }
def FnCutListOffsetsResponseUptoCardSaid : Prop := Claim7.holds Tryz.pinned (.plain (OpenSpec.upto fnCutListOffsetsResponseSpec)) fnCutListOffsetsResponseUptoCard

/-- THE SECOND FORM's CARD OF 'laws.FnCutWriteTxnMarkersRequest'. -/
def fnCutWriteTxnMarkersRequestUptoCard : Claim7 := { stood := { row := fnCutWriteTxnMarkersRequestUptoRow, standIns := [], harness := (true, "1f30af6de41797cfc1b53207fa345543271f89f2a4f29583b008e385b833e2e2"), looks := false }, kinds := [], alts := [], laidByText := true, laidKinds := [.sentinel], laidTests := true, laidLooks := .later }
def FnCutWriteTxnMarkersRequestUptoCardSaid : Prop := Claim7.holds Tryz.pinned (.plain (OpenSpec.upto fnCutWriteTxnMarkersRequestSpec)) fnCutWriteTxnMarkersRequestUptoCard

/-- THE SECOND FORM's CARD OF 'laws.FnCutAlterShareGroupOffsetsResponse'. -/
def fnCutAlterShareGroupOffsetsResponseUptoCard : Claim7 := { stood := { row := fnCutAlterShareGroupOffsetsResponseUptoRow, standIns := [], harness := (true, "1f30af6de41797cfc1b53207fa345543271f89f2a4f29583b008e385b833e2e2"), looks := false }, kinds := [], alts := [], laidByText := true, laidKinds := [.sentinel], laidTests := true, laidLooks := .later }
def FnCutAlterShareGroupOffsetsResponseUptoCardSaid : Prop := Claim7.holds Tryz.pinned (.plain (OpenSpec.upto fnCutAlterShareGroupOffsetsResponseSpec)) fnCutAlterShareGroupOffsetsResponseUptoCard

/-- THE SECOND FORM's CARD OF 'laws.FnCutStopReplicaRequest'. -/
def fnCutStopReplicaRequestUptoCard : Claim7 := { stood := { row := fnCutStopReplicaRequestUptoRow, standIns := [], harness := (true, "1f30af6de41797cfc1b53207fa345543271f89f2a4f29583b008e385b833e2e2"), looks := false }, kinds := [], alts := [], laidByText := true, laidKinds := [.sentinel], laidTests := true, laidLooks := .later }
def FnCutStopReplicaRequestUptoCardSaid : Prop := Claim7.holds Tryz.pinned (.plain (OpenSpec.upto fnCutStopReplicaRequestSpec)) fnCutStopReplicaRequestUptoCard

/-- THE SECOND FORM's CARD OF 'laws.FnCutDescribeGroupsResponse'. -/
def fnCutDescribeGroupsResponseUptoCard : Claim7 := { stood := { row := fnCutDescribeGroupsResponseUptoRow, standIns := [], harness := (true, "1f30af6de41797cfc1b53207fa345543271f89f2a4f29583b008e385b833e2e2"), looks := false }, kinds := [], alts := [], laidByText := true, laidKinds := [.sentinel], laidTests := true, laidLooks := .later }
def FnCutDescribeGroupsResponseUptoCardSaid : Prop := Claim7.holds Tryz.pinned (.plain (OpenSpec.upto fnCutDescribeGroupsResponseSpec)) fnCutDescribeGroupsResponseUptoCard
end Rows
end Go.Proofs.YtngckfpilgjcfaaGreatDoor
