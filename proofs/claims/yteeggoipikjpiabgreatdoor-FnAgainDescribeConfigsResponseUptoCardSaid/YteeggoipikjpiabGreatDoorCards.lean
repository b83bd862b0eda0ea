/-
  DERIVED. GIVEN WITH THE SEED: THE CARDS: each row of YteeggoipikjpiabGreatDoorRows.lean that lists a variable, with what it lists TIED to the program's text (the seventh form; the later family's looks); each row that meets fmt, with fmt's text TOLD by the authors' own Lean function (tested against real Go, not proved from fmt's source: count such statements apart). THE CARD IS WHAT COUNTS. Prove the row's statement (the work); the ties are given (YteeggoipikjpiabGreatDoorTie.lean); close each card by the builder's one call (the guide's Derived/Test/ToyasCard.lean, 'card_holds'). Laid BY PROGRAM, IN A SANDBOX (cutbox-door.mjs). By AI agents, Wed Nov 11 2026. No macro, syntax, notation, axiom, sorry.
-/
import Derived.Test.YteeggoipikjpiabGreatDoorRows
import GoSem.ClaimSeven
namespace Go.Proofs.YteeggoipikjpiabGreatDoor
namespace Rows

/-- THE TIED CARD OF 'laws.FnAgainReadShareGroupStateSummaryResponse'. -/
def fnAgainReadShareGroupStateSummaryResponseCard : Claim7 := { stood := { row := fnAgainReadShareGroupStateSummaryResponseRow, standIns := [], harness := (true, "8a00742f48a726a50ab177abd1828c4f28c76bf024548e8832098bf2a64c9fac"), looks := false }, kinds := [], alts := [], laidByText := true, laidKinds := [.sentinel], laidTests := true, laidLooks := .later }
def FnAgainReadShareGroupStateSummaryResponseCardSaid : Prop := Claim7.holds Tryz.pinned (.plain (OpenSpec.ofChange fnAgainReadShareGroupStateSummaryResponseSpec)) fnAgainReadShareGroupStateSummaryResponseCard

/-- THE TIED CARD OF 'laws.FnAgainAlterPartitionResponse'. -/
def fnAgainAlterPartitionResponseCard : Claim7 := { stood := { row := fnAgainAlterPartitionResponseRow, standIns := [], harness := (true, "8a00742f48a726a50ab177abd1828c4f28c76bf024548e8832098bf2a64c9fac"), looks := false }, kinds := [], alts := [], laidByText := true, laidKinds := [.sentinel], laidTests := true, laidLooks := .later }
def FnAgainAlterPartitionResponseCardSaid : Prop := Claim7.holds Tryz.pinned (.plain (OpenSpec.ofChange fnAgainAlterPartitionResponseSpec)) fnAgainAlterPartitionResponseCard

/-- THE TIED CARD OF 'laws.FnAgainIncrementalAlterConfigsRequest'. -/
def fnAgainIncrementalAlterConfigsRequestCard : Claim7 := { stood := { row := fnAgainIncrementalAlterConfigsRequestRow, standIns := [], harness := (true, "8a00742f48a726a50ab177abd1828c4f28c76bf024548e8832098bf2a64c9fac"), looks := false }, kinds := [], alts := [], laidByText := true, laidKinds := [.sentinel], laidTests := true, laidLooks := .later }
def FnAgainIncrementalAlterConfigsRequestCardSaid : Prop := Claim7.holds Tryz.pinned (.plain (OpenSpec.ofChange fnAgainIncrementalAlterConfigsRequestSpec)) fnAgainIncrementalAlterConfigsRequestCard

/-- THE TIED CARD OF 'laws.FnAgainVoteRequest'. -/
def fnAgainVoteRequestCard : Claim7 := { stood := { row := fnAgainVoteRequestRow, standIns := [], harness := (true, "8a00742f48a726a50ab177abd1828c4f28c76bf024548e8832098bf2a64c9fac"), looks := false }, kinds := [], alts := [], laidByText := true, laidKinds := [.sentinel], laidTests := true, laidLooks := .later }
def FnAgainVoteRequestCardSaid : Prop := Claim7.holds Tryz.pinned (.plain (OpenSpec.ofChange fnAgainVoteRequestSpec)) fnAgainVoteRequestCard

/-- THE TIED CARD OF 'laws.FnAgainAddPartitionsToTxnRequest'. -/
def fnAgainAddPartitionsToTxnRequestCard : Claim7 := { stood := { row := fnAgainAddPartitionsToTxnRequestRow, standIns := [], harness := (true, "8a00742f48a726a50ab177abd1828c4f28c76bf024548e8832098bf2a64c9fac"), looks := false }, kinds := [], alts := [], laidByText := true, laidKinds := [.sentinel], laidTests := true, laidLooks := .later }
def FnAgainAddPartitionsToTxnRequestCardSaid : Prop := Claim7.holds Tryz.pinned (.plain (OpenSpec.ofChange fnAgainAddPartitionsToTxnRequestSpec)) fnAgainAddPartitionsToTxnRequestCard

/-- THE TIED CARD OF 'laws.FnAgainDescribeConfigsResponse'. -/
def fnAgainDescribeConfigsResponseCard : Claim7 := { stood := { row := fnAgainDescribeConfigsResponseRow, standIns := [], harness := (true, "8a00742f48a726a50ab177abd1828c4f28c76bf024548e8832098bf2a64c9fac"), looks := false }, kinds := [], alts := [], laidByText := true, laidKinds := [.sentinel], laidTests := true, laidLooks := .later }
def FnAgainDescribeConfigsResponseCardSaid : Prop := Claim7.holds Tryz.pinned (.plain (OpenSpec.ofChange fnAgainDescribeConfigsResponseSpec)) fnAgainDescribeConfigsResponseCard

/-- THE SECOND FORM's CARD OF 'laws.FnAgainReadShareGroupStateSummaryResponse'. -/
def fnAgainReadShareGroupStateSummaryResponseUptoCard : Claim7 := { stood := { row := fnAgainReadShareGroupStateSummaryResponseUptoRow, standIns := [], harness := (true, "8a00742f48a726a50ab177abd1828c4f28c76bf024548e8832098bf2a64c9fac"), looks := false }, kinds := [], alts := [], laidByText := true, laidKinds := [.sentinel], laidTests := true, laidLooks := .later }
def FnAgainReadShareGroupStateSummaryResponseUptoCardSaid : Prop := Claim7.holds Tryz.pinned (.plain (OpenSpec.upto fnAgainReadShareGroupStateSummaryResponseSpec)) fnAgainReadShareGroupStateSummaryResponseUptoCard

/-- THE SECOND FORM's CARD OF 'laws.FnAgainAlterPartitionResponse'. -/
def fnAgainAlterPartitionResponseUptoCard : Claim7 := { stood := { row := fnAgainAlterPartitionResponseUptoRow, standIns := [], harness := (true, "8a00742f48a726a50ab177abd1828c4f28c76bf024548e8832098bf2a64c9fac"), looks := false }, kinds := [], alts := [], laidByText := true, laidKinds := [.sentinel], laidTests := true, laidLooks := .later }
def FnAgainAlterPartitionResponseUptoCardSaid : Prop := Claim7.holds Tryz.pinned (.plain (OpenSpec.upto fnAgainAlterPartitionResponseSpec)) fnAgainAlterPartitionResponseUptoCard

/-- THE SECOND FORM's CARD OF 'laws.FnAgainIncrementalAlterConfigsRequest'. -/
def fnAgainIncrementalAlterConfigsRequestUptoCard : Claim7 := { stood := { row := fnAgainIncrementalAlterConfigsRequestUptoRow, standIns := [], harness := (true, "8a00742f48a726a50ab177abd1828c4f28c76bf024548e8832098bf2a64c9fac"), looks := false }, kinds := [], alts := [], laidByText := true, laidKinds := [.sentinel], laidTests := true, laidLooks := .later }
def FnAgainIncrementalAlterConfigsRequestUptoCardSaid : Prop := Claim7.holds Tryz.pinned (.plain (OpenSpec.upto fnAgainIncrementalAlterConfigsRequestSpec)) fnAgainIncrementalAlterConfigsRequestUptoCard

/-- THE SECOND FORM's CARD OF 'laws.FnAgainVoteRequest'. -/
def fnAgainVoteRequestUptoCard : Claim7 := { stood := { row := fnAgainVoteRequestUptoRow, standIns := [], harness := (true, "8a00742f48a726a50ab177abd1828c4f28c76bf024548e8832098bf2a64c9fac"), looks := false }, kinds := [], alts := [], laidByText := true, laidKinds := [.sentinel], laidTests := true, laidLooks := .later }
def FnAgainVoteRequestUptoCardSaid : Prop := Claim7.holds Tryz.pinned (.plain (OpenSpec.upto fnAgainVoteRequestSpec)) fnAgainVoteRequestUptoCard

/-- THE SECOND FORM's CARD OF 'laws.FnAgainAddPartitionsToTxnRequest'. -/
def fnAgainAddPartitionsToTxnRequestUptoCard : Claim7 := { stood := { row := fnAgainAddPartitionsToTxnRequestUptoRow, standIns := [], harness := (true, "8a00742f48a726a50ab177abd1828c4f28c76bf024548e8832098bf2a64c9fac"), looks := false }, kinds := [], alts := [], laidByText := true, laidKinds := [.sentinel], laidTests := true, laidLooks := .later }
def FnAgainAddPartitionsToTxnRequestUptoCardSaid : Prop := Claim7.holds Tryz.pinned (.plain (OpenSpec.upto fnAgainAddPartitionsToTxnRequestSpec)) fnAgainAddPartitionsToTxnRequestUptoCard

/-- THE SECOND FORM's CARD OF 'laws.FnAgainDescribeConfigsResponse'. -/
def fnAgainDescribeConfigsResponseUptoCard : Claim7 := { stood := { row := fnAgainDescribeConfigsResponseUptoRow, standIns := [], harness := (true, "8a00742f48a726a50ab177abd1828c4f28c76bf024548e8832098bf2a64c9fac"), looks := false }, kinds := [], alts := [], laidByText := true, laidKinds := [.sentinel], laidTests := true, laidLooks := .later }
def FnAgainDescribeConfigsResponseUptoCardSaid : Prop := Claim7.holds Tryz.pinned (.plain (OpenSpec.upto fnAgainDescribeConfigsResponseSpec)) fnAgainDescribeConfigsResponseUptoCard
end Rows
end Go.Proofs.YteeggoipikjpiabGreatDoor
