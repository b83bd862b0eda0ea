/-
  DERIVED. GIVEN WITH THE SEED: THE CARDS: each row of YtlmelgjepdbakabDoorRows.lean that lists a variable, with what it lists TIED to the program's text (the seventh form; the later family's looks); each row that meets fmt, with fmt's text TOLD by the authors' own Lean function (tested against real Go, not proved from fmt's source: count such statements apart). THE CARD IS WHAT COUNTS. Prove the row's statement (the work); the ties are given (YtlmelgjepdbakabDoorTie.lean); close each card by the builder's one call (the guide's Derived/Test/ToyasCard.lean, 'card_holds'). Laid BY PROGRAM, IN A SANDBOX (cutbox-door.mjs). By AI agents, Wed Nov 11 2026. No macro, syntax, notation, axiom, sorry.
-/
import Derived.Test.YtlmelgjepdbakabDoorRows
import GoSem.ClaimSeven
namespace Go.Proofs.YtlmelgjepdbakabDoor
namespace Rows

/-- THE TIED CARD OF 'laws.FnAnyListTransactionsResponse'. -/
def fnAnyListTransactionsResponseCard : Claim7 := { stood := { row := fnAnyListTransactionsResponseRow, standIns := [], harness := (true, "ce15ce52f341aec75b4e0d82e9d45246a5f589bb28692d5f1d8f86f102fb6fcf"), looks := false }, kinds := [], alts := [], laidByText := true, laidKinds := [.sentinel], laidTests := true, laidLooks := .later }
def FnAnyListTransactionsResponseCardSaid : Prop := Claim7.holds Tryd.pinned (.plain (OpenSpec.ofChange fnAnyListTransactionsResponseSpec)) fnAnyListTransactionsResponseCard

/-- THE TIED CARD OF 'laws.FnAnyAlterConfigsRequest'. -/
def fnAnyAlterConfigsRequestCard : Claim7 := { stood := { row := fnAnyAlterConfigsRequestRow, standIns := [], harness := (true, "ce15ce52f341aec75b4e0d82e9d45246a5f589bb28692d5f1d8f86f102fb6fcf"), looks := false }, kinds := [], alts := [], laidByText := true, laidKinds := [.sentinel], laidTests := true, laidLooks := .later }
def FnAnyAlterConfigsRequestCardSaid : Prop := Claim7.holds Tryd.pinned (.plain (OpenSpec.ofChange fnAnyAlterConfigsRequestSpec)) fnAnyAlterConfigsRequestCard

/-- THE TIED CARD OF 'laws.FnAnyFindCoordinatorResponse'. -/
def fnAnyFindCoordinatorResponseCard : Claim7 := { stood := { row := fnAnyFindCoordinatorResponseRow, standIns := [], harness := (true, "ce15ce52f341aec75b4e0d82e9d45246a5f589bb28692d5f1d8f86f102fb6fcf"), looks := false }, kinds := [], alts := [], laidByText := true, laidKinds := [.sentinel], laidTests := true, laidLooks := .later }
def FnAnyFindCoordinatorResponseCardSaid : Prop := Claim7.holds Tryd.pinned (.plain (OpenSpec.ofChange fnAnyFindCoordinatorResponseSpec)) fnAnyFindCoordinatorResponseCard

/-- THE TIED CARD OF 'laws.FnAnyDescribeProducersResponse'. -/
def fnAnyDescribeProducersResponseCard : Claim7 := { stood := { row := fnAnyDescribeProducersResponseRow, standIns := [], harness := (true, "ce15ce52f341aec75b4e0d82e9d45246a5f589bb28692d5f1d8f86f102fb6fcf"), looks := false }, kinds := [], alts := [], laidByText := true, laidKinds := [.sentinel], laidTests := true, laidLooks := .later }
def FnAnyDescribeProducersResponseCardSaid : Prop := Claim7.holds Tryd.pinned (.plain (OpenSpec.ofChange fnAnyDescribeProducersResponseSpec)) fnAnyDescribeProducersResponseCard

/-- THE TIED CARD OF 'laws.FnAnyDeleteACLsResponse'. -/
def fnAnyDeleteACLsResponseCard : Claim7 := { stood := { row := fnAnyDeleteACLsResponseRow, standIns := [], harness := (true, "ce15ce52f341aec75b4e0d82e9d45246a5f589bb28692d5f1d8f86f102fb6fcf"), looks := false }, kinds := [], alts := [], laidByText := true, laidKinds := [.sentinel], laidTests := true, laidLooks := .later }
def FnAnyDeleteACLsResponseCardSaid : Prop := Claim7.holds Tryd.pinned (.plain (OpenSpec.ofChange fnAnyDeleteACLsResponseSpec)) fnAnyDeleteACLsResponseCard

/-- THE TIED CARD OF 'laws.FnAnyApiVersionsResponse'. -/
def fnAnyApiVersionsResponseCard : Claim7 := { stood := { row := fnAnyApiVersionsResponseRow, standIns := [], harness := (true, "ce15ce52f341aec75b4e0d82e9d45246a5f589bb28692d5f1d8f86f102fb6fcf"), looks := false }, kinds := [], alts := [], laidByText := true, laidKinds := [.sentinel], laidTests := true, laidLooks := .later }
def FnAnyApiVersionsResponseCardSaid : Prop := Claim7.holds Tryd.pinned (.plain (OpenSpec.ofChange fnAnyApiVersionsResponseSpec)) fnAnyApiVersionsResponseCard

/-- THE TIED CARD OF 'laws.FnAnyEndQuorumEpochRequest'. -/
def fnAnyEndQuorumEpochRequestCard : Claim7 := { stood := { row := fnAnyEndQuorumEpochRequestRow, standIns := [], harness := (true, "ce15ce52f341aec75b4e0d82e9d45246a5f589bb28692d5f1d8f86f102fb6fcf"), looks := false }, kinds := [], alts := [], laidByText := true, laidKinds := [.sentinel], laidTests := true, laidLooks := .later }
def FnAnyEndQuorumEpochRequestCardSaid : Prop := Claim7.holds Tryd.pinned (.plain (OpenSpec.ofChange fnAnyEndQuorumEpochRequestSpec)) fnAnyEndQuorumEpochRequestCard

/-- THE SECOND FORM's CARD OF 'laws.FnAnyListTransactionsResponse'. -/
def fnAnyListTransactionsResponseUptoCard : Claim7 := { stood := { row := fnAnyListTransactionsResponseUptoRow, standIns := [], harness := (true, "ce15ce52f341aec75b4e0d82e9d45246a5f589bb28692d5f1d8f86f102fb6fcf"), looks := false }, kinds := [], alts := [], laidByText := true, laidKinds := [.sentinel], laidTests := true, laidLooks := .later }
def FnAnyListTransactionsResponseUptoCardSaid : Prop := Claim7.holds Tryd.pinned (.plain (OpenSpec.upto fnAnyListTransactionsResponseSpec)) fnAnyListTransactionsResponseUptoCard

/-- THE SECOND FORM's CARD OF 'laws.FnAnyAlterConfigsRequest'. -/
def fnAnyAlterConfigsRequestUptoCard : Claim7 := { stood := { row := fnAnyAlterConfigsRequestUptoRow, standIns := [], harness := (true, "ce15ce52f341aec75b4e0d82e9d45246a5f589bb28692d5f1d8f86f102fb6fcf"), looks := false }, kinds := [], alts := [], laidByText := true, laidKinds := [.sentinel], laidTests := true, laidLooks := .later }
def FnAnyAlterConfigsRequestUptoCardSaid : Prop := Claim7.holds Tryd.pinned (.plain (OpenSpec.upto fnAnyAlterConfigsRequestSpec)) fnAnyAlterConfigsRequestUptoCard

/-- THE SECOND FORM's CARD OF 'laws.FnAnyFindCoordinatorResponse'. -/
def fnAnyFindCoordinatorResponseUptoCard : Claim7 := { stood := { row := fnAnyFindCoordinatorResponseUptoRow, standIns := [], harness := (true, "ce15ce52f341aec75b4e0d82e9d45246a5f589bb28692d5f1d8f86f102fb6fcf"), looks := false }, kinds := [], alts := [], laidByText := true, laidKinds := [.sentinel], laidTests := true, laidLooks := .later }
def FnAnyFindCoordinatorResponseUptoCardSaid : Prop := Claim7.holds Tryd.pinned (.plain (OpenSpec.upto fnAnyFindCoordinatorResponseSpec)) fnAnyFindCoordinatorResponseUptoCard

/-- THE SECOND FORM's CARD OF 'laws.FnAnyDescribeProducersResponse'. -/
def fnAnyDescribeProducersResponseUptoCard : Claim7 := { stood := { row := fnAnyDescribeProducersResponseUptoRow, standIns := [], harness := (true, "ce15ce52f341aec75b4e0d82e9d45246a5f589bb28692d5f1d8f86f102fb6fcf"), looks := false }, kinds := [], alts := [], laidByText := true, laidKinds := [.sentinel], laidTests := true, laidLooks := .later }
def FnAnyDescribeProducersResponseUptoCardSaid : Prop := Claim7.holds Tryd.pinned (.plain (OpenSpec.upto fnAnyDescribeProducersResponseSpec)) fnAnyDescribeProducersResponseUptoCard

/-- THE SECOND FORM's CARD OF 'laws.FnAnyDeleteACLsResponse'. -/
def fnAnyDeleteACLsResponseUptoCard : Claim7 := { stood := { row := fnAnyDeleteACLsResponseUptoRow, standIns := [], harness := (true, "ce15ce52f341aec75b4e0d82e9d45246a5f589bb28692d5f1d8f86f102fb6fcf"), looks := false }, kinds := [], alts := [], laidByText := true, laidKinds := [.sentinel], laidTests := true, laidLooks := .later }
def FnAnyDeleteACLsResponseUptoCardSaid : Prop := Claim7.holds Tryd.pinned (.plain (OpenSpec.upto fnAnyDeleteACLsResponseSpec)) fnAnyDeleteACLsResponseUptoCard

/-- THE SECOND FORM's CARD OF 'laws.FnAnyApiVersionsResponse'. -/
def fnAnyApiVersionsResponseUptoCard : Claim7 := { stood := { row := fnAnyApiVersionsResponseUptoRow, standIns := [], harness := (true, "ce15ce52f341aec75b4e0d82e9d45246a5f589bb28692d5f1d8f86f102fb6fcf"), looks := false }, kinds := [], alts := [], laidByText := true, laidKinds := [.sentinel], laidTests := true, laidLooks := .later }
def FnAnyApiVersionsResponseUptoCardSaid : Prop := Claim7.holds Tryd.pinned (.plain (OpenSpec.upto fnAnyApiVersionsResponseSpec)) fnAnyApiVersionsResponseUptoCard

/-- THE SECOND FORM's CARD OF 'laws.FnAnyEndQuorumEpochRequest'. -/
def fnAnyEndQuorumEpochRequestUptoCard : Claim7 := { stood := { row := fnAnyEndQuorumEpochRequestUptoRow, standIns := [], harness := (true, "ce15ce52f341aec75b4e0d82e9d45246a5f589bb28692d5f1d8f86f102fb6fcf"), looks := false }, kinds := [], alts := [], laidByText := true, laidKinds := [.sentinel], laidTests := true, laidLooks := .later }
def FnAnyEndQuorumEpochRequestUptoCardSaid : Prop := Claim7.holds Tryd.pinned (.plain (OpenSpec.upto fnAnyEndQuorumEpochRequestSpec)) fnAnyEndQuorumEpochRequestUptoCard
end Rows
end Go.Proofs.YtlmelgjepdbakabDoor
