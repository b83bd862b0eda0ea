/-
  DERIVED. GIVEN WITH THE SEED: THE CARDS: each row of YteeggoipikjpiaaGreatDoorRows.lean that lists a variable, with what it lists TIED to the program's text (the seventh form; the later family's looks); each row that meets fmt, with fmt's text TOLD by the authors' own Lean function (tested against real Go, not proved from fmt's source: count such statements apart). THE CARD IS WHAT COUNTS. Prove the row's statement (the work); the ties are given (YteeggoipikjpiaaGreatDoorTie.lean); close each card by the builder's one call (the guide's Derived/Test/ToyasCard.lean, 'card_holds'). Laid BY PROGRAM, IN A SANDBOX (cutbox-door.mjs). By AI agents, Wed Nov 11 2026. No macro, syntax, notation, axiom, sorry.
-/
import Derived.Test.YteeggoipikjpiaaGreatDoorRows
import GoSem.ClaimSeven
namespace Go.Proofs.YteeggoipikjpiaaGreatDoor
namespace Rows

/-- THE TIED CARD OF 'laws.FnAgainShareGroupDescribeRequest'. -/
def fnAgainShareGroupDescribeRequestCard : Claim7 := { stood := { row := fnAgainShareGroupDescribeRequestRow, standIns := [], harness := (true, "c4c3ec1b91e6bd1acd72295025248f08a9dbc34ecefc609d3391f2db6464e1dc"), looks := false }, kinds := [], alts := [], laidByText := true, laidKinds := [.sentinel], laidTests := true, laidLooks := .later }
def FnAgainShareGroupDescribeRequestCardSaid : Prop := Claim7.holds Tryz.pinned (.plain (OpenSpec.ofChange fnAgainShareGroupDescribeRequestSpec)) fnAgainShareGroupDescribeRequestCard

/-- THE TIED CARD OF 'laws.FnAgainDeleteShareGroupOffsetsRequest'. -/
def fnAgainDeleteShareGroupOffsetsRequestCard : Claim7 := { stood := { row := fnAgainDeleteShareGroupOffsetsRequestRow, standIns := [], harness := (true, "c4c3ec1b91e6bd1acd72295025248f08a9dbc34ecefc609d3391f2db6464e1dc"), looks := false }, kinds := [], alts := [], laidByText := true, laidKinds := [.sentinel], laidTests := true, laidLooks := .later }
def FnAgainDeleteShareGroupOffsetsRequestCardSaid : Prop := Claim7.holds Tryz.pinned (.plain (OpenSpec.ofChange fnAgainDeleteShareGroupOffsetsRequestSpec)) fnAgainDeleteShareGroupOffsetsRequestCard

/-- THE TIED CARD OF 'laws.FnAgainListConfigResourcesResponse'. -/
def fnAgainListConfigResourcesResponseCard : Claim7 := { stood := { row := fnAgainListConfigResourcesResponseRow, standIns := [], harness := (true, "c4c3ec1b91e6bd1acd72295025248f08a9dbc34ecefc609d3391f2db6464e1dc"), looks := false }, kinds := [], alts := [], laidByText := true, laidKinds := [.sentinel], laidTests := true, laidLooks := .later }
def FnAgainListConfigResourcesResponseCardSaid : Prop := Claim7.holds Tryz.pinned (.plain (OpenSpec.ofChange fnAgainListConfigResourcesResponseSpec)) fnAgainListConfigResourcesResponseCard

/-- THE TIED CARD OF 'laws.FnAgainSyncGroupResponse'. -/
def fnAgainSyncGroupResponseCard : Claim7 := { stood := { row := fnAgainSyncGroupResponseRow, standIns := [], harness := (true, "c4c3ec1b91e6bd1acd72295025248f08a9dbc34ecefc609d3391f2db6464e1dc"), looks := false }, kinds := [], alts := [], laidByText := true, laidKinds := [.sentinel], laidTests := true, laidLooks := .later }
def FnAgainSyncGroupResponseCardSaid : Prop := Claim7.holds Tryz.pinned (.plain (OpenSpec.ofChange fnAgainSyncGroupResponseSpec)) fnAgainSyncGroupResponseCard

/-- THE TIED CARD OF 'laws.FnAgainCreateACLsResponse'. -/
def fnAgainCreateACLsResponseCard : Claim7 := { stood := { row := fnAgainCreateACLsResponseRow, standIns := [], harness := (true, "c4c3ec1b91e6bd1acd72295025248f08a9dbc34ecefc609d3391f2db6464e1dc"), looks := false }, kinds := [], alts := [], laidByText := true, laidKinds := [.sentinel], laidTests := true, laidLooks := .later }
def FnAgainCreateACLsResponseCardSaid : Prop := Claim7.holds Tryz.pinned (.plain (OpenSpec.ofChange fnAgainCreateACLsResponseSpec)) fnAgainCreateACLsResponseCard

/-- THE TIED CARD OF 'laws.FnAgainDescribeTopicPartitionsRequest'. -/
def fnAgainDescribeTopicPartitionsRequestCard : Claim7 := { stood := { row := fnAgainDescribeTopicPartitionsRequestRow, standIns := [], harness := (true, "c4c3ec1b91e6bd1acd72295025248f08a9dbc34ecefc609d3391f2db6464e1dc"), looks := false }, kinds := [], alts := [], laidByText := true, laidKinds := [.sentinel], laidTests := true, laidLooks := .later }
def FnAgainDescribeTopicPartitionsRequestCardSaid : Prop := Claim7.holds Tryz.pinned (.plain (OpenSpec.ofChange fnAgainDescribeTopicPartitionsRequestSpec)) fnAgainDescribeTopicPartitionsRequestCard

/-- THE TIED CARD OF 'laws.FnAgainBrokerHeartbeatRequest'. -/
def fnAgainBrokerHeartbeatRequestCard : Claim7 := { stood := { row := fnAgainBrokerHeartbeatRequestRow, standIns := [], harness := (true, "c4c3ec1b91e6bd1acd72295025248f08a9dbc34ecefc609d3391f2db6464e1dc"), looks := false }, kinds := [], alts := [], laidByText := true, laidKinds := [.sentinel], laidTests := true, laidLooks := .later }
def FnAgainBrokerHeartbeatRequestCardSaid : Prop := Claim7.holds Tryz.pinned (.plain (OpenSpec.ofChange fnAgainBrokerHeartbeatRequestSpec)) fnAgainBrokerHeartbeatRequestCard

/-- THE SECOND FORM's CARD OF 'laws.FnAgainShareGroupDescribeRequest'. -/
def fnAgainShareGroupDescribeRequestUptoCard : Claim7 := { stood := { row := fnAgainShareGroupDescribeRequestUptoRow, standIns := [], harness := (true, "c4c3ec1b91e6bd1acd72295025248f08a9dbc34ecefc609d3391f2db6464e1dc"), looks := false }, kinds := [], alts := [], laidByText := true, laidKinds := [.sentinel], laidTests := true, laidLooks := .later }
def FnAgainShareGroupDescribeRequestUptoCardSaid : Prop := Claim7.holds Tryz.pinned (.plain (OpenSpec.upto fnAgainShareGroupDescribeRequestSpec)) fnAgainShareGroupDescribeRequestUptoCard

/-- THE SECOND FORM's CARD OF 'laws.FnAgainDeleteShareGroupOffsetsRequest'. -/
def fnAgainDeleteShareGroupOffsetsRequestUptoCard : Claim7 := { stood := { row := fnAgainDeleteShareGroupOffsetsRequestUptoRow, standIns := [], harness := (true, "c4c3ec1b91e6bd1acd72295025248f08a9dbc34ecefc609d3391f2db6464e1dc"), looks := false }, kinds := [], alts := [], laidByText := true, laidKinds := [.sentinel], laidTests := true, laidLooks := .later }
def FnAgainDeleteShareGroupOffsetsRequestUptoCardSaid : Prop := Claim7.holds Tryz.pinned (.plain (OpenSpec.upto fnAgainDeleteShareGroupOffsetsRequestSpec)) fnAgainDeleteShareGroupOffsetsRequestUptoCard

/-- THE SECOND FORM's CARD OF 'laws.FnAgainListConfigResourcesResponse'. -/
def fnAgainListConfigResourcesResponseUptoCard : Claim7 := { stood := { row := fnAgainListConfigResourcesResponseUptoRow, standIns := [], harness := (true, "c4c3ec1b91e6bd1acd72295025248f08a9dbc34ecefc609d3391f2db6464e1dc"), looks := false }, kinds := [], alts := [], laidByText := true, laidKinds := [.sentinel], laidTests := true, laidLooks := .later }
def FnAgainListConfigResourcesResponseUptoCardSaid : Prop := Claim7.holds Tryz.pinned (.plain (OpenSpec.upto fnAgainListConfigResourcesResponseSpec)) fnAgainListConfigResourcesResponseUptoCard

/-- THE SECOND FORM's CARD OF 'laws.FnAgainSyncGroupResponse'. -/
def fnAgainSyncGroupResponseUptoCard : Claim7 := { stood := { row := fnAgainSyncGroupResponseUptoRow, standIns := [], harness := (true, "c4c3ec1b91e6bd1acd72295025248f08a9dbc34ecefc609d3391f2db6464e1dc"), looks := false }, kinds := [], alts := [], laidByText := true, laidKinds := [.sentinel], laidTests := true, laidLooks := .later }
def FnAgainSyncGroupResponseUptoCardSaid : Prop := Claim7.holds Tryz.pinned (.plain (OpenSpec.upto fnAgainSyncGroupResponseSpec)) fnAgainSyncGroupResponseUptoCard

/-- THE SECOND FORM's CARD OF 'laws.FnAgainCreateACLsResponse'. -/
def fnAgainCreateACLsResponseUptoCard : Claim7 := { stood := { row := fnAgainCreateACLsResponseUptoRow, standIns := [], harness := (true, "c4c3ec1b91e6bd1acd72295025248f08a9dbc34ecefc609d3391f2db6464e1dc"), looks := false }, kinds := [], alts := [], laidByText := true, laidKinds := [.sentinel], laidTests := true, laidLooks := .later }
def FnAgainCreateACLsResponseUptoCardSaid : Prop := Claim7.holds Tryz.pinned (.plain (OpenSpec.upto fnAgainCreateACLsResponseSpec)) fnAgainCreateACLsResponseUptoCard

/-- THE SECOND FORM's CARD OF 'laws.FnAgainDescribeTopicPartitionsRequest'. -/
def fnAgainDescribeTopicPartitionsRequestUptoCard : Claim7 := { stood := { row := fnAgainDescribeTopicPartitionsRequestUptoRow, standIns := [], harness := (true, "c4c3ec1b91e6bd1acd72295025248f08a9dbc34ecefc609d3391f2db6464e1dc"), looks := false }, kinds := [], alts := [], laidByText := true, laidKinds := [.sentinel], laidTests := true, laidLooks := .later }
def FnAgainDescribeTopicPartitionsRequestUptoCardSaid : Prop := Claim7.holds Tryz.pinned (.plain (OpenSpec.upto fnAgainDescribeTopicPartitionsRequestSpec)) fnAgainDescribeTopicPartitionsRequestUptoCard

/-- THE SECOND FORM's CARD OF 'laws.FnAgainBrokerHeartbeatRequest'. -/
def fnAgainBrokerHeartbeatRequestUptoCard : Claim7 := { stood := { row := fnAgainBrokerHeartbeatRequestUptoRow, standIns := [], harness := (true, "c4c3ec1b91e6bd1acd72295025248f08a9dbc34ecefc609d3391f2db6464e1dc"), looks := false }, kinds := [], alts := [], laidByText := true, laidKinds := [.sentinel], laidTests := true, laidLooks := .later }
def FnAgainBrokerHeartbeatRequestUptoCardSaid : Prop := Claim7.holds Tryz.pinned (.plain (OpenSpec.upto fnAgainBrokerHeartbeatRequestSpec)) fnAgainBrokerHeartbeatRequestUptoCard
end Rows
end Go.Proofs.YteeggoipikjpiaaGreatDoor
