/-
  DERIVED. GIVEN WITH THE SEED: THE CARDS: each row of YtmhliehkbkanmaaGreatDoorRows.lean that lists a variable, with what it lists TIED to the program's text (the seventh form; the later family's looks); each row that meets fmt, with fmt's text TOLD by the authors' own Lean function (tested against real Go, not proved from fmt's source: count such statements apart). THE CARD IS WHAT COUNTS. Prove the row's statement (the work); the ties are given (YtmhliehkbkanmaaGreatDoorTie.lean); close each card by the builder's one call (the guide's Derived/Test/ToyasCard.lean, 'card_holds'). Laid BY PROGRAM, IN A SANDBOX (cutbox-door.mjs). By AI agents, Wed Nov 11 2026. No macro, syntax, notation, axiom, sorry.
-/
import Derived.Test.YtmhliehkbkanmaaGreatDoorRows
import GoSem.ClaimSeven
namespace Go.Proofs.YtmhliehkbkanmaaGreatDoor
namespace Rows

/-- THE TIED CARD OF 'laws.FnCutUnregisterBrokerResponse'. -/
def fnCutUnregisterBrokerResponseCard : Claim7 := { stood := { row := fnCutUnregisterBrokerResponseRow, standIns := [], harness := (true, "e1e50e33ace6854707cbb80adce0f3f8a7b505666a02d99bd2e685569c6d1ef5"), looks := false }, kinds := [], alts := [], laidByText := true, laidKinds := [.sentinel], laidTests := true, laidLooks := .later }
def FnCutUnregisterBrokerResponseCardSaid : Prop := Claim7.holds Tryz.pinned (.plain (OpenSpec.ofChange fnCutUnregisterBrokerResponseSpec)) fnCutUnregisterBrokerResponseCard

/-- THE TIED CARD OF 'laws.FnCutConsumerGroupDescribeRequest'. -/
def fnCutConsumerGroupDescribeRequestCard : Claim7 := { stood := { row := fnCutConsumerGroupDescribeRequestRow, standIns := [], harness := (true, "e1e50e33ace6854707cbb80adce0f3f8a7b505666a02d99bd2e685569c6d1ef5"), looks := false }, kinds := [], alts := [], laidByText := true, laidKinds := [.sentinel], laidTests := true, laidLooks := .later }
def FnCutConsumerGroupDescribeRequestCardSaid : Prop := Claim7.holds Tryz.pinned (.plain (OpenSpec.ofChange fnCutConsumerGroupDescribeRequestSpec)) fnCutConsumerGroupDescribeRequestCard

/-- THE TIED CARD OF 'laws.FnCutDescribeUserSCRAMCredentialsRequest'. -/
def fnCutDescribeUserSCRAMCredentialsRequestCard : Claim7 := { stood := { row := fnCutDescribeUserSCRAMCredentialsRequestRow, standIns := [], harness := (true, "e1e50e33ace6854707cbb80adce0f3f8a7b505666a02d99bd2e685569c6d1ef5"), looks := false }, kinds := [], alts := [], laidByText := true, laidKinds := [.sentinel], laidTests := true, laidLooks := .later }
def FnCutDescribeUserSCRAMCredentialsRequestCardSaid : Prop := Claim7.holds Tryz.pinned (.plain (OpenSpec.ofChange fnCutDescribeUserSCRAMCredentialsRequestSpec)) fnCutDescribeUserSCRAMCredentialsRequestCard

/-- THE SECOND FORM's CARD OF 'laws.FnCutUnregisterBrokerResponse'. -/
def fnCutUnregisterBrokerResponseUptoCard : Claim7 := { stood := { row := fnCutUnregisterBrokerResponseUptoRow, standIns := [], harness := (true, "e1e50e33ace6854707cbb80adce0f3f8a7b505666a02d99bd2e685569c6d1ef5"), looks := false }, kinds := [], alts := [], laidByText := true, laidKinds := [.sentinel], laidTests := true, laidLooks := .later }
def FnCutUnregisterBrokerResponseUptoCardSaid : Prop := Claim7.holds Tryz.pinned (.plain (OpenSpec.upto fnCutUnregisterBrokerResponseSpec)) fnCutUnregisterBrokerResponseUptoCard

/-- THE SECOND FORM's CARD OF 'laws.FnCutConsumerGroupDescribeRequest'. -/
def fnCutConsumerGroupDescribeRequestUptoCard : Claim7 := { stood := { row := fnCutConsumerGroupDescribeRequestUptoRow, standIns := [], harness := (true, "e1e50e33ace6854707cbb80adce0f3f8a7b505666a02d99bd2e685569c6d1ef5"), looks := false }, kinds := [], alts := [], laidByText := true, laidKinds := [.sentinel], laidTests := true, laidLooks := .later }
def FnCutConsumerGroupDescribeRequestUptoCardSaid : Prop := Claim7.holds Tryz.pinned (.plain (OpenSpec.upto fnCutConsumerGroupDescribeRequestSpec)) fnCutConsumerGroupDescribeRequestUptoCard

/-- THE SECOND FORM's CARD OF 'laws.FnCutDescribeUserSCRAMCredentialsRequest'. -/
def fnCutDescribeUserSCRAMCredentialsRequestUptoCard : Claim7 := { stood := { row := fnCutDescribeUserSCRAMCredentialsRequestUptoRow, standIns := [], harness := (true, "e1e50e33ace6854707cbb80adce0f3f8a7b505666a02d99bd2e685569c6d1ef5"), looks := false }, kinds := [], alts := [], laidByText := true, laidKinds := [.sentinel], laidTests := true, laidLooks := .later }
def FnCutDescribeUserSCRAMCredentialsRequestUptoCardSaid : Prop := Claim7.holds Tryz.pinned (.plain (OpenSpec.upto fnCutDescribeUserSCRAMCredentialsRequestSpec)) fnCutDescribeUserSCRAMCredentialsRequestUptoCard
end Rows
end Go.Proofs.YtmhliehkbkanmaaGreatDoor
