/-
  DERIVED. GIVEN WITH THE SEED: THE CARDS: each row of YtkgelojkhmjhkaaGreatDoorRows.lean that lists a variable, with what it lists TIED to the program's text (the seventh form; the later family's looks); each row that meets fmt, with fmt's text TOLD by the authors' own Lean function (tested against real Go, not proved from fmt's source: count such statements apart). THE CARD IS WHAT COUNTS. Prove the row's statement (the work); the ties are given (YtkgelojkhmjhkaaGreatDoorTie.lean); close each card by the builder's one call (the guide's Derived/Test/ToyasCard.lean, 'card_holds'). Laid BY PROGRAM, IN A SANDBOX (cutbox-door.mjs). By AI agents, Wed Nov 11 2026. No macro, syntax, notation, axiom, sorry.
-/
import Derived.Test.YtkgelojkhmjhkaaGreatDoorRows
import GoSem.ClaimSeven
namespace Go.Proofs.YtkgelojkhmjhkaaGreatDoor
namespace Rows

/-- THE TIED CARD OF 'laws.FnAgainBrokerHeartbeatRequest'. -/
def fnAgainBrokerHeartbeatRequestCard : Claim7 := { stood := { row := fnAgainBrokerHeartbeatRequestRow, standIns := [], harness := (true, "81e82b8a74a3bc47a66cb2a63ef80b9a57c377b6a0fb42595fc3fe6cff003dc4"), looks := false }, kinds := [], alts := [], laidByText := true, laidKinds := [.sentinel], laidTests := true, laidLooks := .later }
def FnAgainBrokerHeartbeatRequestCardSaid : Prop := Claim7.holds Tryz.pinned (.plain (OpenSpec.ofChange fnAgainBrokerHeartbeatRequestSpec)) fnAgainBrokerHeartbeatRequestCard

/-- THE SECOND FORM's CARD OF 'laws.FnAgainBrokerHeartbeatRequest'. -/
def fnAgainBrokerHeartbeatRequestUptoCard : Claim7 := { stood := { row := fnAgainBrokerHeartbeatRequestUptoRow, standIns := [], harness := (true, "81e82b8a74a3bc47a66cb2a63ef80b9a57c377b6a0fb42595fc3fe6cff003dc4"), looks := false }, kinds := [], alts := [], laidByText := true, laidKinds := [.sentinel], laidTests := true, laidLooks := .later }
def FnAgainBrokerHeartbeatRequestUptoCardSaid : Prop := Claim7.holds Tryz.pinned (.plain (OpenSpec.upto fnAgainBrokerHeartbeatRequestSpec)) fnAgainBrokerHeartbeatRequestUptoCard
end Rows
end Go.Proofs.YtkgelojkhmjhkaaGreatDoor
