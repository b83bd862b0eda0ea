/-
  DERIVED. GIVEN WITH THE SEED: THE CARDS: each row of YthcpchmmpnakaaaGreatDoorRows.lean that lists a variable, with what it lists TIED to the program's text (the seventh form; the later family's looks); each row that meets fmt, with fmt's text TOLD by the authors' own Lean function (tested against real Go, not proved from fmt's source: count such statements apart). THE CARD IS WHAT COUNTS. Prove the row's statement (the work); the ties are given (YthcpchmmpnakaaaGreatDoorTie.lean); close each card by the builder's one call (the guide's Derived/Test/ToyasCard.lean, 'card_holds'). Laid BY PROGRAM, IN A SANDBOX (cutbox-door.mjs). By AI agents, Wed Nov 11 2026. No macro, syntax, notation, axiom, sorry.
-/
import Derived.Test.YthcpchmmpnakaaaGreatDoorRows
import GoSem.ClaimSeven
namespace Go.Proofs.YthcpchmmpnakaaaGreatDoor
namespace Rows

/-- THE TIED CARD OF 'laws.FnAgainDescribeConfigsResponse'. -/
def fnAgainDescribeConfigsResponseCard : Claim7 := { stood := { row := fnAgainDescribeConfigsResponseRow, standIns := [], harness := (true, "f3a00e48762d0d7641c6191b7a48968fdadcbb1c6de44303a3b5ef7c7d2c2f78"), looks := false }, kinds := [], alts := [], laidByText := true, laidKinds := [.sentinel], laidTests := true, laidLooks := .later }
def FnAgainDescribeConfigsResponseCardSaid : Prop := Claim7.holds Tryz.pinned (.plain (OpenSpec.ofChange fnAgainDescribeConfigsResponseSpec)) fnAgainDescribeConfigsResponseCard

/-- THE SECOND FORM's CARD OF 'laws.FnAgainDescribeConfigsResponse'. -/
def fnAgainDescribeConfigsResponseUptoCard : Claim7 := { stood := { row := fnAgainDescribeConfigsResponseUptoRow, standIns := [], harness := (true, "f3a00e48762d0d7641c6191b7a48968fdadcbb1c6de44303a3b5ef7c7d2c2f78"), looks := false }, kinds := [], alts := [], laidByText := true, laidKinds := [.sentinel], laidTests := true, laidLooks := .later }
def FnAgainDescribeConfigsResponseUptoCardSaid : Prop := Claim7.holds Tryz.pinned (.plain (OpenSpec.upto fnAgainDescribeConfigsResponseSpec)) fnAgainDescribeConfigsResponseUptoCard
end Rows
end Go.Proofs.YthcpchmmpnakaaaGreatDoor
