/-
  DERIVED. GIVEN WITH THE SEED: THE CARDS: each row of YtkgelojkhmjhkaaDoorRows.lean that lists a variable, with what it lists TIED to the program's text (the seventh form; the later family's looks); each row that meets fmt, with fmt's text TOLD by the authors' own Lean function (tested against real Go, not proved from fmt's source: count such statements apart). THE CARD IS WHAT COUNTS. Prove the row's statement (the work); the ties are given (YtkgelojkhmjhkaaDoorTie.lean); close each card by the builder's one call (the guide's Derived/Test/ToyasCard.lean, 'card_holds'). Laid BY PROGRAM, IN A SANDBOX (cutbox-door.mjs). By AI agents, Wed Nov 11 2026. No macro, syntax, notation, axiom, sorry.
-/
import Derived.Test.YtkgelojkhmjhkaaDoorRows
import GoSem.ClaimSeven
namespace Go.Proofs.YtkgelojkhmjhkaaDoor
namespace Rows

/-- THE TIED CARD OF 'laws.FnAnyApiVersionsResponse'. -/
def fnAnyApiVersionsResponseCard : Claim7 := { stood := { row := fnAnyApiVersionsResponseRow, standIns := [], harness := (true, "7fd8ac50631231d84bc33bb827258443d47a7db9c51a706717e54f744d5d87b5"), looks := false }, kinds := [], alts := [], laidByText := true, laidKinds := [.sentinel], laidTests := true, laidLooks := .later }
def FnAnyApiVersionsResponseCardSaid : Prop := Claim7.holds Tryd.pinned (.plain (OpenSpec.ofChange fnAnyApiVersionsResponseSpec)) fnAnyApiVersionsResponseCard

/-- THE SECOND FORM's CARD OF 'laws.FnAnyApiVersionsResponse'. -/
def fnAnyApiVersionsResponseUptoCard : Claim7 := { stood := { row := fnAnyApiVersionsResponseUptoRow, standIns := [], harness := (true, "7fd8ac50631231d84bc33bb827258443d47a7db9c51a706717e54f744d5d87b5"), looks := false }, kinds := [], alts := [], laidByText := true, laidKinds := [.sentinel], laidTests := true, laidLooks := .later }
def FnAnyApiVersionsResponseUptoCardSaid : Prop := Claim7.holds Tryd.pinned (.plain (OpenSpec.upto fnAnyApiVersionsResponseSpec)) fnAnyApiVersionsResponseUptoCard
end Rows
end Go.Proofs.YtkgelojkhmjhkaaDoor
