/-
  DERIVED. GIVEN WITH THE SEED: THE CARDS: each row of YteeggoipikjpiaaDoorRows.lean that lists a variable, with what it lists TIED to the program's text (the seventh form; the later family's looks); each row that meets fmt, with fmt's text TOLD by the authors' own Lean function (tested against real Go, not proved from fmt's source: count such statements apart). THE CARD IS WHAT COUNTS. Prove the row's statement (the work); the ties are given (YteeggoipikjpiaaDoorTie.lean); close each card by the builder's one call (the guide's Derived/Test/ToyasCard.lean, 'card_holds'). Laid BY PROGRAM, IN A SANDBOX (cutbox-door.mjs). By AI agents, Wed Nov 11 2026. No macro, syntax, notation, axiom, sorry.
-/
import Derived.Test.YteeggoipikjpiaaDoorRows
import GoSem.ClaimSeven
namespace Go.Proofs.YteeggoipikjpiaaDoor
namespace Rows

/-- THE TIED CARD OF 'laws.FnAgainEnvelopeResponse'. -/
def fnAgainEnvelopeResponseCard : Claim7 := { stood := { row := fnAgainEnvelopeResponseRow, standIns := [], harness := (true, "a40009af7ebcf73acdf950f7b00ec7800721f1fbd8dd76bd58f536a570f76171"), looks := false }, kinds := [], alts := [], laidByText := true, laidKinds := [.sentinel], laidTests := true, laidLooks := .later }
def FnAgainEnvelopeResponseCardSaid : Prop := Claim7.holds Tryd.pinned (.plain (OpenSpec.ofChange fnAgainEnvelopeResponseSpec)) fnAgainEnvelopeResponseCard

/-- THE SECOND FORM's CARD OF 'laws.FnAgainEnvelopeResponse'. -/
def fnAgainEnvelopeResponseUptoCard : Claim7 := { stood := { row := fnAgainEnvelopeResponseUptoRow, standIns := [], harness := (true, "a40009af7ebcf73acdf950f7b00ec7800721f1fbd8dd76bd58f536a570f76171"), looks := false }, kinds := [], alts := [], laidByText := true, laidKinds := [.sentinel], laidTests := true, laidLooks := .later }
def FnAgainEnvelopeResponseUptoCardSaid : Prop := Claim7.holds Tryd.pinned (.plain (OpenSpec.upto fnAgainEnvelopeResponseSpec)) fnAgainEnvelopeResponseUptoCard
end Rows
end Go.Proofs.YteeggoipikjpiaaDoor
