/-
  DERIVED. GIVEN WITH THE SEED: THE CARDS: each row of YtolbjfphpmojcaaDoorRows.lean that lists a variable, with what it lists TIED to the program's text (the seventh form; the later family's looks); each row that meets fmt, with fmt's text TOLD by the authors' own Lean function (tested against real Go, not proved from fmt's source: count such statements apart). THE CARD IS WHAT COUNTS. Prove the row's statement (the work); the ties are given (YtolbjfphpmojcaaDoorTie.lean); close each card by the builder's one call (the guide's Derived/Test/ToyasCard.lean, 'card_holds'). Laid BY PROGRAM, IN A SANDBOX (cutbox-door.mjs). By AI agents, Wed Nov 11 2026. No macro, syntax, notation, axiom, sorry.
-/
import Derived.Test.YtolbjfphpmojcaaDoorRows
import GoSem.ClaimSeven
namespace Go.Proofs.YtolbjfphpmojcaaDoor
namespace Rows

/-- THE TIED CARD OF 'laws.FnAnyOffsetCommitValue'. -/
def fnAnyOffsetCommitValueCard : Claim7 := { stood := { row := fnAnyOffsetCommitValueRow, standIns := [], harness := (true, "610872fc9d3e05d344ff674bdd19e180f98e4c91a6115977a688f4e0cadccf2f"), looks := false }, kinds := [], alts := [], laidByText := true, laidKinds := [.sentinel], laidTests := true, laidLooks := .later }
def FnAnyOffsetCommitValueCardSaid : Prop := Claim7.holds Tryd.pinned (.plain (OpenSpec.ofChange fnAnyOffsetCommitValueSpec)) fnAnyOffsetCommitValueCard

/-- THE TIED CARD OF 'laws.FnAnyApiVersionsResponse'. -/
def fnAnyApiVersionsResponseCard : Claim7 := { stood := { row := fnAnyApiVersionsResponseRow, standIns := [], harness := (true, "610872fc9d3e05d344ff674bdd19e180f98e4c91a6115977a688f4e0cadccf2f"), looks := false }, kinds := [], alts := [], laidByText := true, laidKinds := [.sentinel], laidTests := true, laidLooks := .later }
def FnAnyApiVersionsResponseCardSaid : Prop := Claim7.holds Tryd.pinned (.plain (OpenSpec.ofChange fnAnyApiVersionsResponseSpec)) fnAnyApiVersionsResponseCard

/-- THE SECOND FORM's CARD OF 'laws.FnAnyOffsetCommitValue'. -/
def fnAnyOffsetCommitValueUptoCard : Claim7 := { stood := { row := fnAnyOffsetCommitValueUptoRow, standIns := [], harness := (true, "610872fc9d3e05d344ff674bdd19e180f98e4c91a6115977a688f4e0cadccf2f"), looks := false }, kinds := [], alts := [], laidByText := true, laidKinds := [.sentinel], laidTests := true, laidLooks := .later }
def FnAnyOffsetCommitValueUptoCardSaid : Prop := Claim7.holds Tryd.pinned (.plain (OpenSpec.upto fnAnyOffsetCommitValueSpec)) fnAnyOffsetCommitValueUptoCard

/-- THE SECOND FORM's CARD OF 'laws.FnAnyApiVersionsResponse'. -/
def fnAnyApiVersionsResponseUptoCard : Claim7 := { stood := { row := fnAnyApiVersionsResponseUptoRow, standIns := [], harness := (true, "610872fc9d3e05d344ff674bdd19e180f98e4c91a6115977a688f4e0cadccf2f"), looks := false }, kinds := [], alts := [], laidByText := true, laidKinds := [.sentinel], laidTests := true, laidLooks := .later }
def FnAnyApiVersionsResponseUptoCardSaid : Prop := Claim7.holds Tryd.pinned (.plain (OpenSpec.upto fnAnyApiVersionsResponseSpec)) fnAnyApiVersionsResponseUptoCard
end Rows
end Go.Proofs.YtolbjfphpmojcaaDoor
