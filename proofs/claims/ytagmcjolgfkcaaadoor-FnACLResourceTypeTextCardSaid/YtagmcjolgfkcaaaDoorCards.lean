/-
  DERIVED. GIVEN WITH THE SEED: THE CARDS: each row of YtagmcjolgfkcaaaDoorRows.lean that lists a variable, with what it lists TIED to the program's text (the seventh form; the later family's looks); each row that meets fmt, with fmt's text TOLD by the authors' own Lean function (tested against real Go, not proved from fmt's source: count such statements apart). THE CARD IS WHAT COUNTS. Prove the row's statement (the work); the ties are given (YtagmcjolgfkcaaaDoorTie.lean); close each card by the builder's one call (the guide's Derived/Test/ToyasCard.lean, 'card_holds'). Laid BY PROGRAM, IN A SANDBOX (cutbox-door.mjs). By AI agents, Wed Nov 11 2026. No macro, syntax, notation, axiom, sorry.
-/
import Derived.Test.YtagmcjolgfkcaaaDoorRows
import GoSem.ClaimSeven
namespace Go.Proofs.YtagmcjolgfkcaaaDoor
namespace Rows

/-- THE TIED CARD OF 'laws.FnParseConfigResourceType'. -/
def fnParseConfigResourceTypeCard : Claim7 := { stood := { row := fnParseConfigResourceTypeRow, standIns := [], harness := (true, "2f19caaa9d1344d75e40d88d4cb7ce8a6fb53bd5cd2ad5bc9d3d9b9a62d3c86b"), looks := false }, kinds := [], alts := [], laidByText := true, laidKinds := [.data, .listed, .data, .pinned, .pinned], laidTests := true, laidLooks := .later }
def FnParseConfigResourceTypeCardSaid : Prop := Claim7.holds Tryd.pinned (.plain (OpenSpec.ofChange fnParseConfigResourceTypeSpec)) fnParseConfigResourceTypeCard

/-- THE TIED CARD OF 'laws.FnACLResourceTypeText'. -/
def fnACLResourceTypeTextCard : Claim7 := { stood := { row := fnACLResourceTypeTextRow, standIns := [], harness := (true, "2f19caaa9d1344d75e40d88d4cb7ce8a6fb53bd5cd2ad5bc9d3d9b9a62d3c86b"), looks := false }, kinds := [], alts := [], laidByText := true, laidKinds := [.data, .listed, .data, .pinned, .pinned], laidTests := true, laidLooks := .later }
def FnACLResourceTypeTextCardSaid : Prop := Claim7.holds Tryd.pinned (.plain (OpenSpec.ofChange fnACLResourceTypeTextSpec)) fnACLResourceTypeTextCard

/-- THE SECOND FORM's CARD OF 'laws.FnParseConfigResourceType'. -/
def fnParseConfigResourceTypeUptoCard : Claim7 := { stood := { row := fnParseConfigResourceTypeUptoRow, standIns := [], harness := (true, "2f19caaa9d1344d75e40d88d4cb7ce8a6fb53bd5cd2ad5bc9d3d9b9a62d3c86b"), looks := false }, kinds := [], alts := [], laidByText := true, laidKinds := [.data, .listed, .data, .pinned, .pinned], laidTests := true, laidLooks := .later }
def FnParseConfigResourceTypeUptoCardSaid : Prop := Claim7.holds Tryd.pinned (.plain (OpenSpec.upto fnParseConfigResourceTypeSpec)) fnParseConfigResourceTypeUptoCard

/-- THE SECOND FORM's CARD OF 'laws.FnACLResourceTypeText'. -/
def fnACLResourceTypeTextUptoCard : Claim7 := { stood := { row := fnACLResourceTypeTextUptoRow, standIns := [], harness := (true, "2f19caaa9d1344d75e40d88d4cb7ce8a6fb53bd5cd2ad5bc9d3d9b9a62d3c86b"), looks := false }, kinds := [], alts := [], laidByText := true, laidKinds := [.data, .listed, .data, .pinned, .pinned], laidTests := true, laidLooks := .later }
def FnACLResourceTypeTextUptoCardSaid : Prop := Claim7.holds Tryd.pinned (.plain (OpenSpec.upto fnACLResourceTypeTextSpec)) fnACLResourceTypeTextUptoCard
end Rows
end Go.Proofs.YtagmcjolgfkcaaaDoor
