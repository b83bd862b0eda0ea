/-
  DERIVED. GIVEN WITH THE SEED: THE CARDS: each row of YtmhliehkbkanmaaDoorRows.lean that lists a variable, with what it lists TIED to the program's text (the seventh form; the later family's looks); each row that meets fmt, with fmt's text TOLD by the authors' own Lean function (tested against real Go, not proved from fmt's source: count such statements apart). THE CARD IS WHAT COUNTS. Prove the row's statement (the work); the ties are given (YtmhliehkbkanmaaDoorTie.lean); close each card by the builder's one call (the guide's Derived/Test/ToyasCard.lean, 'card_holds'). Laid BY PROGRAM, IN A SANDBOX (cutbox-door.mjs). By AI agents, Wed Nov 11 2026. No macro, syntax, notation, axiom, sorry.
-/
import Derived.Test.YtmhliehkbkanmaaDoorRows
import GoSem.ClaimSeven
namespace Go.Proofs.YtmhliehkbkanmaaDoor
namespace Rows

/-- THE TIED CARD OF 'laws.FnCutAllocateProducerIDsRequest'. -/
def fnCutAllocateProducerIDsRequestCard : Claim7 := { stood := { row := fnCutAllocateProducerIDsRequestRow, standIns := [], harness := (true, "c20b078373f5d2292f3107c990ba9a05b52a125a58a5b551f556a42005261f2e"), looks := false }, kinds := [], alts := [], laidByText := true, laidKinds := [.sentinel], laidTests := true, laidLooks := .later }
def FnCutAllocateProducerIDsRequestCardSaid : Prop := Claim7.holds Tryd.pinned (.plain (OpenSpec.ofChange fnCutAllocateProducerIDsRequestSpec)) fnCutAllocateProducerIDsRequestCard

/-- THE TIED CARD OF 'laws.FnCutRenewDelegationTokenResponse'. -/
def fnCutRenewDelegationTokenResponseCard : Claim7 := { stood := { row := fnCutRenewDelegationTokenResponseRow, standIns := [], harness := (true, "c20b078373f5d2292f3107c990ba9a05b52a125a58a5b551f556a42005261f2e"), looks := false }, kinds := [], alts := [], laidByText := true, laidKinds := [.sentinel], laidTests := true, laidLooks := .later }
def FnCutRenewDelegationTokenResponseCardSaid : Prop := Claim7.holds Tryd.pinned (.plain (OpenSpec.ofChange fnCutRenewDelegationTokenResponseSpec)) fnCutRenewDelegationTokenResponseCard

/-- THE SECOND FORM's CARD OF 'laws.FnCutAllocateProducerIDsRequest'. -/
def fnCutAllocateProducerIDsRequestUptoCard : Claim7 := { stood := { row := fnCutAllocateProducerIDsRequestUptoRow, standIns := [], harness := (true, "c20b078373f5d2292f3107c990ba9a05b52a125a58a5b551f556a42005261f2e"), looks := false }, kinds := [], alts := [], laidByText := true, laidKinds := [.sentinel], laidTests := true, laidLooks := .later }
def FnCutAllocateProducerIDsRequestUptoCardSaid : Prop := Claim7.holds Tryd.pinned (.plain (OpenSpec.upto fnCutAllocateProducerIDsRequestSpec)) fnCutAllocateProducerIDsRequestUptoCard

/-- THE SECOND FORM's CARD OF 'laws.FnCutRenewDelegationTokenResponse'. -/
def fnCutRenewDelegationTokenResponseUptoCard : Claim7 := { stood := { row := fnCutRenewDelegationTokenResponseUptoRow, standIns := [], harness := (true, "c20b078373f5d2292f3107c990ba9a05b52a125a58a5b551f556a42005261f2e"), looks := false }, kinds := [], alts := [], laidByText := true, laidKinds := [.sentinel], laidTests := true, laidLooks := .later }
def FnCutRenewDelegationTokenResponseUptoCardSaid : Prop := Claim7.holds Tryd.pinned (.plain (OpenSpec.upto fnCutRenewDelegationTokenResponseSpec)) fnCutRenewDelegationTokenResponseUptoCard
end Rows
end Go.Proofs.YtmhliehkbkanmaaDoor
