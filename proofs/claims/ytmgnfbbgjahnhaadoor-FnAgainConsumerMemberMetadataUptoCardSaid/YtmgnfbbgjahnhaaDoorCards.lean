/-
  DERIVED. GIVEN WITH THE SEED: THE CARDS: each row of YtmgnfbbgjahnhaaDoorRows.lean that lists a variable, with what it lists TIED to the program's text (the seventh form; the later family's looks); each row that meets fmt, with fmt's text TOLD by the authors' own Lean function (tested against real Go, not proved from fmt's source: count such statements apart). THE CARD IS WHAT COUNTS. Prove the row's statement (the work); the ties are given (YtmgnfbbgjahnhaaDoorTie.lean); close each card by the builder's one call (the guide's Derived/Test/ToyasCard.lean, 'card_holds'). Laid BY PROGRAM, IN A SANDBOX (cutbox-door.mjs). By AI agents, Wed Nov 11 2026. No macro, syntax, notation, axiom, sorry.
-/
import Derived.Test.YtmgnfbbgjahnhaaDoorRows
import GoSem.ClaimSeven
namespace Go.Proofs.YtmgnfbbgjahnhaaDoor
namespace Rows

/-- THE TIED CARD OF 'laws.FnCutGroupMetadataKey'. -/
def fnCutGroupMetadataKeyCard : Claim7 := { stood := { row := fnCutGroupMetadataKeyRow, standIns := [], harness := (true, "c6c63bfe32d6beae6fdf6e3123c34952ebb3a8ae862ef0d25337079fd270830f"), looks := false }, kinds := [], alts := [], laidByText := true, laidKinds := [.sentinel], laidTests := true, laidLooks := .later }
def FnCutGroupMetadataKeyCardSaid : Prop := Claim7.holds Tryd.pinned (.plain (OpenSpec.ofChange fnCutGroupMetadataKeySpec)) fnCutGroupMetadataKeyCard

/-- THE TIED CARD OF 'laws.FnAnySASLHandshakeResponse'. -/
def fnAnySASLHandshakeResponseCard : Claim7 := { stood := { row := fnAnySASLHandshakeResponseRow, standIns := [], harness := (true, "c6c63bfe32d6beae6fdf6e3123c34952ebb3a8ae862ef0d25337079fd270830f"), looks := false }, kinds := [], alts := [], laidByText := true, laidKinds := [.sentinel], laidTests := true, laidLooks := .later }
def FnAnySASLHandshakeResponseCardSaid : Prop := Claim7.holds Tryd.pinned (.plain (OpenSpec.ofChange fnAnySASLHandshakeResponseSpec)) fnAnySASLHandshakeResponseCard

/-- THE TIED CARD OF 'laws.FnAgainOffsetDeleteRequest'. -/
def fnAgainOffsetDeleteRequestCard : Claim7 := { stood := { row := fnAgainOffsetDeleteRequestRow, standIns := [], harness := (true, "c6c63bfe32d6beae6fdf6e3123c34952ebb3a8ae862ef0d25337079fd270830f"), looks := false }, kinds := [], alts := [], laidByText := true, laidKinds := [.sentinel], laidTests := true, laidLooks := .later }
def FnAgainOffsetDeleteRequestCardSaid : Prop := Claim7.holds Tryd.pinned (.plain (OpenSpec.ofChange fnAgainOffsetDeleteRequestSpec)) fnAgainOffsetDeleteRequestCard

/-- THE TIED CARD OF 'laws.FnAgainConsumerMemberMetadata'. -/
def fnAgainConsumerMemberMetadataCard : Claim7 := { stood := { row := fnAgainConsumerMemberMetadataRow, standIns := [], harness := (true, "c6c63bfe32d6beae6fdf6e3123c34952ebb3a8ae862ef0d25337079fd270830f"), looks := false }, kinds := [], alts := [], laidByText := true, laidKinds := [.sentinel], laidTests := true, laidLooks := .later }
def FnAgainConsumerMemberMetadataCardSaid : Prop := Claim7.holds Tryd.pinned (.plain (OpenSpec.ofChange fnAgainConsumerMemberMetadataSpec)) fnAgainConsumerMemberMetadataCard

/-- THE SECOND FORM's CARD OF 'laws.FnCutGroupMetadataKey'. -/
def fnCutGroupMetadataKeyUptoCard : Claim7 := { stood := { row := fnCutGroupMetadataKeyUptoRow, standIns := [], harness := (true, "c6c63bfe32d6beae6fdf6e3123c34952ebb3a8ae862ef0d25337079fd270830f"), looks := false }, kinds := [], alts := [], laidByText := true, laidKinds := [.sentinel], laidTests := true, laidLooks := .later }
def FnCutGroupMetadataKeyUptoCardSaid : Prop := Claim7.holds Tryd.pinned (.plain (OpenSpec.upto fnCutGroupMetadataKeySpec)) fnCutGroupMetadataKeyUptoCard

/-- THE SECOND FORM's CARD OF 'laws.FnAnySASLHandshakeResponse'. -/
def fnAnySASLHandshakeResponseUptoCard : Claim7 := { stood := { row := fnAnySASLHandshakeResponseUptoRow, standIns := [], harness := (true, "c6c63bfe32d6beae6fdf6e3123c34952ebb3a8ae862ef0d25337079fd270830f"), looks := false }, kinds := [], alts := [], laidByText := true, laidKinds := [.sentinel], laidTests := true, laidLooks := .later }
def FnAnySASLHandshakeResponseUptoCardSaid : Prop := Claim7.holds Tryd.pinned (.plain (OpenSpec.upto fnAnySASLHandshakeResponseSpec)) fnAnySASLHandshakeResponseUptoCard

/-- THE SECOND FORM's CARD OF 'laws.FnAgainOffsetDeleteRequest'. -/
def fnAgainOffsetDeleteRequestUptoCard : Claim7 := { stood := { row := fnAgainOffsetDeleteRequestUptoRow, standIns := [], harness := (true, "c6c63bfe32d6beae6fdf6e3123c34952ebb3a8ae862ef0d25337079fd270830f"), looks := false }, kinds := [], alts := [], laidByText := true, laidKinds := [.sentinel], laidTests := true, laidLooks := .later }
def FnAgainOffsetDeleteRequestUptoCardSaid : Prop := Claim7.holds Tryd.pinned (.plain (OpenSpec.upto fnAgainOffsetDeleteRequestSpec)) fnAgainOffsetDeleteRequestUptoCard

/-- THE SECOND FORM's CARD OF 'laws.FnAgainConsumerMemberMetadata'. -/
def fnAgainConsumerMemberMetadataUptoCard : Claim7 := { stood := { row := fnAgainConsumerMemberMetadataUptoRow, standIns := [], harness := (true, "c6c63bfe32d6beae6fdf6e3123c34952ebb3a8ae862ef0d25337079fd270830f"), looks := false }, kinds := [], alts := [], laidByText := true, laidKinds := [.sentinel], laidTests := true, laidLooks := .later }
def FnAgainConsumerMemberMetadataUptoCardSaid : Prop := Claim7.holds Tryd.pinned (.plain (OpenSpec.upto fnAgainConsumerMemberMetadataSpec)) fnAgainConsumerMemberMetadataUptoCard
end Rows
end Go.Proofs.YtmgnfbbgjahnhaaDoor
