/-
  DERIVED. GIVEN WITH THE SEED: THE CARDS: each row of YtcefcdmonfenoaaDoorRows.lean that lists a variable, with what it lists TIED to the program's text (the seventh form; the later family's looks); each row that meets fmt, with fmt's text TOLD by the authors' own Lean function (tested against real Go, not proved from fmt's source: count such statements apart). THE CARD IS WHAT COUNTS. Prove the row's statement (the work); the ties are given (YtcefcdmonfenoaaDoorTie.lean); close each card by the builder's one call (the guide's Derived/Test/ToyasCard.lean, 'card_holds'). Laid BY PROGRAM, IN A SANDBOX (cutbox-door.mjs). By AI agents, Wed Nov 11 2026. No macro, syntax, notation, axiom, sorry.
-/
import Derived.Test.YtcefcdmonfenoaaDoorRows
import GoSem.ClaimSeven
namespace Go.Proofs.YtcefcdmonfenoaaDoor
namespace Rows

/-- THE TIED CARD OF 'laws.FnPeerTorn'. -/
def fnPeerTornCard : Claim7 := { stood := { row := fnPeerTornRow, standIns := [], harness := (true, "bb96b937d59a47cfc6801d7b50419fa9ebef8e98c4de66ff8b0c869ba360b234"), looks := false }, kinds := [], alts := [], laidByText := true, laidKinds := [.sentinel, .sentinel, .sentinel, .sentinel, .sentinel, .sentinel], laidTests := true, laidLooks := .later }
def FnPeerTornCardSaid : Prop := Claim7.holds Tryd.pinned (.plain (OpenSpec.ofChange fnPeerTornSpec)) fnPeerTornCard

/-- THE TIED CARD OF 'laws.FnPeerShortApart'. -/
def fnPeerShortApartCard : Claim7 := { stood := { row := fnPeerShortApartRow, standIns := [], harness := (true, "bb96b937d59a47cfc6801d7b50419fa9ebef8e98c4de66ff8b0c869ba360b234"), looks := false }, kinds := [], alts := [], laidByText := true, laidKinds := [.sentinel, .sentinel, .sentinel, .sentinel, .sentinel, .sentinel], laidTests := true, laidLooks := .later }
def FnPeerShortApartCardSaid : Prop := Claim7.holds Tryd.pinned (.plain (OpenSpec.ofChange fnPeerShortApartSpec)) fnPeerShortApartCard

/-- THE TIED CARD OF 'laws.FnKeyApart'. -/
def fnKeyApartCard : Claim7 := { stood := { row := fnKeyApartRow, standIns := [], harness := (true, "bb96b937d59a47cfc6801d7b50419fa9ebef8e98c4de66ff8b0c869ba360b234"), looks := false }, kinds := [], alts := [], laidByText := true, laidKinds := [.sentinel, .sentinel, .sentinel, .sentinel, .sentinel, .sentinel, .sentinel, .sentinel], laidTests := true, laidLooks := .later }
def FnKeyApartCardSaid : Prop := Claim7.holds Tryd.pinned (.plain (OpenSpec.ofChange fnKeyApartSpec)) fnKeyApartCard

/-- THE TIED CARD OF 'laws.FnKeyHalf'. -/
def fnKeyHalfCard : Claim7 := { stood := { row := fnKeyHalfRow, standIns := [], harness := (true, "bb96b937d59a47cfc6801d7b50419fa9ebef8e98c4de66ff8b0c869ba360b234"), looks := false }, kinds := [], alts := [], laidByText := true, laidKinds := [.sentinel, .sentinel, .sentinel, .sentinel, .sentinel, .sentinel, .sentinel, .sentinel], laidTests := true, laidLooks := .later }
def FnKeyHalfCardSaid : Prop := Claim7.holds Tryd.pinned (.plain (OpenSpec.ofChange fnKeyHalfSpec)) fnKeyHalfCard

/-- THE TIED CARD OF 'laws.FnKeyWires'. -/
def fnKeyWiresCard : Claim7 := { stood := { row := fnKeyWiresRow, standIns := [], harness := (true, "bb96b937d59a47cfc6801d7b50419fa9ebef8e98c4de66ff8b0c869ba360b234"), looks := false }, kinds := [], alts := [], laidByText := true, laidKinds := [.sentinel, .sentinel, .sentinel, .sentinel, .sentinel, .sentinel, .sentinel, .sentinel], laidTests := true, laidLooks := .later }
def FnKeyWiresCardSaid : Prop := Claim7.holds Tryd.pinned (.plain (OpenSpec.ofChange fnKeyWiresSpec)) fnKeyWiresCard

/-- THE TIED CARD OF 'laws.FnKeyRecordApart'. -/
def fnKeyRecordApartCard : Claim7 := { stood := { row := fnKeyRecordApartRow, standIns := [], harness := (true, "bb96b937d59a47cfc6801d7b50419fa9ebef8e98c4de66ff8b0c869ba360b234"), looks := false }, kinds := [], alts := [], laidByText := true, laidKinds := [.sentinel, .sentinel, .sentinel, .sentinel, .sentinel, .sentinel, .sentinel], laidTests := true, laidLooks := .later }
def FnKeyRecordApartCardSaid : Prop := Claim7.holds Tryd.pinned (.plain (OpenSpec.ofChange fnKeyRecordApartSpec)) fnKeyRecordApartCard

/-- THE TIED CARD OF 'laws.FnKeyTorn'. -/
def fnKeyTornCard : Claim7 := { stood := { row := fnKeyTornRow, standIns := [], harness := (true, "bb96b937d59a47cfc6801d7b50419fa9ebef8e98c4de66ff8b0c869ba360b234"), looks := false }, kinds := [], alts := [], laidByText := true, laidKinds := [.sentinel, .sentinel, .sentinel, .sentinel, .sentinel, .sentinel, .sentinel, .sentinel], laidTests := true, laidLooks := .later }
def FnKeyTornCardSaid : Prop := Claim7.holds Tryd.pinned (.plain (OpenSpec.ofChange fnKeyTornSpec)) fnKeyTornCard

/-- THE TIED CARD OF 'laws.FnKeyWritten'. -/
def fnKeyWrittenCard : Claim7 := { stood := { row := fnKeyWrittenRow, standIns := [], harness := (true, "bb96b937d59a47cfc6801d7b50419fa9ebef8e98c4de66ff8b0c869ba360b234"), looks := false }, kinds := [], alts := [], laidByText := true, laidKinds := [.sentinel, .sentinel, .sentinel, .sentinel, .sentinel, .sentinel, .sentinel, .sentinel], laidTests := true, laidLooks := .later }
def FnKeyWrittenCardSaid : Prop := Claim7.holds Tryd.pinned (.plain (OpenSpec.ofChange fnKeyWrittenSpec)) fnKeyWrittenCard

/-- THE TIED CARD OF 'laws.FnKeyAddressLast'. -/
def fnKeyAddressLastCard : Claim7 := { stood := { row := fnKeyAddressLastRow, standIns := [], harness := (true, "bb96b937d59a47cfc6801d7b50419fa9ebef8e98c4de66ff8b0c869ba360b234"), looks := false }, kinds := [], alts := [], laidByText := true, laidKinds := [.sentinel, .sentinel, .sentinel, .sentinel, .sentinel, .sentinel, .sentinel], laidTests := true, laidLooks := .later }
def FnKeyAddressLastCardSaid : Prop := Claim7.holds Tryd.pinned (.plain (OpenSpec.ofChange fnKeyAddressLastSpec)) fnKeyAddressLastCard

/-- THE TIED CARD OF 'laws.FnKeyRecord'. -/
def fnKeyRecordCard : Claim7 := { stood := { row := fnKeyRecordRow, standIns := [], harness := (true, "bb96b937d59a47cfc6801d7b50419fa9ebef8e98c4de66ff8b0c869ba360b234"), looks := false }, kinds := [], alts := [], laidByText := true, laidKinds := [.sentinel, .sentinel, .sentinel, .sentinel, .sentinel, .sentinel, .sentinel], laidTests := true, laidLooks := .later }
def FnKeyRecordCardSaid : Prop := Claim7.holds Tryd.pinned (.plain (OpenSpec.ofChange fnKeyRecordSpec)) fnKeyRecordCard

/-- THE TIED CARD OF 'laws.FnKeyRecordJoined'. -/
def fnKeyRecordJoinedCard : Claim7 := { stood := { row := fnKeyRecordJoinedRow, standIns := [], harness := (true, "bb96b937d59a47cfc6801d7b50419fa9ebef8e98c4de66ff8b0c869ba360b234"), looks := false }, kinds := [], alts := [], laidByText := true, laidKinds := [.sentinel, .sentinel, .sentinel, .sentinel, .sentinel, .sentinel, .sentinel], laidTests := true, laidLooks := .later }
def FnKeyRecordJoinedCardSaid : Prop := Claim7.holds Tryd.pinned (.plain (OpenSpec.ofChange fnKeyRecordJoinedSpec)) fnKeyRecordJoinedCard

/-- THE TIED CARD OF 'laws.FnKeyRecordOrder'. -/
def fnKeyRecordOrderCard : Claim7 := { stood := { row := fnKeyRecordOrderRow, standIns := [], harness := (true, "bb96b937d59a47cfc6801d7b50419fa9ebef8e98c4de66ff8b0c869ba360b234"), looks := false }, kinds := [], alts := [], laidByText := true, laidKinds := [.sentinel, .sentinel, .sentinel, .sentinel, .sentinel, .sentinel, .sentinel], laidTests := true, laidLooks := .later }
def FnKeyRecordOrderCardSaid : Prop := Claim7.holds Tryd.pinned (.plain (OpenSpec.ofChange fnKeyRecordOrderSpec)) fnKeyRecordOrderCard

/-- THE TIED CARD OF 'laws.FnKeyEnvelopeApart'. -/
def fnKeyEnvelopeApartCard : Claim7 := { stood := { row := fnKeyEnvelopeApartRow, standIns := [], harness := (true, "bb96b937d59a47cfc6801d7b50419fa9ebef8e98c4de66ff8b0c869ba360b234"), looks := false }, kinds := [], alts := [], laidByText := true, laidKinds := [.sentinel, .sentinel, .sentinel, .sentinel, .sentinel, .sentinel, .sentinel, .sentinel, .sentinel], laidTests := true, laidLooks := .later }
def FnKeyEnvelopeApartCardSaid : Prop := Claim7.holds Tryd.pinned (.plain (OpenSpec.ofChange fnKeyEnvelopeApartSpec)) fnKeyEnvelopeApartCard

/-- THE TIED CARD OF 'laws.FnKeyLong'. -/
def fnKeyLongCard : Claim7 := { stood := { row := fnKeyLongRow, standIns := [], harness := (true, "bb96b937d59a47cfc6801d7b50419fa9ebef8e98c4de66ff8b0c869ba360b234"), looks := false }, kinds := [], alts := [], laidByText := true, laidKinds := [.sentinel, .sentinel, .sentinel, .sentinel, .sentinel, .sentinel, .sentinel, .sentinel], laidTests := true, laidLooks := .later }
def FnKeyLongCardSaid : Prop := Claim7.holds Tryd.pinned (.plain (OpenSpec.ofChange fnKeyLongSpec)) fnKeyLongCard

/-- THE TIED CARD OF 'laws.FnKeyEnvelope'. -/
def fnKeyEnvelopeCard : Claim7 := { stood := { row := fnKeyEnvelopeRow, standIns := [], harness := (true, "bb96b937d59a47cfc6801d7b50419fa9ebef8e98c4de66ff8b0c869ba360b234"), looks := false }, kinds := [], alts := [], laidByText := true, laidKinds := [.sentinel, .sentinel, .sentinel, .sentinel, .sentinel, .sentinel, .sentinel, .sentinel, .sentinel], laidTests := true, laidLooks := .later }
def FnKeyEnvelopeCardSaid : Prop := Claim7.holds Tryd.pinned (.plain (OpenSpec.ofChange fnKeyEnvelopeSpec)) fnKeyEnvelopeCard

/-- THE TIED CARD OF 'laws.FnKeyEnvelopeKey'. -/
def fnKeyEnvelopeKeyCard : Claim7 := { stood := { row := fnKeyEnvelopeKeyRow, standIns := [], harness := (true, "bb96b937d59a47cfc6801d7b50419fa9ebef8e98c4de66ff8b0c869ba360b234"), looks := false }, kinds := [], alts := [], laidByText := true, laidKinds := [.sentinel, .sentinel, .sentinel, .sentinel, .sentinel, .sentinel, .sentinel, .sentinel, .sentinel], laidTests := true, laidLooks := .later }
def FnKeyEnvelopeKeyCardSaid : Prop := Claim7.holds Tryd.pinned (.plain (OpenSpec.ofChange fnKeyEnvelopeKeySpec)) fnKeyEnvelopeKeyCard

/-- THE TIED CARD OF 'laws.FnKeyEnvelopeTorn'. -/
def fnKeyEnvelopeTornCard : Claim7 := { stood := { row := fnKeyEnvelopeTornRow, standIns := [], harness := (true, "bb96b937d59a47cfc6801d7b50419fa9ebef8e98c4de66ff8b0c869ba360b234"), looks := false }, kinds := [], alts := [], laidByText := true, laidKinds := [.sentinel, .sentinel, .sentinel, .sentinel, .sentinel, .sentinel, .sentinel, .sentinel, .sentinel], laidTests := true, laidLooks := .later }
def FnKeyEnvelopeTornCardSaid : Prop := Claim7.holds Tryd.pinned (.plain (OpenSpec.ofChange fnKeyEnvelopeTornSpec)) fnKeyEnvelopeTornCard

/-- THE SECOND FORM's CARD OF 'laws.FnPeerTorn'. -/
def fnPeerTornUptoCard : Claim7 := { stood := { row := fnPeerTornUptoRow, standIns := [], harness := (true, "bb96b937d59a47cfc6801d7b50419fa9ebef8e98c4de66ff8b0c869ba360b234"), looks := false }, kinds := [], alts := [], laidByText := true, laidKinds := [.sentinel, .sentinel, .sentinel, .sentinel, .sentinel, .sentinel], laidTests := true, laidLooks := .later }
def FnPeerTornUptoCardSaid : Prop := Claim7.holds Tryd.pinned (.plain (OpenSpec.upto fnPeerTornSpec)) fnPeerTornUptoCard

/-- THE SECOND FORM's CARD OF 'laws.FnPeerShortApart'. -/
def fnPeerShortApartUptoCard : Claim7 := { stood := { row := fnPeerShortApartUptoRow, standIns := [], harness := (true, "bb96b937d59a47cfc6801d7b50419fa9ebef8e98c4de66ff8b0c869ba360b234"), looks := false }, kinds := [], alts := [], laidByText := true, laidKinds := [.sentinel, .sentinel, .sentinel, .sentinel, .sentinel, .sentinel], laidTests := true, laidLooks := .later }
def FnPeerShortApartUptoCardSaid : Prop := Claim7.holds Tryd.pinned (.plain (OpenSpec.upto fnPeerShortApartSpec)) fnPeerShortApartUptoCard

/-- THE SECOND FORM's CARD OF 'laws.FnKeyApart'. -/
def fnKeyApartUptoCard : Claim7 := { stood := { row := fnKeyApartUptoRow, standIns := [], harness := (true, "bb96b937d59a47cfc6801d7b50419fa9ebef8e98c4de66ff8b0c869ba360b234"), looks := false }, kinds := [], alts := [], laidByText := true, laidKinds := [.sentinel, .sentinel, .sentinel, .sentinel, .sentinel, .sentinel, .sentinel, .sentinel], laidTests := true, laidLooks := .later }
def FnKeyApartUptoCardSaid : Prop := Claim7.holds Tryd.pinned (.plain (OpenSpec.upto fnKeyApartSpec)) fnKeyApartUptoCard

/-- THE SECOND FORM's CARD OF 'laws.FnKeyHalf'. -/
def fnKeyHalfUptoCard : Claim7 := { stood := { row := fnKeyHalfUptoRow, standIns := [], harness := (true, "bb96b937d59a47cfc6801d7b50419fa9ebef8e98c4de66ff8b0c869ba360b234"), looks := false }, kinds := [], alts := [], laidByText := true, laidKinds := [.sentinel, .sentinel, .sentinel, .sentinel, .sentinel, .sentinel, .sentinel, .sentinel], laidTests := true, laidLooks := .later }
def FnKeyHalfUptoCardSaid : Prop := Claim7.holds Tryd.pinned (.plain (OpenSpec.upto fnKeyHalfSpec)) fnKeyHalfUptoCard

/-- THE SECOND FORM's CARD OF 'laws.FnKeyWires'. -/
def fnKeyWiresUptoCard : Claim7 := { stood := { row := fnKeyWiresUptoRow, standIns := [], harness := (true, "bb96b937d59a47cfc6801d7b50419fa9ebef8e98c4de66ff8b0c869ba360b234"), looks := false }, kinds := [], alts := [], laidByText := true, laidKinds := [.sentinel, .sentinel, .sentinel, .sentinel, .sentinel, .sentinel, .sentinel, .sentinel], laidTests := true, laidLooks := .later }
def FnKeyWiresUptoCardSaid : Prop := Claim7.holds Tryd.pinned (.plain (OpenSpec.upto fnKeyWiresSpec)) fnKeyWiresUptoCard

/-- THE SECOND FORM's CARD OF 'laws.FnKeyRecordApart'. -/
def fnKeyRecordApartUptoCard : Claim7 := { stood := { row := fnKeyRecordApartUptoRow, standIns := [], harness := (true, "bb96b937d59a47cfc6801d7b50419fa9ebef8e98c4de66ff8b0c869ba360b234"), looks := false }, kinds := [], alts := [], laidByText := true, laidKinds := [.sentinel, .sentinel, .sentinel, .sentinel, .sentinel, .sentinel, .sentinel], laidTests := true, laidLooks := .later }
def FnKeyRecordApartUptoCardSaid : Prop := Claim7.holds Tryd.pinned (.plain (OpenSpec.upto fnKeyRecordApartSpec)) fnKeyRecordApartUptoCard

/-- THE SECOND FORM's CARD OF 'laws.FnKeyTorn'. -/
def fnKeyTornUptoCard : Claim7 := { stood := { row := fnKeyTornUptoRow, standIns := [], harness := (true, "bb96b937d59a47cfc6801d7b50419fa9ebef8e98c4de66ff8b0c869ba360b234"), looks := false }, kinds := [], alts := [], laidByText := true, laidKinds := [.sentinel, .sentinel, .sentinel, .sentinel, .sentinel, .sentinel, .sentinel, .sentinel], laidTests := true, laidLooks := .later }
def FnKeyTornUptoCardSaid : Prop := Claim7.holds Tryd.pinned (.plain (OpenSpec.upto fnKeyTornSpec)) fnKeyTornUptoCard

/-- THE SECOND FORM's CARD OF 'laws.FnKeyWritten'. -/
def fnKeyWrittenUptoCard : Claim7 := { stood := { row := fnKeyWrittenUptoRow, standIns := [], harness := (true, "bb96b937d59a47cfc6801d7b50419fa9ebef8e98c4de66ff8b0c869ba360b234"), looks := false }, kinds := [], alts := [], laidByText := true, laidKinds := [.sentinel, .sentinel, .sentinel, .sentinel, .sentinel, .sentinel, .sentinel, .sentinel], laidTests := true, laidLooks := .later }
def FnKeyWrittenUptoCardSaid : Prop := Claim7.holds Tryd.pinned (.plain (OpenSpec.upto fnKeyWrittenSpec)) fnKeyWrittenUptoCard

/-- THE SECOND FORM's CARD OF 'laws.FnKeyAddressLast'. -/
def fnKeyAddressLastUptoCard : Claim7 := { stood := { row := fnKeyAddressLastUptoRow, standIns := [], harness := (true, "bb96b937d59a47cfc6801d7b50419fa9ebef8e98c4de66ff8b0c869ba360b234"), looks := false }, kinds := [], alts := [], laidByText := true, laidKinds := [.sentinel, .sentinel, .sentinel, .sentinel, .sentinel, .sentinel, .sentinel], laidTests := true, laidLooks := .later }
def FnKeyAddressLastUptoCardSaid : Prop := Claim7.holds Tryd.pinned (.plain (OpenSpec.upto fnKeyAddressLastSpec)) fnKeyAddressLastUptoCard

/-- THE SECOND FORM's CARD OF 'laws.FnKeyRecord'. -/
def fnKeyRecordUptoCard : Claim7 := { stood := { row := fnKeyRecordUptoRow, standIns := [], harness := (true, "bb96b937d59a47cfc6801d7b50419fa9ebef8e98c4de66ff8b0c869ba360b234"), looks := false }, kinds := [], alts := [], laidByText := true, laidKinds := [.sentinel, .sentinel, .sentinel, .sentinel, .sentinel, .sentinel, .sentinel], laidTests := true, laidLooks := .later }
def FnKeyRecordUptoCardSaid : Prop := Claim7.holds Tryd.pinned (.plain (OpenSpec.upto fnKeyRecordSpec)) fnKeyRecordUptoCard

/-- THE SECOND FORM's CARD OF 'laws.FnKeyRecordJoined'. -/
def fnKeyRecordJoinedUptoCard : Claim7 := { stood := { row := fnKeyRecordJoinedUptoRow, standIns := [], harness := (true, "bb96b937d59a47cfc6801d7b50419fa9ebef8e98c4de66ff8b0c869ba360b234"), looks := false }, kinds := [], alts := [], laidByText := true, laidKinds := [.sentinel, .sentinel, .sentinel, .sentinel, .sentinel, .sentinel, .sentinel], laidTests := true, laidLooks := .later }
def FnKeyRecordJoinedUptoCardSaid : Prop := Claim7.holds Tryd.pinned (.plain (OpenSpec.upto fnKeyRecordJoinedSpec)) fnKeyRecordJoinedUptoCard

/-- THE SECOND FORM's CARD OF 'laws.FnKeyRecordOrder'. -/
def fnKeyRecordOrderUptoCard : Claim7 := { stood := { row := fnKeyRecordOrderUptoRow, standIns := [], harness := (true, "bb96b937d59a47cfc6801d7b50419fa9ebef8e98c4de66ff8b0c869ba360b234"), looks := false }, kinds := [], alts := [], laidByText := true, laidKinds := [.sentinel, .sentinel, .sentinel, .sentinel, .sentinel, .sentinel, .sentinel], laidTests := true, laidLooks := .later }
def FnKeyRecordOrderUptoCardSaid : Prop := Claim7.holds Tryd.pinned (.plain (OpenSpec.upto fnKeyRecordOrderSpec)) fnKeyRecordOrderUptoCard

/-- THE SECOND FORM's CARD OF 'laws.FnKeyEnvelopeApart'. -/
def fnKeyEnvelopeApartUptoCard : Claim7 := { stood := { row := fnKeyEnvelopeApartUptoRow, standIns := [], harness := (true, "bb96b937d59a47cfc6801d7b50419fa9ebef8e98c4de66ff8b0c869ba360b234"), looks := false }, kinds := [], alts := [], laidByText := true, laidKinds := [.sentinel, .sentinel, .sentinel, .sentinel, .sentinel, .sentinel, .sentinel, .sentinel, .sentinel], laidTests := true, laidLooks := .later }
def FnKeyEnvelopeApartUptoCardSaid : Prop := Claim7.holds Tryd.pinned (.plain (OpenSpec.upto fnKeyEnvelopeApartSpec)) fnKeyEnvelopeApartUptoCard

/-- THE SECOND FORM's CARD OF 'laws.FnKeyLong'. -/
def fnKeyLongUptoCard : Claim7 := { stood := { row := fnKeyLongUptoRow, standIns := [], harness := (true, "bb96b937d59a47cfc6801d7b50419fa9ebef8e98c4de66ff8b0c869ba360b234"), looks := false }, kinds := [], alts := [], laidByText := true, laidKinds := [.sentinel, .sentinel, .sentinel, .sentinel, .sentinel, .sentinel, .sentinel, .sentinel], laidTests := true, laidLooks := .later }
def FnKeyLongUptoCardSaid : Prop := Claim7.holds Tryd.pinned (.plain (OpenSpec.upto fnKeyLongSpec)) fnKeyLongUptoCard

/-- THE SECOND FORM's CARD OF 'laws.FnKeyEnvelope'. -/
def fnKeyEnvelopeUptoCard : Claim7 := { stood := { row := fnKeyEnvelopeUptoRow, standIns := [], harness := (true, "bb96b937d59a47cfc6801d7b50419fa9ebef8e98c4de66ff8b0c869ba360b234"), looks := false }, kinds := [], alts := [], laidByText := true, laidKinds := [.sentinel, .sentinel, .sentinel, .sentinel, .sentinel, .sentinel, .sentinel, .sentinel, .sentinel], laidTests := true, laidLooks := .later }
def FnKeyEnvelopeUptoCardSaid : Prop := Claim7.holds Tryd.pinned (.plain (OpenSpec.upto fnKeyEnvelopeSpec)) fnKeyEnvelopeUptoCard

/-- THE SECOND FORM's CARD OF 'laws.FnKeyEnvelopeKey'. -/
def fnKeyEnvelopeKeyUptoCard : Claim7 := { stood := { row := fnKeyEnvelopeKeyUptoRow, standIns := [], harness := (true, "bb96b937d59a47cfc6801d7b50419fa9ebef8e98c4de66ff8b0c869ba360b234"), looks := false }, kinds := [], alts := [], laidByText := true, laidKinds := [.sentinel, .sentinel, .sentinel, .sentinel, .sentinel, .sentinel, .sentinel, .sentinel, .sentinel], laidTests := true, laidLooks := .later }
def FnKeyEnvelopeKeyUptoCardSaid : Prop := Claim7.holds Tryd.pinned (.plain (OpenSpec.upto fnKeyEnvelopeKeySpec)) fnKeyEnvelopeKeyUptoCard

/-- THE SECOND FORM's CARD OF 'laws.FnKeyEnvelopeTorn'. -/
def fnKeyEnvelopeTornUptoCard : Claim7 := { stood := { row := fnKeyEnvelopeTornUptoRow, standIns := [], harness := (true, "bb96b937d59a47cfc6801d7b50419fa9ebef8e98c4de66ff8b0c869ba360b234"), looks := false }, kinds := [], alts := [], laidByText := true, laidKinds := [.sentinel, .sentinel, .sentinel, .sentinel, .sentinel, .sentinel, .sentinel, .sentinel, .sentinel], laidTests := true, laidLooks := .later }
def FnKeyEnvelopeTornUptoCardSaid : Prop := Claim7.holds Tryd.pinned (.plain (OpenSpec.upto fnKeyEnvelopeTornSpec)) fnKeyEnvelopeTornUptoCard
end Rows
end Go.Proofs.YtcefcdmonfenoaaDoor
