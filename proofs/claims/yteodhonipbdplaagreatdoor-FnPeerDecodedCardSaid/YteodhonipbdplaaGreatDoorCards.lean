/-
  DERIVED. GIVEN WITH THE SEED: THE CARDS: each row of YteodhonipbdplaaGreatDoorRows.lean that lists a variable, with what it lists TIED to the program's text (the seventh form; the later family's looks); each row that meets fmt, with fmt's text TOLD by the authors' own Lean function (tested against real Go, not proved from fmt's source: count such statements apart). THE CARD IS WHAT COUNTS. Prove the row's statement (the work); the ties are given (YteodhonipbdplaaGreatDoorTie.lean); close each card by the builder's one call (the guide's Derived/Test/ToyasCard.lean, 'card_holds'). Laid BY PROGRAM, IN A SANDBOX (cutbox-door.mjs). By AI agents, Wed Nov 11 2026. No macro, syntax, notation, axiom, sorry.
-/
import Derived.Test.YteodhonipbdplaaGreatDoorRows
import GoSem.ClaimSeven
namespace Go.Proofs.YteodhonipbdplaaGreatDoor
namespace Rows

/-- THE TOLD AND TIED CARD OF 'laws.FnPeerCid'. -/
def fnPeerCidCard : Claim7 := { stood := { row := fnPeerCidRow, standIns := [], harness := (true, "613ea39819062a78fb4f13a75d3a619fcbdd7bdab79ee593b2f62d425b8ac6fc"), looks := true }, told := true, laidByText := true, laidKinds := [.sentinel, .sentinel, .sentinel, .data, .data, .sentinel, .sentinel, .sentinel, .sentinel], laidTests := true, laidLooks := .later, goes := false }
def FnPeerCidToldSaid : Prop := Claim7.holds Tryz.pinned (.plain (OpenSpec.ofChange fnPeerCidSpec)) fnPeerCidCard
/-- ITS FALSE NEIGHBOUR. Refute it at one input. -/
def FnPeerCidToldWrongFalsely : Prop := Claim7.holds Tryz.pinned (.plain (OpenSpec.ofChange fnPeerCidWrong)) fnPeerCidCard

/-- THE TIED CARD OF 'laws.FnPeerBases'. -/
def fnPeerBasesCard : Claim7 := { stood := { row := fnPeerBasesRow, standIns := [], harness := (true, "613ea39819062a78fb4f13a75d3a619fcbdd7bdab79ee593b2f62d425b8ac6fc"), looks := true }, kinds := [], alts := [], laidByText := true, laidKinds := [.data, .data, .data, .data, .sentinel, .sentinel, .sentinel, .sentinel, .sentinel, .sentinel, .data, .sentinel, .sentinel, .sentinel, .sentinel, .sentinel, .sentinel, .pinned], laidTests := true, laidLooks := .later }
def FnPeerBasesCardSaid : Prop := Claim7.holds Tryz.pinned (.plain (OpenSpec.ofChange fnPeerBasesSpec)) fnPeerBasesCard

/-- THE TIED CARD OF 'laws.FnPeerDecoded'. -/
def fnPeerDecodedCard : Claim7 := { stood := { row := fnPeerDecodedRow, standIns := [], harness := (true, "613ea39819062a78fb4f13a75d3a619fcbdd7bdab79ee593b2f62d425b8ac6fc"), looks := true }, kinds := [], alts := [], laidByText := true, laidKinds := [.data, .data, .data, .data, .sentinel, .sentinel, .sentinel, .sentinel, .sentinel, .sentinel, .data, .sentinel, .sentinel, .sentinel, .sentinel, .sentinel, .sentinel, .pinned], laidTests := true, laidLooks := .later }
def FnPeerDecodedCardSaid : Prop := Claim7.holds Tryz.pinned (.plain (OpenSpec.ofChange fnPeerDecodedSpec)) fnPeerDecodedCard

/-- THE TIED CARD OF 'laws.FnPeerForms'. -/
def fnPeerFormsCard : Claim7 := { stood := { row := fnPeerFormsRow, standIns := [], harness := (true, "613ea39819062a78fb4f13a75d3a619fcbdd7bdab79ee593b2f62d425b8ac6fc"), looks := true }, kinds := [], alts := [], laidByText := true, laidKinds := [.data, .data, .data, .data, .sentinel, .sentinel, .sentinel, .sentinel, .sentinel, .sentinel, .data, .sentinel, .sentinel, .sentinel, .sentinel, .sentinel, .sentinel, .sentinel, .pinned], laidTests := true, laidLooks := .later }
def FnPeerFormsCardSaid : Prop := Claim7.holds Tryz.pinned (.plain (OpenSpec.ofChange fnPeerFormsSpec)) fnPeerFormsCard

/-- THE SECOND FORM's CARD OF 'laws.FnPeerBases'. -/
def fnPeerBasesUptoCard : Claim7 := { stood := { row := fnPeerBasesUptoRow, standIns := [], harness := (true, "613ea39819062a78fb4f13a75d3a619fcbdd7bdab79ee593b2f62d425b8ac6fc"), looks := true }, kinds := [], alts := [], laidByText := true, laidKinds := [.data, .data, .data, .data, .sentinel, .sentinel, .sentinel, .sentinel, .sentinel, .sentinel, .data, .sentinel, .sentinel, .sentinel, .sentinel, .sentinel, .sentinel, .pinned], laidTests := true, laidLooks := .later }
def FnPeerBasesUptoCardSaid : Prop := Claim7.holds Tryz.pinned (.plain (OpenSpec.upto fnPeerBasesSpec)) fnPeerBasesUptoCard

/-- THE SECOND FORM's CARD OF 'laws.FnPeerDecoded'. -/
def fnPeerDecodedUptoCard : Claim7 := { stood := { row := fnPeerDecodedUptoRow, standIns := [], harness := (true, "613ea39819062a78fb4f13a75d3a619fcbdd7bdab79ee593b2f62d425b8ac6fc"), looks := true }, kinds := [], alts := [], laidByText := true, laidKinds := [.data, .data, .data, .data, .sentinel, .sentinel, .sentinel, .sentinel, .sentinel, .sentinel, .data, .sentinel, .sentinel, .sentinel, .sentinel, .sentinel, .sentinel, .pinned], laidTests := true, laidLooks := .later }
def FnPeerDecodedUptoCardSaid : Prop := Claim7.holds Tryz.pinned (.plain (OpenSpec.upto fnPeerDecodedSpec)) fnPeerDecodedUptoCard

/-- THE SECOND FORM's CARD OF 'laws.FnPeerForms'. -/
def fnPeerFormsUptoCard : Claim7 := { stood := { row := fnPeerFormsUptoRow, standIns := [], harness := (true, "613ea39819062a78fb4f13a75d3a619fcbdd7bdab79ee593b2f62d425b8ac6fc"), looks := true }, kinds := [], alts := [], laidByText := true, laidKinds := [.data, .data, .data, .data, .sentinel, .sentinel, .sentinel, .sentinel, .sentinel, .sentinel, .data, .sentinel, .sentinel, .sentinel, .sentinel, .sentinel, .sentinel, .sentinel, .pinned], laidTests := true, laidLooks := .later }
def FnPeerFormsUptoCardSaid : Prop := Claim7.holds Tryz.pinned (.plain (OpenSpec.upto fnPeerFormsSpec)) fnPeerFormsUptoCard
end Rows
end Go.Proofs.YteodhonipbdplaaGreatDoor
