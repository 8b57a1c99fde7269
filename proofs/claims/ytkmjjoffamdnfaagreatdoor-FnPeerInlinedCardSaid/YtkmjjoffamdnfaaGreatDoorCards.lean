/-
  DERIVED. GIVEN WITH THE SEED: THE CARDS: each row of YtkmjjoffamdnfaaGreatDoorRows.lean that lists a variable, with what it lists TIED to the program's text (the seventh form; the later family's looks); each row that meets fmt, with fmt's text TOLD by the authors' own Lean function (tested against real Go, not proved from fmt's source: count such statements apart). THE CARD IS WHAT COUNTS. Prove the row's statement (the work); the ties are given (YtkmjjoffamdnfaaGreatDoorTie.lean); close each card by the builder's one call (the guide's Derived/Test/ToyasCard.lean, 'card_holds'). Laid BY PROGRAM, IN A SANDBOX (cutbox-door.mjs). By AI agents, Wed Nov 11 2026. No macro, syntax, notation, axiom, sorry.
-/
import Derived.Test.YtkmjjoffamdnfaaGreatDoorRows
import GoSem.ClaimSeven
namespace Go.Proofs.YtkmjjoffamdnfaaGreatDoor
namespace Rows

/-- THE TIED CARD OF 'laws.FnPeerOfKey'. -/
def fnPeerOfKeyCard : Claim7 := { stood := { row := fnPeerOfKeyRow, standIns := [], harness := (true, "72e6a68d0cc949935e5aee5083f961e1149173a005c865ab94463c4878a424fd"), looks := false }, kinds := [], alts := [], laidByText := true, laidKinds := [.sentinel, .sentinel, .sentinel, .sentinel, .sentinel, .sentinel, .sentinel, .sentinel, .sentinel, .sentinel], laidTests := true, laidLooks := .later }
def FnPeerOfKeyCardSaid : Prop := Claim7.holds Tryz.pinned (.plain (OpenSpec.ofChange fnPeerOfKeySpec)) fnPeerOfKeyCard

/-- THE TIED CARD OF 'laws.FnPeerChain'. -/
def fnPeerChainCard : Claim7 := { stood := { row := fnPeerChainRow, standIns := [], harness := (true, "72e6a68d0cc949935e5aee5083f961e1149173a005c865ab94463c4878a424fd"), looks := false }, kinds := [], alts := [], laidByText := true, laidKinds := [.sentinel, .sentinel, .sentinel, .sentinel, .sentinel, .sentinel, .sentinel, .sentinel, .sentinel, .sentinel, .sentinel], laidTests := true, laidLooks := .later }
def FnPeerChainCardSaid : Prop := Claim7.holds Tryz.pinned (.plain (OpenSpec.ofChange fnPeerChainSpec)) fnPeerChainCard

/-- THE TIED CARD OF 'laws.FnPeerInlined'. -/
def fnPeerInlinedCard : Claim7 := { stood := { row := fnPeerInlinedRow, standIns := [], harness := (true, "72e6a68d0cc949935e5aee5083f961e1149173a005c865ab94463c4878a424fd"), looks := false }, kinds := [], alts := [], laidByText := true, laidKinds := [.sentinel, .sentinel, .sentinel, .sentinel, .sentinel, .sentinel, .sentinel, .sentinel, .sentinel, .sentinel, .sentinel, .sentinel, .sentinel, .sentinel, .sentinel, .sentinel, .sentinel], laidTests := true, laidLooks := .later }
def FnPeerInlinedCardSaid : Prop := Claim7.holds Tryz.pinned (.plain (OpenSpec.ofChange fnPeerInlinedSpec)) fnPeerInlinedCard

/-- THE SECOND FORM's CARD OF 'laws.FnPeerOfKey'. -/
def fnPeerOfKeyUptoCard : Claim7 := { stood := { row := fnPeerOfKeyUptoRow, standIns := [], harness := (true, "72e6a68d0cc949935e5aee5083f961e1149173a005c865ab94463c4878a424fd"), looks := false }, kinds := [], alts := [], laidByText := true, laidKinds := [.sentinel, .sentinel, .sentinel, .sentinel, .sentinel, .sentinel, .sentinel, .sentinel, .sentinel, .sentinel], laidTests := true, laidLooks := .later }
def FnPeerOfKeyUptoCardSaid : Prop := Claim7.holds Tryz.pinned (.plain (OpenSpec.upto fnPeerOfKeySpec)) fnPeerOfKeyUptoCard

/-- THE SECOND FORM's CARD OF 'laws.FnPeerChain'. -/
def fnPeerChainUptoCard : Claim7 := { stood := { row := fnPeerChainUptoRow, standIns := [], harness := (true, "72e6a68d0cc949935e5aee5083f961e1149173a005c865ab94463c4878a424fd"), looks := false }, kinds := [], alts := [], laidByText := true, laidKinds := [.sentinel, .sentinel, .sentinel, .sentinel, .sentinel, .sentinel, .sentinel, .sentinel, .sentinel, .sentinel, .sentinel], laidTests := true, laidLooks := .later }
def FnPeerChainUptoCardSaid : Prop := Claim7.holds Tryz.pinned (.plain (OpenSpec.upto fnPeerChainSpec)) fnPeerChainUptoCard

/-- THE SECOND FORM's CARD OF 'laws.FnPeerInlined'. -/
def fnPeerInlinedUptoCard : Claim7 := { stood := { row := fnPeerInlinedUptoRow, standIns := [], harness := (true, "72e6a68d0cc949935e5aee5083f961e1149173a005c865ab94463c4878a424fd"), looks := false }, kinds := [], alts := [], laidByText := true, laidKinds := [.sentinel, .sentinel, .sentinel, .sentinel, .sentinel, .sentinel, .sentinel, .sentinel, .sentinel, .sentinel, .sentinel, .sentinel, .sentinel, .sentinel, .sentinel, .sentinel, .sentinel], laidTests := true, laidLooks := .later }
def FnPeerInlinedUptoCardSaid : Prop := Claim7.holds Tryz.pinned (.plain (OpenSpec.upto fnPeerInlinedSpec)) fnPeerInlinedUptoCard
end Rows
end Go.Proofs.YtkmjjoffamdnfaaGreatDoor
