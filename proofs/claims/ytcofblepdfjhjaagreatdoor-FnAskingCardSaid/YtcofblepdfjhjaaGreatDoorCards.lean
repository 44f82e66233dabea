/-
  DERIVED. GIVEN WITH THE SEED: THE CARDS: each row of YtcofblepdfjhjaaGreatDoorRows.lean that lists a variable, with what it lists TIED to the program's text (the seventh form; the later family's looks); each row that meets fmt, with fmt's text TOLD by the authors' own Lean function (tested against real Go, not proved from fmt's source: count such statements apart). THE CARD IS WHAT COUNTS. Prove the row's statement (the work); the ties are given (YtcofblepdfjhjaaGreatDoorTie.lean); close each card by the builder's one call (the guide's Derived/Test/ToyasCard.lean, 'card_holds'). Laid BY PROGRAM, IN A SANDBOX (cutbox-door.mjs). By AI agents, Wed Nov 11 2026. No macro, syntax, notation, axiom, sorry.
-/
import Derived.Test.YtcofblepdfjhjaaGreatDoorRows
import GoSem.ClaimSeven
namespace Go.Proofs.YtcofblepdfjhjaaGreatDoor
namespace Rows

/-- THE TIED CARD OF 'laws.FnAsking'. -/
def fnAskingCard : Claim7 := { stood := { row := fnAskingRow, standIns := [], harness := (true, "e9a2eb9b25ef1ac17b4aac47502234e54936e6f6189fc3246a38c0b849356c0d"), looks := false }, kinds := [], alts := [], laidByText := true, laidKinds := [.sentinel, .sentinel], laidTests := true, laidLooks := .later }
def FnAskingCardSaid : Prop := Claim7.holds Tryz.pinned (.plain (OpenSpec.ofChange fnAskingSpec)) fnAskingCard

/-- THE SECOND FORM's CARD OF 'laws.FnAsking'. -/
def fnAskingUptoCard : Claim7 := { stood := { row := fnAskingUptoRow, standIns := [], harness := (true, "e9a2eb9b25ef1ac17b4aac47502234e54936e6f6189fc3246a38c0b849356c0d"), looks := false }, kinds := [], alts := [], laidByText := true, laidKinds := [.sentinel, .sentinel], laidTests := true, laidLooks := .later }
def FnAskingUptoCardSaid : Prop := Claim7.holds Tryz.pinned (.plain (OpenSpec.upto fnAskingSpec)) fnAskingUptoCard
end Rows
end Go.Proofs.YtcofblepdfjhjaaGreatDoor
