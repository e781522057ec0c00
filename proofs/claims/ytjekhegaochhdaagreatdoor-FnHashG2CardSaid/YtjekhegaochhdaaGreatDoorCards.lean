/-
  DERIVED. GIVEN WITH THE SEED: THE CARDS: each row of YtjekhegaochhdaaGreatDoorRows.lean that lists a variable, with what it lists TIED to the program's text (the seventh form; the later family's looks); each row that meets fmt, with fmt's text TOLD by the authors' own Lean function (tested against real Go, not proved from fmt's source: count such statements apart). THE CARD IS WHAT COUNTS. Prove the row's statement (the work); the ties are given (YtjekhegaochhdaaGreatDoorTie.lean); close each card by the builder's one call (the guide's Derived/Test/ToyasCard.lean, 'card_holds'). Laid BY PROGRAM, IN A SANDBOX (cutbox-door.mjs). By AI agents, Wed Nov 11 2026. No macro, syntax, notation, axiom, sorry.
-/
import Derived.Test.YtjekhegaochhdaaGreatDoorRows
import GoSem.ClaimSeven
namespace Go.Proofs.YtjekhegaochhdaaGreatDoor
namespace Rows

/-- THE TIED CARD OF 'laws.FnEncodeG2'. -/
def fnEncodeG2Card : Claim7 := { stood := { row := fnEncodeG2Row, standIns := [], harness := (true, "a76a0db7186dc8c1d2577533b96950376970c0c7ff7318efb1b352c2e68cd283"), looks := false }, kinds := [], alts := [], laidByText := true, laidKinds := [.data, .sentinel], laidTests := true, laidLooks := .later }
def FnEncodeG2CardSaid : Prop := Claim7.holds Tryz.pinned (.plain (OpenSpec.ofChange fnEncodeG2Spec)) fnEncodeG2Card

/-- THE TIED CARD OF 'laws.FnHashG2'. -/
def fnHashG2Card : Claim7 := { stood := { row := fnHashG2Row, standIns := [], harness := (true, "a76a0db7186dc8c1d2577533b96950376970c0c7ff7318efb1b352c2e68cd283"), looks := false }, kinds := [], alts := [], laidByText := true, laidKinds := [.data, .sentinel], laidTests := true, laidLooks := .later }
def FnHashG2CardSaid : Prop := Claim7.holds Tryz.pinned (.plain (OpenSpec.ofChange fnHashG2Spec)) fnHashG2Card

/-- THE SECOND FORM's CARD OF 'laws.FnEncodeG2'. -/
def fnEncodeG2UptoCard : Claim7 := { stood := { row := fnEncodeG2UptoRow, standIns := [], harness := (true, "a76a0db7186dc8c1d2577533b96950376970c0c7ff7318efb1b352c2e68cd283"), looks := false }, kinds := [], alts := [], laidByText := true, laidKinds := [.data, .sentinel], laidTests := true, laidLooks := .later }
def FnEncodeG2UptoCardSaid : Prop := Claim7.holds Tryz.pinned (.plain (OpenSpec.upto fnEncodeG2Spec)) fnEncodeG2UptoCard

/-- THE SECOND FORM's CARD OF 'laws.FnHashG2'. -/
def fnHashG2UptoCard : Claim7 := { stood := { row := fnHashG2UptoRow, standIns := [], harness := (true, "a76a0db7186dc8c1d2577533b96950376970c0c7ff7318efb1b352c2e68cd283"), looks := false }, kinds := [], alts := [], laidByText := true, laidKinds := [.data, .sentinel], laidTests := true, laidLooks := .later }
def FnHashG2UptoCardSaid : Prop := Claim7.holds Tryz.pinned (.plain (OpenSpec.upto fnHashG2Spec)) fnHashG2UptoCard
end Rows
end Go.Proofs.YtjekhegaochhdaaGreatDoor
