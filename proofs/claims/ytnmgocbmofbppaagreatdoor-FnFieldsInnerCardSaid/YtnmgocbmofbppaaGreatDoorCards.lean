/-
  DERIVED. GIVEN WITH THE SEED: THE CARDS: each row of YtnmgocbmofbppaaGreatDoorRows.lean that lists a variable, with what it lists TIED to the program's text (the seventh form; the later family's looks); each row that meets fmt, with fmt's text TOLD by the authors' own Lean function (tested against real Go, not proved from fmt's source: count such statements apart). THE CARD IS WHAT COUNTS. Prove the row's statement (the work); the ties are given (YtnmgocbmofbppaaGreatDoorTie.lean); close each card by the builder's one call (the guide's Derived/Test/ToyasCard.lean, 'card_holds'). Laid BY PROGRAM, IN A SANDBOX (cutbox-door.mjs). By AI agents, Wed Nov 11 2026. No macro, syntax, notation, axiom, sorry.
-/
import Derived.Test.YtnmgocbmofbppaaGreatDoorRows
import GoSem.ClaimSeven
namespace Go.Proofs.YtnmgocbmofbppaaGreatDoor
namespace Rows

/-- THE TIED CARD OF 'laws.FnFieldsInner'. -/
def fnFieldsInnerCard : Claim7 := { stood := { row := fnFieldsInnerRow, standIns := [], harness := (true, "a432fbb03a5a254223e75e1eece0a3b6af997fff54edd50e4c72b7be0cb3ed0b"), looks := true }, kinds := [], alts := [], laidByText := true, laidKinds := [.data, .sentinel, .sentinel, .data, .pinned, .pinned, .pinned, .pinned, .pinned, .pinned, .pinned, .pinned, .pinned], laidTests := true, laidLooks := .later }
def FnFieldsInnerCardSaid : Prop := Claim7.holds Tryz.pinned (.plain (OpenSpec.ofChange fnFieldsInnerSpec)) fnFieldsInnerCard

/-- THE TIED CARD OF 'laws.FnFieldsTurned'. -/
def fnFieldsTurnedCard : Claim7 := { stood := { row := fnFieldsTurnedRow, standIns := [], harness := (true, "a432fbb03a5a254223e75e1eece0a3b6af997fff54edd50e4c72b7be0cb3ed0b"), looks := true }, kinds := [], alts := [], laidByText := true, laidKinds := [.data, .sentinel, .sentinel, .data, .pinned, .pinned, .pinned, .pinned, .pinned, .pinned, .pinned, .pinned, .pinned], laidTests := true, laidLooks := .later }
def FnFieldsTurnedCardSaid : Prop := Claim7.holds Tryz.pinned (.plain (OpenSpec.ofChange fnFieldsTurnedSpec)) fnFieldsTurnedCard

/-- THE SECOND FORM's CARD OF 'laws.FnFieldsInner'. -/
def fnFieldsInnerUptoCard : Claim7 := { stood := { row := fnFieldsInnerUptoRow, standIns := [], harness := (true, "a432fbb03a5a254223e75e1eece0a3b6af997fff54edd50e4c72b7be0cb3ed0b"), looks := true }, kinds := [], alts := [], laidByText := true, laidKinds := [.data, .sentinel, .sentinel, .data, .pinned, .pinned, .pinned, .pinned, .pinned, .pinned, .pinned, .pinned, .pinned], laidTests := true, laidLooks := .later }
def FnFieldsInnerUptoCardSaid : Prop := Claim7.holds Tryz.pinned (.plain (OpenSpec.upto fnFieldsInnerSpec)) fnFieldsInnerUptoCard

/-- THE SECOND FORM's CARD OF 'laws.FnFieldsTurned'. -/
def fnFieldsTurnedUptoCard : Claim7 := { stood := { row := fnFieldsTurnedUptoRow, standIns := [], harness := (true, "a432fbb03a5a254223e75e1eece0a3b6af997fff54edd50e4c72b7be0cb3ed0b"), looks := true }, kinds := [], alts := [], laidByText := true, laidKinds := [.data, .sentinel, .sentinel, .data, .pinned, .pinned, .pinned, .pinned, .pinned, .pinned, .pinned, .pinned, .pinned], laidTests := true, laidLooks := .later }
def FnFieldsTurnedUptoCardSaid : Prop := Claim7.holds Tryz.pinned (.plain (OpenSpec.upto fnFieldsTurnedSpec)) fnFieldsTurnedUptoCard
end Rows
end Go.Proofs.YtnmgocbmofbppaaGreatDoor
