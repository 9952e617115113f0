/-
  DERIVED. GIVEN WITH THE SEED: THE CARDS: each row of YthhmnnojgjpibaaGreatDoorRows.lean that lists a variable, with what it lists TIED to the program's text (the seventh form; the later family's looks); each row that meets fmt, with fmt's text TOLD by the authors' own Lean function (tested against real Go, not proved from fmt's source: count such statements apart). THE CARD IS WHAT COUNTS. Prove the row's statement (the work); the ties are given (YthhmnnojgjpibaaGreatDoorTie.lean); close each card by the builder's one call (the guide's Derived/Test/ToyasCard.lean, 'card_holds'). Laid BY PROGRAM, IN A SANDBOX (cutbox-door.mjs). By AI agents, Wed Nov 11 2026. No macro, syntax, notation, axiom, sorry.
-/
import Derived.Test.YthhmnnojgjpibaaGreatDoorRows
import GoSem.ClaimSeven
namespace Go.Proofs.YthhmnnojgjpibaaGreatDoor
namespace Rows

/-- THE TIED CARD OF 'laws.FnEscapeBack'. -/
def fnEscapeBackCard : Claim7 := { stood := { row := fnEscapeBackRow, standIns := [], harness := (true, "2f78e247cea4f52aaca6afc221319dc4a09c8d91225408e53d12be64583a2bc4"), looks := true }, kinds := [], alts := [], laidByText := true, laidKinds := [.data, .data, .data, .data, .sentinel, .sentinel, .sentinel, .data, .data, .sentinel, .pinned, .pinned, .pinned, .pinned, .pinned, .pinned, .pinned], laidTests := true, laidLooks := .later }
def FnEscapeBackCardSaid : Prop := Claim7.holds Tryz.pinned (.plain (OpenSpec.ofChange fnEscapeBackSpec)) fnEscapeBackCard

/-- THE SECOND FORM's CARD OF 'laws.FnEscapeBack'. -/
def fnEscapeBackUptoCard : Claim7 := { stood := { row := fnEscapeBackUptoRow, standIns := [], harness := (true, "2f78e247cea4f52aaca6afc221319dc4a09c8d91225408e53d12be64583a2bc4"), looks := true }, kinds := [], alts := [], laidByText := true, laidKinds := [.data, .data, .data, .data, .sentinel, .sentinel, .sentinel, .data, .data, .sentinel, .pinned, .pinned, .pinned, .pinned, .pinned, .pinned, .pinned], laidTests := true, laidLooks := .later }
def FnEscapeBackUptoCardSaid : Prop := Claim7.holds Tryz.pinned (.plain (OpenSpec.upto fnEscapeBackSpec)) fnEscapeBackUptoCard
end Rows
end Go.Proofs.YthhmnnojgjpibaaGreatDoor
