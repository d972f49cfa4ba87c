/-
  DERIVED. GIVEN WITH THE SEED: THE CARDS: each row of YtmhpnnbfnbaekaaGreatDoorRows.lean that lists a variable, with what it lists TIED to the program's text (the seventh form; the later family's looks); each row that meets fmt, with fmt's text TOLD by the authors' own Lean function (tested against real Go, not proved from fmt's source: count such statements apart). THE CARD IS WHAT COUNTS. Prove the row's statement (the work); the ties are given (YtmhpnnbfnbaekaaGreatDoorTie.lean); close each card by the builder's one call (the guide's Derived/Test/ToyasCard.lean, 'card_holds'). Laid BY PROGRAM, IN A SANDBOX (cutbox-door.mjs). By AI agents, Wed Nov 11 2026. No macro, syntax, notation, axiom, sorry.
-/
import Derived.Test.YtmhpnnbfnbaekaaGreatDoorRows
import GoSem.ClaimSeven
namespace Go.Proofs.YtmhpnnbfnbaekaaGreatDoor
namespace Rows

/-- THE TIED CARD OF 'laws.FnPlaceBack'. -/
def fnPlaceBackCard : Claim7 := { stood := { row := fnPlaceBackRow, standIns := [], harness := (true, "a40336b9c0623e6e1acde075005c74ecd8ea72d2b71a4dd17df3b1a5e6857482"), looks := true }, kinds := [], alts := [], laidByText := true, laidKinds := [.data, .data, .widerDeep, .widerDeep, .data, .data, .data, .data, .data, .data, .sentinel, .sentinel, .sentinel, .sentinel, .data, .pinned, .pinned, .pinned], laidTests := true, laidLooks := .later }
def FnPlaceBackCardSaid : Prop := Claim7.holds Tryz.pinned (.plain (OpenSpec.ofChange fnPlaceBackSpec)) fnPlaceBackCard

/-- THE SECOND FORM's CARD OF 'laws.FnPlaceBack'. -/
def fnPlaceBackUptoCard : Claim7 := { stood := { row := fnPlaceBackUptoRow, standIns := [], harness := (true, "a40336b9c0623e6e1acde075005c74ecd8ea72d2b71a4dd17df3b1a5e6857482"), looks := true }, kinds := [], alts := [], laidByText := true, laidKinds := [.data, .data, .widerDeep, .widerDeep, .data, .data, .data, .data, .data, .data, .sentinel, .sentinel, .sentinel, .sentinel, .data, .pinned, .pinned, .pinned], laidTests := true, laidLooks := .later }
def FnPlaceBackUptoCardSaid : Prop := Claim7.holds Tryz.pinned (.plain (OpenSpec.upto fnPlaceBackSpec)) fnPlaceBackUptoCard
end Rows
end Go.Proofs.YtmhpnnbfnbaekaaGreatDoor
