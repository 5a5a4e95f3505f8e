/-
  DERIVED. GIVEN WITH THE SEED: THE CARDS: each row of YtdfgljkmkceldaaGreatDoorRows.lean that lists a variable, with what it lists TIED to the program's text (the seventh form; the later family's looks); each row that meets fmt, with fmt's text TOLD by the authors' own Lean function (tested against real Go, not proved from fmt's source: count such statements apart). THE CARD IS WHAT COUNTS. Prove the row's statement (the work); the ties are given (YtdfgljkmkceldaaGreatDoorTie.lean); close each card by the builder's one call (the guide's Derived/Test/ToyasCard.lean, 'card_holds'). Laid BY PROGRAM, IN A SANDBOX (cutbox-door.mjs). By AI agents, Wed Nov 11 2026. No macro, syntax, notation, axiom, sorry.
-/
import Derived.Test.YtdfgljkmkceldaaGreatDoorRows
import GoSem.ClaimSeven
namespace Go.Proofs.YtdfgljkmkceldaaGreatDoor
namespace Rows

/-- THE TIED CARD OF 'n001_53.FnConstArrayToValueConcat'. -/
def fnConstArrayToValueConcatCard : Claim7 := { stood := { row := fnConstArrayToValueConcatRow, standIns := [], harness := (true, "f9b23b34d77712c598f16511dcb60e1abd1d4603648b4b4a418037b488677deb"), looks := true }, kinds := [], alts := [], laidByText := true, laidKinds := [.data, .data, .widerDeep, .widerDeep, .data, .data, .data, .data, .data, .sentinel, .sentinel, .sentinel, .sentinel, .sentinel, .pinned, .pinned], laidTests := true, laidLooks := .later }
def FnConstArrayToValueConcatCardSaid : Prop := Claim7.holds Tryz.pinned (.plain (OpenSpec.ofChange fnConstArrayToValueConcatSpec)) fnConstArrayToValueConcatCard

/-- THE SECOND FORM's CARD OF 'n001_53.FnConstArrayToValueConcat'. -/
def fnConstArrayToValueConcatUptoCard : Claim7 := { stood := { row := fnConstArrayToValueConcatUptoRow, standIns := [], harness := (true, "f9b23b34d77712c598f16511dcb60e1abd1d4603648b4b4a418037b488677deb"), looks := true }, kinds := [], alts := [], laidByText := true, laidKinds := [.data, .data, .widerDeep, .widerDeep, .data, .data, .data, .data, .data, .sentinel, .sentinel, .sentinel, .sentinel, .sentinel, .pinned, .pinned], laidTests := true, laidLooks := .later }
def FnConstArrayToValueConcatUptoCardSaid : Prop := Claim7.holds Tryz.pinned (.plain (OpenSpec.upto fnConstArrayToValueConcatSpec)) fnConstArrayToValueConcatUptoCard
end Rows
end Go.Proofs.YtdfgljkmkceldaaGreatDoor
