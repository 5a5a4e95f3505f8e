/-
  DERIVED. GIVEN WITH THE SEED: THE CARDS: each row of YtcfbbdemgaigiaaGreatDoorRows.lean that lists a variable, with what it lists TIED to the program's text (the seventh form; the later family's looks); each row that meets fmt, with fmt's text TOLD by the authors' own Lean function (tested against real Go, not proved from fmt's source: count such statements apart). THE CARD IS WHAT COUNTS. Prove the row's statement (the work); the ties are given (YtcfbbdemgaigiaaGreatDoorTie.lean); close each card by the builder's one call (the guide's Derived/Test/ToyasCard.lean, 'card_holds'). Laid BY PROGRAM, IN A SANDBOX (cutbox-door.mjs). By AI agents, Wed Nov 11 2026. No macro, syntax, notation, axiom, sorry.
-/
import Derived.Test.YtcfbbdemgaigiaaGreatDoorRows
import GoSem.ClaimSeven
namespace Go.Proofs.YtcfbbdemgaigiaaGreatDoor
namespace Rows

/-- THE TIED CARD OF 'n001_40.FnImplodeEncodesEachCodePointAsUTF8'. -/
def fnImplodeEncodesEachCodePointAsUTF8Card : Claim7 := { stood := { row := fnImplodeEncodesEachCodePointAsUTF8Row, standIns := [], harness := (true, "6a5557fcbf9af899c46297afc3277ba3ca1bc76ae02906cfc790840cf328862b"), looks := true }, kinds := [], alts := [], laidByText := true, laidKinds := [.data, .data, .widerDeep, .widerDeep, .data, .data, .data, .data, .data, .sentinel, .sentinel, .sentinel, .sentinel, .sentinel, .pinned, .pinned], laidTests := true, laidLooks := .later }
def FnImplodeEncodesEachCodePointAsUTF8CardSaid : Prop := Claim7.holds Tryz.pinned (.plain (OpenSpec.ofChange fnImplodeEncodesEachCodePointAsUTF8Spec)) fnImplodeEncodesEachCodePointAsUTF8Card

/-- THE TIED CARD OF 'n001_40.FnExplodeUndoesImplodeUpToReplacement'. -/
def fnExplodeUndoesImplodeUpToReplacementCard : Claim7 := { stood := { row := fnExplodeUndoesImplodeUpToReplacementRow, standIns := [], harness := (true, "6a5557fcbf9af899c46297afc3277ba3ca1bc76ae02906cfc790840cf328862b"), looks := true }, kinds := [], alts := [], laidByText := true, laidKinds := [.data, .data, .widerDeep, .widerDeep, .data, .data, .data, .data, .data, .sentinel, .sentinel, .sentinel, .sentinel, .sentinel, .pinned, .pinned], laidTests := true, laidLooks := .later }
def FnExplodeUndoesImplodeUpToReplacementCardSaid : Prop := Claim7.holds Tryz.pinned (.plain (OpenSpec.ofChange fnExplodeUndoesImplodeUpToReplacementSpec)) fnExplodeUndoesImplodeUpToReplacementCard

/-- THE SECOND FORM's CARD OF 'n001_40.FnImplodeEncodesEachCodePointAsUTF8'. -/
def fnImplodeEncodesEachCodePointAsUTF8UptoCard : Claim7 := { stood := { row := fnImplodeEncodesEachCodePointAsUTF8UptoRow, standIns := [], harness := (true, "6a5557fcbf9af899c46297afc3277ba3ca1bc76ae02906cfc790840cf328862b"), looks := true }, kinds := [], alts := [], laidByText := true, laidKinds := [.data, .data, .widerDeep, .widerDeep, .data, .data, .data, .data, .data, .sentinel, .sentinel, .sentinel, .sentinel, .sentinel, .pinned, .pinned], laidTests := true, laidLooks := .later }
def FnImplodeEncodesEachCodePointAsUTF8UptoCardSaid : Prop := Claim7.holds Tryz.pinned (.plain (OpenSpec.upto fnImplodeEncodesEachCodePointAsUTF8Spec)) fnImplodeEncodesEachCodePointAsUTF8UptoCard

/-- THE SECOND FORM's CARD OF 'n001_40.FnExplodeUndoesImplodeUpToReplacement'. -/
def fnExplodeUndoesImplodeUpToReplacementUptoCard : Claim7 := { stood := { row := fnExplodeUndoesImplodeUpToReplacementUptoRow, standIns := [], harness := (true, "6a5557fcbf9af899c46297afc3277ba3ca1bc76ae02906cfc790840cf328862b"), looks := true }, kinds := [], alts := [], laidByText := true, laidKinds := [.data, .data, .widerDeep, .widerDeep, .data, .data, .data, .data, .data, .sentinel, .sentinel, .sentinel, .sentinel, .sentinel, .pinned, .pinned], laidTests := true, laidLooks := .later }
def FnExplodeUndoesImplodeUpToReplacementUptoCardSaid : Prop := Claim7.holds Tryz.pinned (.plain (OpenSpec.upto fnExplodeUndoesImplodeUpToReplacementSpec)) fnExplodeUndoesImplodeUpToReplacementUptoCard
end Rows
end Go.Proofs.YtcfbbdemgaigiaaGreatDoor
