/-
  DERIVED. GIVEN WITH THE SEED: THE CARDS: each row of YthhfmmbealhdfaaGreatDoorRows.lean that lists a variable, with what it lists TIED to the program's text (the seventh form; the later family's looks); each row that meets fmt, with fmt's text TOLD by the authors' own Lean function (tested against real Go, not proved from fmt's source: count such statements apart). THE CARD IS WHAT COUNTS. Prove the row's statement (the work); the ties are given (YthhfmmbealhdfaaGreatDoorTie.lean); close each card by the builder's one call (the guide's Derived/Test/ToyasCard.lean, 'card_holds'). Laid BY PROGRAM, IN A SANDBOX (cutbox-door.mjs). By AI agents, Wed Nov 11 2026. No macro, syntax, notation, axiom, sorry.
-/
import Derived.Test.YthhfmmbealhdfaaGreatDoorRows
import GoSem.ClaimSeven
namespace Go.Proofs.YthhfmmbealhdfaaGreatDoor
namespace Rows

/-- THE TIED CARD OF 'n001_17.FnHasArrayIndexWindow'. -/
def fnHasArrayIndexWindowCard : Claim7 := { stood := { row := fnHasArrayIndexWindowRow, standIns := [], harness := (true, "722ab3ef8c47ef1602f795f05045b09d0f7fbdd4f08a4324c2a0f3046931eee1"), looks := true }, kinds := [], alts := [], laidByText := true, laidKinds := [.data, .data, .widerDeep, .widerDeep, .data, .data, .data, .data, .data, .sentinel, .sentinel, .sentinel, .sentinel, .sentinel, .pinned, .pinned], laidTests := true, laidLooks := .later }
def FnHasArrayIndexWindowCardSaid : Prop := Claim7.holds Tryz.pinned (.plain (OpenSpec.ofChange fnHasArrayIndexWindowSpec)) fnHasArrayIndexWindowCard

/-- THE TIED CARD OF 'n001_17.FnHasObjectNullAndRefusals'. -/
def fnHasObjectNullAndRefusalsCard : Claim7 := { stood := { row := fnHasObjectNullAndRefusalsRow, standIns := [], harness := (true, "722ab3ef8c47ef1602f795f05045b09d0f7fbdd4f08a4324c2a0f3046931eee1"), looks := true }, kinds := [], alts := [], laidByText := true, laidKinds := [.data, .data, .widerDeep, .widerDeep, .data, .data, .data, .data, .data, .sentinel, .sentinel, .sentinel, .sentinel, .sentinel, .pinned, .pinned], laidTests := true, laidLooks := .later }
def FnHasObjectNullAndRefusalsCardSaid : Prop := Claim7.holds Tryz.pinned (.plain (OpenSpec.ofChange fnHasObjectNullAndRefusalsSpec)) fnHasObjectNullAndRefusalsCard

/-- THE SECOND FORM's CARD OF 'n001_17.FnHasArrayIndexWindow'. -/
def fnHasArrayIndexWindowUptoCard : Claim7 := { stood := { row := fnHasArrayIndexWindowUptoRow, standIns := [], harness := (true, "722ab3ef8c47ef1602f795f05045b09d0f7fbdd4f08a4324c2a0f3046931eee1"), looks := true }, kinds := [], alts := [], laidByText := true, laidKinds := [.data, .data, .widerDeep, .widerDeep, .data, .data, .data, .data, .data, .sentinel, .sentinel, .sentinel, .sentinel, .sentinel, .pinned, .pinned], laidTests := true, laidLooks := .later }
def FnHasArrayIndexWindowUptoCardSaid : Prop := Claim7.holds Tryz.pinned (.plain (OpenSpec.upto fnHasArrayIndexWindowSpec)) fnHasArrayIndexWindowUptoCard

/-- THE SECOND FORM's CARD OF 'n001_17.FnHasObjectNullAndRefusals'. -/
def fnHasObjectNullAndRefusalsUptoCard : Claim7 := { stood := { row := fnHasObjectNullAndRefusalsUptoRow, standIns := [], harness := (true, "722ab3ef8c47ef1602f795f05045b09d0f7fbdd4f08a4324c2a0f3046931eee1"), looks := true }, kinds := [], alts := [], laidByText := true, laidKinds := [.data, .data, .widerDeep, .widerDeep, .data, .data, .data, .data, .data, .sentinel, .sentinel, .sentinel, .sentinel, .sentinel, .pinned, .pinned], laidTests := true, laidLooks := .later }
def FnHasObjectNullAndRefusalsUptoCardSaid : Prop := Claim7.holds Tryz.pinned (.plain (OpenSpec.upto fnHasObjectNullAndRefusalsSpec)) fnHasObjectNullAndRefusalsUptoCard
end Rows
end Go.Proofs.YthhfmmbealhdfaaGreatDoor
