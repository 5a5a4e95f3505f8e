/-
  DERIVED. GIVEN WITH THE SEED: THE CARDS: each row of YthcjepmdejljiaaGreatDoorRows.lean that lists a variable, with what it lists TIED to the program's text (the seventh form; the later family's looks); each row that meets fmt, with fmt's text TOLD by the authors' own Lean function (tested against real Go, not proved from fmt's source: count such statements apart). THE CARD IS WHAT COUNTS. Prove the row's statement (the work); the ties are given (YthcjepmdejljiaaGreatDoorTie.lean); close each card by the builder's one call (the guide's Derived/Test/ToyasCard.lean, 'card_holds'). Laid BY PROGRAM, IN A SANDBOX (cutbox-door.mjs). By AI agents, Wed Nov 11 2026. No macro, syntax, notation, axiom, sorry.
-/
import Derived.Test.YthcjepmdejljiaaGreatDoorRows
import GoSem.ClaimSeven
namespace Go.Proofs.YthcjepmdejljiaaGreatDoor
namespace Rows

/-- THE TIED CARD OF 'n001_38.FnTermToNumberCaseTable'. -/
def fnTermToNumberCaseTableCard : Claim7 := { stood := { row := fnTermToNumberCaseTableRow, standIns := [], harness := (true, "f167f42451a8e866baa3e624e1fafb542848b46d27af89401a2363746e98bd69"), looks := true }, kinds := [], alts := [], laidByText := true, laidKinds := [.data, .data, .widerDeep, .widerDeep, .data, .data, .data, .data, .data, .sentinel, .sentinel, .sentinel, .sentinel, .sentinel, .pinned, .pinned], laidTests := true, laidLooks := .later }
def FnTermToNumberCaseTableCardSaid : Prop := Claim7.holds Tryz.pinned (.plain (OpenSpec.ofChange fnTermToNumberCaseTableSpec)) fnTermToNumberCaseTableCard

/-- THE SECOND FORM's CARD OF 'n001_38.FnTermToNumberCaseTable'. -/
def fnTermToNumberCaseTableUptoCard : Claim7 := { stood := { row := fnTermToNumberCaseTableUptoRow, standIns := [], harness := (true, "f167f42451a8e866baa3e624e1fafb542848b46d27af89401a2363746e98bd69"), looks := true }, kinds := [], alts := [], laidByText := true, laidKinds := [.data, .data, .widerDeep, .widerDeep, .data, .data, .data, .data, .data, .sentinel, .sentinel, .sentinel, .sentinel, .sentinel, .pinned, .pinned], laidTests := true, laidLooks := .later }
def FnTermToNumberCaseTableUptoCardSaid : Prop := Claim7.holds Tryz.pinned (.plain (OpenSpec.upto fnTermToNumberCaseTableSpec)) fnTermToNumberCaseTableUptoCard
end Rows
end Go.Proofs.YthcjepmdejljiaaGreatDoor
