/-
  DERIVED. GIVEN WITH THE SEED: THE CARDS: each row of YtiljejgchmockaaGreatDoorRows.lean that lists a variable, with what it lists TIED to the program's text (the seventh form; the later family's looks); each row that meets fmt, with fmt's text TOLD by the authors' own Lean function (tested against real Go, not proved from fmt's source: count such statements apart). THE CARD IS WHAT COUNTS. Prove the row's statement (the work); the ties are given (YtiljejgchmockaaGreatDoorTie.lean); close each card by the builder's one call (the guide's Derived/Test/ToyasCard.lean, 'card_holds'). Laid BY PROGRAM, IN A SANDBOX (cutbox-door.mjs). By AI agents, Wed Nov 11 2026. No macro, syntax, notation, axiom, sorry.
-/
import Derived.Test.YtiljejgchmockaaGreatDoorRows
import GoSem.ClaimSeven
namespace Go.Proofs.YtiljejgchmockaaGreatDoor
namespace Rows

/-- THE TIED CARD OF 'n001_105.FnToIntCeilVersusTruncation'. -/
def fnToIntCeilVersusTruncationCard : Claim7 := { stood := { row := fnToIntCeilVersusTruncationRow, standIns := [], harness := (true, "1a1a78ad6edce8f1e52d3b818d6832393b1a5e89be148faa8e4a52122401aec8"), looks := true }, kinds := [], alts := [], laidByText := true, laidKinds := [.data, .data, .widerDeep, .widerDeep, .data, .data, .data, .data, .data, .sentinel, .sentinel, .sentinel, .sentinel, .sentinel, .pinned, .pinned], laidTests := true, laidLooks := .later }
def FnToIntCeilVersusTruncationCardSaid : Prop := Claim7.holds Tryz.pinned (.plain (OpenSpec.ofChange fnToIntCeilVersusTruncationSpec)) fnToIntCeilVersusTruncationCard

/-- THE TIED CARD OF 'n001_105.FnToIntCeilCaseTable'. -/
def fnToIntCeilCaseTableCard : Claim7 := { stood := { row := fnToIntCeilCaseTableRow, standIns := [], harness := (true, "1a1a78ad6edce8f1e52d3b818d6832393b1a5e89be148faa8e4a52122401aec8"), looks := true }, kinds := [], alts := [], laidByText := true, laidKinds := [.data, .data, .widerDeep, .widerDeep, .data, .data, .data, .data, .data, .sentinel, .sentinel, .sentinel, .sentinel, .sentinel, .pinned, .pinned], laidTests := true, laidLooks := .later }
def FnToIntCeilCaseTableCardSaid : Prop := Claim7.holds Tryz.pinned (.plain (OpenSpec.ofChange fnToIntCeilCaseTableSpec)) fnToIntCeilCaseTableCard

/-- THE SECOND FORM's CARD OF 'n001_105.FnToIntCeilVersusTruncation'. -/
def fnToIntCeilVersusTruncationUptoCard : Claim7 := { stood := { row := fnToIntCeilVersusTruncationUptoRow, standIns := [], harness := (true, "1a1a78ad6edce8f1e52d3b818d6832393b1a5e89be148faa8e4a52122401aec8"), looks := true }, kinds := [], alts := [], laidByText := true, laidKinds := [.data, .data, .widerDeep, .widerDeep, .data, .data, .data, .data, .data, .sentinel, .sentinel, .sentinel, .sentinel, .sentinel, .pinned, .pinned], laidTests := true, laidLooks := .later }
def FnToIntCeilVersusTruncationUptoCardSaid : Prop := Claim7.holds Tryz.pinned (.plain (OpenSpec.upto fnToIntCeilVersusTruncationSpec)) fnToIntCeilVersusTruncationUptoCard

/-- THE SECOND FORM's CARD OF 'n001_105.FnToIntCeilCaseTable'. -/
def fnToIntCeilCaseTableUptoCard : Claim7 := { stood := { row := fnToIntCeilCaseTableUptoRow, standIns := [], harness := (true, "1a1a78ad6edce8f1e52d3b818d6832393b1a5e89be148faa8e4a52122401aec8"), looks := true }, kinds := [], alts := [], laidByText := true, laidKinds := [.data, .data, .widerDeep, .widerDeep, .data, .data, .data, .data, .data, .sentinel, .sentinel, .sentinel, .sentinel, .sentinel, .pinned, .pinned], laidTests := true, laidLooks := .later }
def FnToIntCeilCaseTableUptoCardSaid : Prop := Claim7.holds Tryz.pinned (.plain (OpenSpec.upto fnToIntCeilCaseTableSpec)) fnToIntCeilCaseTableUptoCard
end Rows
end Go.Proofs.YtiljejgchmockaaGreatDoor
