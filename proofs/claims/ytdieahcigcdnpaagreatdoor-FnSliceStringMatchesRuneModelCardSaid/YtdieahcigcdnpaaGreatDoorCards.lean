/-
  DERIVED. GIVEN WITH THE SEED: THE CARDS: each row of YtdieahcigcdnpaaGreatDoorRows.lean that lists a variable, with what it lists TIED to the program's text (the seventh form; the later family's looks); each row that meets fmt, with fmt's text TOLD by the authors' own Lean function (tested against real Go, not proved from fmt's source: count such statements apart). THE CARD IS WHAT COUNTS. Prove the row's statement (the work); the ties are given (YtdieahcigcdnpaaGreatDoorTie.lean); close each card by the builder's one call (the guide's Derived/Test/ToyasCard.lean, 'card_holds'). Laid BY PROGRAM, IN A SANDBOX (cutbox-door.mjs). By AI agents, Wed Nov 11 2026. No macro, syntax, notation, axiom, sorry.
-/
import Derived.Test.YtdieahcigcdnpaaGreatDoorRows
import GoSem.ClaimSeven
namespace Go.Proofs.YtdieahcigcdnpaaGreatDoor
namespace Rows

/-- THE TIED CARD OF 'n001_97.FnSliceStringMatchesRuneModel'. -/
def fnSliceStringMatchesRuneModelCard : Claim7 := { stood := { row := fnSliceStringMatchesRuneModelRow, standIns := [], harness := (true, "39e3d4618874520b43d9f2006251a71807fde95d6e56cd8fbef17eaa1f9fc178"), looks := true }, kinds := [], alts := [], laidByText := true, laidKinds := [.data, .data, .widerDeep, .widerDeep, .data, .data, .data, .data, .data, .sentinel, .sentinel, .sentinel, .sentinel, .sentinel, .pinned, .pinned], laidTests := true, laidLooks := .later }
def FnSliceStringMatchesRuneModelCardSaid : Prop := Claim7.holds Tryz.pinned (.plain (OpenSpec.ofChange fnSliceStringMatchesRuneModelSpec)) fnSliceStringMatchesRuneModelCard

/-- THE TIED CARD OF 'n001_97.FnSliceMatchesFilterModel'. -/
def fnSliceMatchesFilterModelCard : Claim7 := { stood := { row := fnSliceMatchesFilterModelRow, standIns := [], harness := (true, "39e3d4618874520b43d9f2006251a71807fde95d6e56cd8fbef17eaa1f9fc178"), looks := true }, kinds := [], alts := [], laidByText := true, laidKinds := [.data, .data, .widerDeep, .widerDeep, .data, .data, .data, .data, .data, .sentinel, .sentinel, .sentinel, .sentinel, .sentinel, .pinned, .pinned], laidTests := true, laidLooks := .later }
def FnSliceMatchesFilterModelCardSaid : Prop := Claim7.holds Tryz.pinned (.plain (OpenSpec.ofChange fnSliceMatchesFilterModelSpec)) fnSliceMatchesFilterModelCard

/-- THE TIED CARD OF 'n001_97.FnSliceStringSplitRejoins'. -/
def fnSliceStringSplitRejoinsCard : Claim7 := { stood := { row := fnSliceStringSplitRejoinsRow, standIns := [], harness := (true, "39e3d4618874520b43d9f2006251a71807fde95d6e56cd8fbef17eaa1f9fc178"), looks := true }, kinds := [], alts := [], laidByText := true, laidKinds := [.data, .data, .widerDeep, .widerDeep, .data, .data, .data, .data, .data, .sentinel, .sentinel, .sentinel, .sentinel, .sentinel, .pinned, .pinned], laidTests := true, laidLooks := .later }
def FnSliceStringSplitRejoinsCardSaid : Prop := Claim7.holds Tryz.pinned (.plain (OpenSpec.ofChange fnSliceStringSplitRejoinsSpec)) fnSliceStringSplitRejoinsCard

/-- THE TIED CARD OF 'n001_97.FnSliceSplitAtAnyIndexRejoins'. -/
def fnSliceSplitAtAnyIndexRejoinsCard : Claim7 := { stood := { row := fnSliceSplitAtAnyIndexRejoinsRow, standIns := [], harness := (true, "39e3d4618874520b43d9f2006251a71807fde95d6e56cd8fbef17eaa1f9fc178"), looks := true }, kinds := [], alts := [], laidByText := true, laidKinds := [.data, .data, .widerDeep, .widerDeep, .data, .data, .data, .data, .data, .sentinel, .sentinel, .sentinel, .sentinel, .sentinel, .pinned, .pinned], laidTests := true, laidLooks := .later }
def FnSliceSplitAtAnyIndexRejoinsCardSaid : Prop := Claim7.holds Tryz.pinned (.plain (OpenSpec.ofChange fnSliceSplitAtAnyIndexRejoinsSpec)) fnSliceSplitAtAnyIndexRejoinsCard

/-- THE SECOND FORM's CARD OF 'n001_97.FnSliceStringMatchesRuneModel'. -/
def fnSliceStringMatchesRuneModelUptoCard : Claim7 := { stood := { row := fnSliceStringMatchesRuneModelUptoRow, standIns := [], harness := (true, "39e3d4618874520b43d9f2006251a71807fde95d6e56cd8fbef17eaa1f9fc178"), looks := true }, kinds := [], alts := [], laidByText := true, laidKinds := [.data, .data, .widerDeep, .widerDeep, .data, .data, .data, .data, .data, .sentinel, .sentinel, .sentinel, .sentinel, .sentinel, .pinned, .pinned], laidTests := true, laidLooks := .later }
def FnSliceStringMatchesRuneModelUptoCardSaid : Prop := Claim7.holds Tryz.pinned (.plain (OpenSpec.upto fnSliceStringMatchesRuneModelSpec)) fnSliceStringMatchesRuneModelUptoCard

/-- THE SECOND FORM's CARD OF 'n001_97.FnSliceMatchesFilterModel'. -/
def fnSliceMatchesFilterModelUptoCard : Claim7 := { stood := { row := fnSliceMatchesFilterModelUptoRow, standIns := [], harness := (true, "39e3d4618874520b43d9f2006251a71807fde95d6e56cd8fbef17eaa1f9fc178"), looks := true }, kinds := [], alts := [], laidByText := true, laidKinds := [.data, .data, .widerDeep, .widerDeep, .data, .data, .data, .data, .data, .sentinel, .sentinel, .sentinel, .sentinel, .sentinel, .pinned, .pinned], laidTests := true, laidLooks := .later }
def FnSliceMatchesFilterModelUptoCardSaid : Prop := Claim7.holds Tryz.pinned (.plain (OpenSpec.upto fnSliceMatchesFilterModelSpec)) fnSliceMatchesFilterModelUptoCard

/-- THE SECOND FORM's CARD OF 'n001_97.FnSliceStringSplitRejoins'. -/
def fnSliceStringSplitRejoinsUptoCard : Claim7 := { stood := { row := fnSliceStringSplitRejoinsUptoRow, standIns := [], harness := (true, "39e3d4618874520b43d9f2006251a71807fde95d6e56cd8fbef17eaa1f9fc178"), looks := true }, kinds := [], alts := [], laidByText := true, laidKinds := [.data, .data, .widerDeep, .widerDeep, .data, .data, .data, .data, .data, .sentinel, .sentinel, .sentinel, .sentinel, .sentinel, .pinned, .pinned], laidTests := true, laidLooks := .later }
def FnSliceStringSplitRejoinsUptoCardSaid : Prop := Claim7.holds Tryz.pinned (.plain (OpenSpec.upto fnSliceStringSplitRejoinsSpec)) fnSliceStringSplitRejoinsUptoCard

/-- THE SECOND FORM's CARD OF 'n001_97.FnSliceSplitAtAnyIndexRejoins'. -/
def fnSliceSplitAtAnyIndexRejoinsUptoCard : Claim7 := { stood := { row := fnSliceSplitAtAnyIndexRejoinsUptoRow, standIns := [], harness := (true, "39e3d4618874520b43d9f2006251a71807fde95d6e56cd8fbef17eaa1f9fc178"), looks := true }, kinds := [], alts := [], laidByText := true, laidKinds := [.data, .data, .widerDeep, .widerDeep, .data, .data, .data, .data, .data, .sentinel, .sentinel, .sentinel, .sentinel, .sentinel, .pinned, .pinned], laidTests := true, laidLooks := .later }
def FnSliceSplitAtAnyIndexRejoinsUptoCardSaid : Prop := Claim7.holds Tryz.pinned (.plain (OpenSpec.upto fnSliceSplitAtAnyIndexRejoinsSpec)) fnSliceSplitAtAnyIndexRejoinsUptoCard
end Rows
end Go.Proofs.YtdieahcigcdnpaaGreatDoor
