/-
  DERIVED. GIVEN WITH THE SEED: THE CARDS: each row of YtkhjcknabkpfgaaGreatDoorRows.lean that lists a variable, with what it lists TIED to the program's text (the seventh form; the later family's looks); each row that meets fmt, with fmt's text TOLD by the authors' own Lean function (tested against real Go, not proved from fmt's source: count such statements apart). THE CARD IS WHAT COUNTS. Prove the row's statement (the work); the ties are given (YtkhjcknabkpfgaaGreatDoorTie.lean); close each card by the builder's one call (the guide's Derived/Test/ToyasCard.lean, 'card_holds'). Laid BY PROGRAM, IN A SANDBOX (cutbox-door.mjs). By AI agents, Wed Nov 11 2026. No macro, syntax, notation, axiom, sorry.
-/
import Derived.Test.YtkhjcknabkpfgaaGreatDoorRows
import GoSem.ClaimSeven
namespace Go.Proofs.YtkhjcknabkpfgaaGreatDoor
namespace Rows

/-- THE TIED CARD OF 'n001_31.FnExplodeImplodeRoundTrip'. -/
def fnExplodeImplodeRoundTripCard : Claim7 := { stood := { row := fnExplodeImplodeRoundTripRow, standIns := [], harness := (true, "4de03b01ed8b70e139f5c5956d2d8ac891c06b30293a781d239a42104e65a8ca"), looks := true }, kinds := [], alts := [], laidByText := true, laidKinds := [.data, .data, .widerDeep, .widerDeep, .data, .data, .data, .data, .data, .sentinel, .sentinel, .sentinel, .sentinel, .sentinel, .pinned, .pinned], laidTests := true, laidLooks := .later }
def FnExplodeImplodeRoundTripCardSaid : Prop := Claim7.holds Tryz.pinned (.plain (OpenSpec.ofChange fnExplodeImplodeRoundTripSpec)) fnExplodeImplodeRoundTripCard

/-- THE SECOND FORM's CARD OF 'n001_31.FnExplodeImplodeRoundTrip'. -/
def fnExplodeImplodeRoundTripUptoCard : Claim7 := { stood := { row := fnExplodeImplodeRoundTripUptoRow, standIns := [], harness := (true, "4de03b01ed8b70e139f5c5956d2d8ac891c06b30293a781d239a42104e65a8ca"), looks := true }, kinds := [], alts := [], laidByText := true, laidKinds := [.data, .data, .widerDeep, .widerDeep, .data, .data, .data, .data, .data, .sentinel, .sentinel, .sentinel, .sentinel, .sentinel, .pinned, .pinned], laidTests := true, laidLooks := .later }
def FnExplodeImplodeRoundTripUptoCardSaid : Prop := Claim7.holds Tryz.pinned (.plain (OpenSpec.upto fnExplodeImplodeRoundTripSpec)) fnExplodeImplodeRoundTripUptoCard
end Rows
end Go.Proofs.YtkhjcknabkpfgaaGreatDoor
