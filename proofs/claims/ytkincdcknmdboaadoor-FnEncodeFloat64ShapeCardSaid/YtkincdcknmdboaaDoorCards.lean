/-
  DERIVED. GIVEN WITH THE SEED: THE CARDS: each row of YtkincdcknmdboaaDoorRows.lean that lists a variable, with what it lists TIED to the program's text (the seventh form; the later family's looks); each row that meets fmt, with fmt's text TOLD by the authors' own Lean function (tested against real Go, not proved from fmt's source: count such statements apart). THE CARD IS WHAT COUNTS. Prove the row's statement (the work); the ties are given (YtkincdcknmdboaaDoorTie.lean); close each card by the builder's one call (the guide's Derived/Test/ToyasCard.lean, 'card_holds'). Laid BY PROGRAM, IN A SANDBOX (cutbox-door.mjs). By AI agents, Wed Nov 11 2026. No macro, syntax, notation, axiom, sorry.
-/
import Derived.Test.YtkincdcknmdboaaDoorRows
import GoSem.ClaimSeven
namespace Go.Proofs.YtkincdcknmdboaaDoor
namespace Rows

/-- THE TIED CARD OF 'n001_64.FnEncodeFloat64Integers'. -/
def fnEncodeFloat64IntegersCard : Claim7 := { stood := { row := fnEncodeFloat64IntegersRow, standIns := [], harness := (true, "7e9b69f3210f013b9cf5f4710c3c7ec2b48fcc245aed23907dfe9164682db861"), looks := false }, kinds := [], alts := [], laidByText := true, laidKinds := [.data, .data, .data, .data, .pinned, .pinned], laidTests := true, laidLooks := .later }
def FnEncodeFloat64IntegersCardSaid : Prop := Claim7.holds Tryd.pinned (.plain (OpenSpec.ofChange fnEncodeFloat64IntegersSpec)) fnEncodeFloat64IntegersCard

/-- THE TIED CARD OF 'n001_64.FnEncodeFloat64Shape'. -/
def fnEncodeFloat64ShapeCard : Claim7 := { stood := { row := fnEncodeFloat64ShapeRow, standIns := [], harness := (true, "7e9b69f3210f013b9cf5f4710c3c7ec2b48fcc245aed23907dfe9164682db861"), looks := false }, kinds := [], alts := [], laidByText := true, laidKinds := [.data, .data, .data, .data, .pinned, .pinned], laidTests := true, laidLooks := .later }
def FnEncodeFloat64ShapeCardSaid : Prop := Claim7.holds Tryd.pinned (.plain (OpenSpec.ofChange fnEncodeFloat64ShapeSpec)) fnEncodeFloat64ShapeCard

/-- THE SECOND FORM's CARD OF 'n001_64.FnEncodeFloat64Integers'. -/
def fnEncodeFloat64IntegersUptoCard : Claim7 := { stood := { row := fnEncodeFloat64IntegersUptoRow, standIns := [], harness := (true, "7e9b69f3210f013b9cf5f4710c3c7ec2b48fcc245aed23907dfe9164682db861"), looks := false }, kinds := [], alts := [], laidByText := true, laidKinds := [.data, .data, .data, .data, .pinned, .pinned], laidTests := true, laidLooks := .later }
def FnEncodeFloat64IntegersUptoCardSaid : Prop := Claim7.holds Tryd.pinned (.plain (OpenSpec.upto fnEncodeFloat64IntegersSpec)) fnEncodeFloat64IntegersUptoCard

/-- THE SECOND FORM's CARD OF 'n001_64.FnEncodeFloat64Shape'. -/
def fnEncodeFloat64ShapeUptoCard : Claim7 := { stood := { row := fnEncodeFloat64ShapeUptoRow, standIns := [], harness := (true, "7e9b69f3210f013b9cf5f4710c3c7ec2b48fcc245aed23907dfe9164682db861"), looks := false }, kinds := [], alts := [], laidByText := true, laidKinds := [.data, .data, .data, .data, .pinned, .pinned], laidTests := true, laidLooks := .later }
def FnEncodeFloat64ShapeUptoCardSaid : Prop := Claim7.holds Tryd.pinned (.plain (OpenSpec.upto fnEncodeFloat64ShapeSpec)) fnEncodeFloat64ShapeUptoCard
end Rows
end Go.Proofs.YtkincdcknmdboaaDoor
