/-
  DERIVED. GIVEN WITH THE SEED: THE CARDS: each row of YtafmnkpjohlcpaaGreatDoorRows.lean that lists a variable, with what it lists TIED to the program's text (the seventh form; the later family's looks); each row that meets fmt, with fmt's text TOLD by the authors' own Lean function (tested against real Go, not proved from fmt's source: count such statements apart). THE CARD IS WHAT COUNTS. Prove the row's statement (the work); the ties are given (YtafmnkpjohlcpaaGreatDoorTie.lean); close each card by the builder's one call (the guide's Derived/Test/ToyasCard.lean, 'card_holds'). Laid BY PROGRAM, IN A SANDBOX (cutbox-door.mjs). By AI agents, Wed Nov 11 2026. No macro, syntax, notation, axiom, sorry.
-/
import Derived.Test.YtafmnkpjohlcpaaGreatDoorRows
import GoSem.ClaimSeven
namespace Go.Proofs.YtafmnkpjohlcpaaGreatDoor
namespace Rows

/-- THE TIED CARD OF 'n001_21.FnFuncErrorAgreesWithHaltError'. -/
def fnFuncErrorAgreesWithHaltErrorCard : Claim7 := { stood := { row := fnFuncErrorAgreesWithHaltErrorRow, standIns := [], harness := (true, "c18fa4b21a71d0d0bfe9400a3eda762bdfdfa1cb98488e96b40a81e691416259"), looks := true }, kinds := [], alts := [], laidByText := true, laidKinds := [.data, .data, .widerDeep, .widerDeep, .data, .data, .data, .data, .data, .sentinel, .sentinel, .sentinel, .sentinel, .sentinel, .pinned, .pinned], laidTests := true, laidLooks := .later }
def FnFuncErrorAgreesWithHaltErrorCardSaid : Prop := Claim7.holds Tryz.pinned (.plain (OpenSpec.ofChange fnFuncErrorAgreesWithHaltErrorSpec)) fnFuncErrorAgreesWithHaltErrorCard

/-- THE TIED CARD OF 'n001_21.FnFuncHaltIsHaltErrorNullZero'. -/
def fnFuncHaltIsHaltErrorNullZeroCard : Claim7 := { stood := { row := fnFuncHaltIsHaltErrorNullZeroRow, standIns := [], harness := (true, "c18fa4b21a71d0d0bfe9400a3eda762bdfdfa1cb98488e96b40a81e691416259"), looks := true }, kinds := [], alts := [], laidByText := true, laidKinds := [.data, .data, .widerDeep, .widerDeep, .data, .data, .data, .data, .data, .sentinel, .sentinel, .sentinel, .sentinel, .sentinel, .pinned, .pinned], laidTests := true, laidLooks := .later }
def FnFuncHaltIsHaltErrorNullZeroCardSaid : Prop := Claim7.holds Tryz.pinned (.plain (OpenSpec.ofChange fnFuncHaltIsHaltErrorNullZeroSpec)) fnFuncHaltIsHaltErrorNullZeroCard

/-- THE TIED CARD OF 'n001_21.FnToIntNumberKindsAgree'. -/
def fnToIntNumberKindsAgreeCard : Claim7 := { stood := { row := fnToIntNumberKindsAgreeRow, standIns := [], harness := (true, "c18fa4b21a71d0d0bfe9400a3eda762bdfdfa1cb98488e96b40a81e691416259"), looks := true }, kinds := [], alts := [], laidByText := true, laidKinds := [.data, .data, .widerDeep, .widerDeep, .data, .data, .data, .data, .data, .sentinel, .sentinel, .sentinel, .sentinel, .sentinel, .pinned, .pinned], laidTests := true, laidLooks := .later }
def FnToIntNumberKindsAgreeCardSaid : Prop := Claim7.holds Tryz.pinned (.plain (OpenSpec.ofChange fnToIntNumberKindsAgreeSpec)) fnToIntNumberKindsAgreeCard

/-- THE TIED CARD OF 'n001_21.FnToIntFloatCases'. -/
def fnToIntFloatCasesCard : Claim7 := { stood := { row := fnToIntFloatCasesRow, standIns := [], harness := (true, "c18fa4b21a71d0d0bfe9400a3eda762bdfdfa1cb98488e96b40a81e691416259"), looks := true }, kinds := [], alts := [], laidByText := true, laidKinds := [.data, .data, .widerDeep, .widerDeep, .data, .data, .data, .data, .data, .sentinel, .sentinel, .sentinel, .sentinel, .sentinel, .pinned, .pinned], laidTests := true, laidLooks := .later }
def FnToIntFloatCasesCardSaid : Prop := Claim7.holds Tryz.pinned (.plain (OpenSpec.ofChange fnToIntFloatCasesSpec)) fnToIntFloatCasesCard

/-- THE SECOND FORM's CARD OF 'n001_21.FnFuncErrorAgreesWithHaltError'. -/
def fnFuncErrorAgreesWithHaltErrorUptoCard : Claim7 := { stood := { row := fnFuncErrorAgreesWithHaltErrorUptoRow, standIns := [], harness := (true, "c18fa4b21a71d0d0bfe9400a3eda762bdfdfa1cb98488e96b40a81e691416259"), looks := true }, kinds := [], alts := [], laidByText := true, laidKinds := [.data, .data, .widerDeep, .widerDeep, .data, .data, .data, .data, .data, .sentinel, .sentinel, .sentinel, .sentinel, .sentinel, .pinned, .pinned], laidTests := true, laidLooks := .later }
def FnFuncErrorAgreesWithHaltErrorUptoCardSaid : Prop := Claim7.holds Tryz.pinned (.plain (OpenSpec.upto fnFuncErrorAgreesWithHaltErrorSpec)) fnFuncErrorAgreesWithHaltErrorUptoCard

/-- THE SECOND FORM's CARD OF 'n001_21.FnFuncHaltIsHaltErrorNullZero'. -/
def fnFuncHaltIsHaltErrorNullZeroUptoCard : Claim7 := { stood := { row := fnFuncHaltIsHaltErrorNullZeroUptoRow, standIns := [], harness := (true, "c18fa4b21a71d0d0bfe9400a3eda762bdfdfa1cb98488e96b40a81e691416259"), looks := true }, kinds := [], alts := [], laidByText := true, laidKinds := [.data, .data, .widerDeep, .widerDeep, .data, .data, .data, .data, .data, .sentinel, .sentinel, .sentinel, .sentinel, .sentinel, .pinned, .pinned], laidTests := true, laidLooks := .later }
def FnFuncHaltIsHaltErrorNullZeroUptoCardSaid : Prop := Claim7.holds Tryz.pinned (.plain (OpenSpec.upto fnFuncHaltIsHaltErrorNullZeroSpec)) fnFuncHaltIsHaltErrorNullZeroUptoCard

/-- THE SECOND FORM's CARD OF 'n001_21.FnToIntNumberKindsAgree'. -/
def fnToIntNumberKindsAgreeUptoCard : Claim7 := { stood := { row := fnToIntNumberKindsAgreeUptoRow, standIns := [], harness := (true, "c18fa4b21a71d0d0bfe9400a3eda762bdfdfa1cb98488e96b40a81e691416259"), looks := true }, kinds := [], alts := [], laidByText := true, laidKinds := [.data, .data, .widerDeep, .widerDeep, .data, .data, .data, .data, .data, .sentinel, .sentinel, .sentinel, .sentinel, .sentinel, .pinned, .pinned], laidTests := true, laidLooks := .later }
def FnToIntNumberKindsAgreeUptoCardSaid : Prop := Claim7.holds Tryz.pinned (.plain (OpenSpec.upto fnToIntNumberKindsAgreeSpec)) fnToIntNumberKindsAgreeUptoCard

/-- THE SECOND FORM's CARD OF 'n001_21.FnToIntFloatCases'. -/
def fnToIntFloatCasesUptoCard : Claim7 := { stood := { row := fnToIntFloatCasesUptoRow, standIns := [], harness := (true, "c18fa4b21a71d0d0bfe9400a3eda762bdfdfa1cb98488e96b40a81e691416259"), looks := true }, kinds := [], alts := [], laidByText := true, laidKinds := [.data, .data, .widerDeep, .widerDeep, .data, .data, .data, .data, .data, .sentinel, .sentinel, .sentinel, .sentinel, .sentinel, .pinned, .pinned], laidTests := true, laidLooks := .later }
def FnToIntFloatCasesUptoCardSaid : Prop := Claim7.holds Tryz.pinned (.plain (OpenSpec.upto fnToIntFloatCasesSpec)) fnToIntFloatCasesUptoCard
end Rows
end Go.Proofs.YtafmnkpjohlcpaaGreatDoor
