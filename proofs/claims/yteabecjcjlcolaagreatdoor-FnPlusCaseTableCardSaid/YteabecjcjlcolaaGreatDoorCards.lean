/-
  DERIVED. GIVEN WITH THE SEED: THE CARDS: each row of YteabecjcjlcolaaGreatDoorRows.lean that lists a variable, with what it lists TIED to the program's text (the seventh form; the later family's looks); each row that meets fmt, with fmt's text TOLD by the authors' own Lean function (tested against real Go, not proved from fmt's source: count such statements apart). THE CARD IS WHAT COUNTS. Prove the row's statement (the work); the ties are given (YteabecjcjlcolaaGreatDoorTie.lean); close each card by the builder's one call (the guide's Derived/Test/ToyasCard.lean, 'card_holds'). Laid BY PROGRAM, IN A SANDBOX (cutbox-door.mjs). By AI agents, Wed Nov 11 2026. No macro, syntax, notation, axiom, sorry.
-/
import Derived.Test.YteabecjcjlcolaaGreatDoorRows
import GoSem.ClaimSeven
namespace Go.Proofs.YteabecjcjlcolaaGreatDoor
namespace Rows

/-- THE TIED CARD OF 'n001_74.FnNegateIsExactNegation'. -/
def fnNegateIsExactNegationCard : Claim7 := { stood := { row := fnNegateIsExactNegationRow, standIns := [], harness := (true, "caf3e927b6deda2604365eefa60999ed61f58a5f0627c56f5b5fdd4f407db58f"), looks := true }, kinds := [], alts := [], laidByText := true, laidKinds := [.data, .data, .data, .data, .data, .data, .data], laidTests := true, laidLooks := .later }
def FnNegateIsExactNegationCardSaid : Prop := Claim7.holds Tryz.pinned (.plain (OpenSpec.ofChange fnNegateIsExactNegationSpec)) fnNegateIsExactNegationCard

/-- THE TIED CARD OF 'n001_74.FnPlusCaseTable'. -/
def fnPlusCaseTableCard : Claim7 := { stood := { row := fnPlusCaseTableRow, standIns := [], harness := (true, "caf3e927b6deda2604365eefa60999ed61f58a5f0627c56f5b5fdd4f407db58f"), looks := true }, kinds := [], alts := [], laidByText := true, laidKinds := [.data, .data, .data, .data, .data, .data, .data], laidTests := true, laidLooks := .later }
def FnPlusCaseTableCardSaid : Prop := Claim7.holds Tryz.pinned (.plain (OpenSpec.ofChange fnPlusCaseTableSpec)) fnPlusCaseTableCard

/-- THE TIED CARD OF 'n001_74.FnNegateIsInvolutionAndFlipsSign'. -/
def fnNegateIsInvolutionAndFlipsSignCard : Claim7 := { stood := { row := fnNegateIsInvolutionAndFlipsSignRow, standIns := [], harness := (true, "caf3e927b6deda2604365eefa60999ed61f58a5f0627c56f5b5fdd4f407db58f"), looks := true }, kinds := [], alts := [], laidByText := true, laidKinds := [.data, .data, .data, .data, .data, .data, .data], laidTests := true, laidLooks := .later }
def FnNegateIsInvolutionAndFlipsSignCardSaid : Prop := Claim7.holds Tryz.pinned (.plain (OpenSpec.ofChange fnNegateIsInvolutionAndFlipsSignSpec)) fnNegateIsInvolutionAndFlipsSignCard

/-- THE SECOND FORM's CARD OF 'n001_74.FnNegateIsExactNegation'. -/
def fnNegateIsExactNegationUptoCard : Claim7 := { stood := { row := fnNegateIsExactNegationUptoRow, standIns := [], harness := (true, "caf3e927b6deda2604365eefa60999ed61f58a5f0627c56f5b5fdd4f407db58f"), looks := true }, kinds := [], alts := [], laidByText := true, laidKinds := [.data, .data, .data, .data, .data, .data, .data], laidTests := true, laidLooks := .later }
def FnNegateIsExactNegationUptoCardSaid : Prop := Claim7.holds Tryz.pinned (.plain (OpenSpec.upto fnNegateIsExactNegationSpec)) fnNegateIsExactNegationUptoCard

/-- THE SECOND FORM's CARD OF 'n001_74.FnPlusCaseTable'. -/
def fnPlusCaseTableUptoCard : Claim7 := { stood := { row := fnPlusCaseTableUptoRow, standIns := [], harness := (true, "caf3e927b6deda2604365eefa60999ed61f58a5f0627c56f5b5fdd4f407db58f"), looks := true }, kinds := [], alts := [], laidByText := true, laidKinds := [.data, .data, .data, .data, .data, .data, .data], laidTests := true, laidLooks := .later }
def FnPlusCaseTableUptoCardSaid : Prop := Claim7.holds Tryz.pinned (.plain (OpenSpec.upto fnPlusCaseTableSpec)) fnPlusCaseTableUptoCard

/-- THE SECOND FORM's CARD OF 'n001_74.FnNegateIsInvolutionAndFlipsSign'. -/
def fnNegateIsInvolutionAndFlipsSignUptoCard : Claim7 := { stood := { row := fnNegateIsInvolutionAndFlipsSignUptoRow, standIns := [], harness := (true, "caf3e927b6deda2604365eefa60999ed61f58a5f0627c56f5b5fdd4f407db58f"), looks := true }, kinds := [], alts := [], laidByText := true, laidKinds := [.data, .data, .data, .data, .data, .data, .data], laidTests := true, laidLooks := .later }
def FnNegateIsInvolutionAndFlipsSignUptoCardSaid : Prop := Claim7.holds Tryz.pinned (.plain (OpenSpec.upto fnNegateIsInvolutionAndFlipsSignSpec)) fnNegateIsInvolutionAndFlipsSignUptoCard
end Rows
end Go.Proofs.YteabecjcjlcolaaGreatDoor
