/-
  NARROWER THAN 'FOR EVERY INPUT', by the rows' own cells (each row's printed sentence says how): FnNegateIsExactNegation: laid · FnPlusCaseTable: laid · FnNegateIsInvolutionAndFlipsSign: laid.
  DERIVED. THE GIVEN ROWS OF THIS SEAT. 3 by the template 'for every input the law returns true; each argument reads behind the call as it read before'; 0 by the template 'total and deterministic' (their statements: YteabecjcjlcolaaGreatDoorTotals.lean).
  GIVEN WITH THE SEED: the statements are not yours to turn. If you find one false, say at which input.
  Laid BY PROGRAM, IN A SANDBOX (cutbox-rows.mjs): the forced cells as the released guide's own fill.sh prints them over the translation ec68169e9c3e128b… (all of the seat's roots in one cut). By AI agents, Wed Nov 11 2026. No macro, syntax, notation, axiom, sorry.
-/
import Derived.Test.YteabecjcjlcolaaGreatDoorChecked
import GoSem.Claim
import GoSem.ClaimJoined
import GoSem.ClaimMapViews
import Derived.JoinedTies
import Derived.KernelRfl
namespace Go.Proofs.YteabecjcjlcolaaGreatDoor
/- THE CELL 'sum', in the pinned program and in every row, IS THE sha256 OF THE DUMP (.gsa) THAT YteabecjcjlcolaaGreatDoorProg.lean LOADS. Nothing in Lean hashes anything: it is a label: what it is worth is what the hold of that sum in a sandbox is worth. -/
noncomputable def Tryz.pinned : Pinned := { name := "yteabecjcjlcolaagreatdoor", sum := "ec68169e9c3e128bb4d786f949944280cb9b0f4b13a4aecf5d8d8d7d1b68bf5e", checked := Tryz.checked }
namespace Rows
def none {H : Type} : Left H := { results := [], args := [] }

/- WHAT THE LISTED PACKAGE-LEVEL VARIABLES READ AS WHEN THE CALL BEGINS. Each datum BY PROGRAM (the guide's laid-datum.mjs) off the statement by which the dump's own 'gosem.cut.vars' lays the variable. In a bare row this is a premise. The card (YteabecjcjlcolaaGreatDoorCards.lean) ties it to the program's text. -/
def laid_math_bits_deBruijn32tab {H : Type} : DataW H := .agg [.lit (.int .u8 0), .lit (.int .u8 1), .lit (.int .u8 28), .lit (.int .u8 2), .lit (.int .u8 29), .lit (.int .u8 14), .lit (.int .u8 24), .lit (.int .u8 3), .lit (.int .u8 30), .lit (.int .u8 22), .lit (.int .u8 20), .lit (.int .u8 15), .lit (.int .u8 25), .lit (.int .u8 17), .lit (.int .u8 4), .lit (.int .u8 8), .lit (.int .u8 31), .lit (.int .u8 27), .lit (.int .u8 13), .lit (.int .u8 23), .lit (.int .u8 21), .lit (.int .u8 19), .lit (.int .u8 16), .lit (.int .u8 7), .lit (.int .u8 26), .lit (.int .u8 12), .lit (.int .u8 18), .lit (.int .u8 6), .lit (.int .u8 11), .lit (.int .u8 5), .lit (.int .u8 10), .lit (.int .u8 9)]
def laid_math_bits_deBruijn64tab {H : Type} : DataW H := .agg [.lit (.int .u8 0), .lit (.int .u8 1), .lit (.int .u8 56), .lit (.int .u8 2), .lit (.int .u8 57), .lit (.int .u8 49), .lit (.int .u8 28), .lit (.int .u8 3), .lit (.int .u8 61), .lit (.int .u8 58), .lit (.int .u8 42), .lit (.int .u8 50), .lit (.int .u8 38), .lit (.int .u8 29), .lit (.int .u8 17), .lit (.int .u8 4), .lit (.int .u8 62), .lit (.int .u8 47), .lit (.int .u8 59), .lit (.int .u8 36), .lit (.int .u8 45), .lit (.int .u8 43), .lit (.int .u8 51), .lit (.int .u8 22), .lit (.int .u8 53), .lit (.int .u8 39), .lit (.int .u8 33), .lit (.int .u8 30), .lit (.int .u8 24), .lit (.int .u8 18), .lit (.int .u8 12), .lit (.int .u8 5), .lit (.int .u8 63), .lit (.int .u8 55), .lit (.int .u8 48), .lit (.int .u8 27), .lit (.int .u8 60), .lit (.int .u8 41), .lit (.int .u8 37), .lit (.int .u8 16), .lit (.int .u8 46), .lit (.int .u8 35), .lit (.int .u8 44), .lit (.int .u8 21), .lit (.int .u8 52), .lit (.int .u8 32), .lit (.int .u8 23), .lit (.int .u8 11), .lit (.int .u8 54), .lit (.int .u8 26), .lit (.int .u8 40), .lit (.int .u8 15), .lit (.int .u8 34), .lit (.int .u8 20), .lit (.int .u8 31), .lit (.int .u8 10), .lit (.int .u8 25), .lit (.int .u8 14), .lit (.int .u8 19), .lit (.int .u8 9), .lit (.int .u8 13), .lit (.int .u8 8), .lit (.int .u8 7), .lit (.int .u8 6)]
def laid_github_com_itchyny_gojq_pub_bigall_leafSize {H : Type} : DataW H := .lit (.int .i64 8)
def laid_github_com_itchyny_gojq_pub_bigall_divRecursiveThreshold {H : Type} : DataW H := .lit (.int .i64 40)
def laid_github_com_itchyny_gojq_pub_bigall_karatsubaThreshold {H : Type} : DataW H := .lit (.int .i64 40)
def laid_github_com_itchyny_gojq_pub_bigall_basicSqrThreshold {H : Type} : DataW H := .lit (.int .i64 12)
def laid_github_com_itchyny_gojq_pub_bigall_karatsubaSqrThreshold {H : Type} : DataW H := .lit (.int .i64 80)

/-- 'n001_74.FnNegateIsExactNegation': WHATEVER THE INPUT: true; the input reads as it did. -/
def fnNegateIsExactNegationSpec : ChangeSpec := { name := "fnNegateIsExactNegation", vars := ["github.com/itchyny/gojq/pub/bigall.leafSize", "github.com/itchyny/gojq/pub/bigall.divRecursiveThreshold", "github.com/itchyny/gojq/pub/bigall.karatsubaThreshold", "github.com/itchyny/gojq/pub/bigall.basicSqrThreshold", "github.com/itchyny/gojq/pub/bigall.karatsubaSqrThreshold"], fn := fun _ => fun
  | [d, g1, g2, g3, g4, g5] => { results := [.lit (.bool true)], args := [d], vars := [g1, g2, g3, g4, g5] }
  | _ => none }
def fnNegateIsExactNegationRow : OpenClaim := { program := "yteabecjcjlcolaagreatdoor", sum := "ec68169e9c3e128bb4d786f949944280cb9b0f4b13a4aecf5d8d8d7d1b68bf5e", func := "github.com/itchyny/gojq/n001_74.FnNegateIsExactNegation", spec := "fnNegateIsExactNegation", inPlace := ["math.Float64bits", "math.Float64frombits", "math.archLog", "math/bits.Add64", "math/bits.Sub64"], recurses := true, named := ["math/bits.deBruijn32tab", "math/bits.deBruijn64tab", "github.com/itchyny/gojq/pub/bigall.leafSize", "github.com/itchyny/gojq/pub/bigall.divRecursiveThreshold", "github.com/itchyny/gojq/pub/bigall.karatsubaThreshold", "github.com/itchyny/gojq/pub/bigall.basicSqrThreshold", "github.com/itchyny/gojq/pub/bigall.karatsubaSqrThreshold"], apart := false, laid := [("math/bits.deBruijn32tab", laid_math_bits_deBruijn32tab), ("math/bits.deBruijn64tab", laid_math_bits_deBruijn64tab), ("github.com/itchyny/gojq/pub/bigall.leafSize", laid_github_com_itchyny_gojq_pub_bigall_leafSize), ("github.com/itchyny/gojq/pub/bigall.divRecursiveThreshold", laid_github_com_itchyny_gojq_pub_bigall_divRecursiveThreshold), ("github.com/itchyny/gojq/pub/bigall.karatsubaThreshold", laid_github_com_itchyny_gojq_pub_bigall_karatsubaThreshold), ("github.com/itchyny/gojq/pub/bigall.basicSqrThreshold", laid_github_com_itchyny_gojq_pub_bigall_basicSqrThreshold), ("github.com/itchyny/gojq/pub/bigall.karatsubaSqrThreshold", laid_github_com_itchyny_gojq_pub_bigall_karatsubaSqrThreshold)] }
def FnNegateIsExactNegationSaid : Prop := fnNegateIsExactNegationRow.holds Tryz.pinned (OpenSpec.ofChange fnNegateIsExactNegationSpec)

/-- ITS FALSE NEIGHBOUR: 'it returns false'. Refute it at one input. -/
def fnNegateIsExactNegationWrong : ChangeSpec := { name := "fnNegateIsExactNegation", vars := ["github.com/itchyny/gojq/pub/bigall.leafSize", "github.com/itchyny/gojq/pub/bigall.divRecursiveThreshold", "github.com/itchyny/gojq/pub/bigall.karatsubaThreshold", "github.com/itchyny/gojq/pub/bigall.basicSqrThreshold", "github.com/itchyny/gojq/pub/bigall.karatsubaSqrThreshold"], fn := fun _ => fun
  | [d, g1, g2, g3, g4, g5] => { results := [.lit (.bool false)], args := [d], vars := [g1, g2, g3, g4, g5] }
  | _ => none }
def FnNegateIsExactNegationWrongFalsely : Prop := fnNegateIsExactNegationRow.holds Tryz.pinned (OpenSpec.ofChange fnNegateIsExactNegationWrong)

/-- 'n001_74.FnPlusCaseTable': WHATEVER THE INPUT: true; the input reads as it did. -/
def fnPlusCaseTableSpec : ChangeSpec := { name := "fnPlusCaseTable", vars := ["github.com/itchyny/gojq/pub/bigall.leafSize", "github.com/itchyny/gojq/pub/bigall.divRecursiveThreshold", "github.com/itchyny/gojq/pub/bigall.karatsubaThreshold", "github.com/itchyny/gojq/pub/bigall.basicSqrThreshold", "github.com/itchyny/gojq/pub/bigall.karatsubaSqrThreshold"], fn := fun _ => fun
  | [d1, d2, d3, d4, g1, g2, g3, g4, g5] => { results := [.lit (.bool true)], args := [d1, d2, d3, d4], vars := [g1, g2, g3, g4, g5] }
  | _ => none }
def fnPlusCaseTableRow : OpenClaim := { program := "yteabecjcjlcolaagreatdoor", sum := "ec68169e9c3e128bb4d786f949944280cb9b0f4b13a4aecf5d8d8d7d1b68bf5e", func := "github.com/itchyny/gojq/n001_74.FnPlusCaseTable", spec := "fnPlusCaseTable", inPlace := ["math.Float64bits", "math.Float64frombits", "math.archLog", "math/bits.Add64", "math/bits.Sub64"], recurses := true, named := ["math/bits.deBruijn32tab", "math/bits.deBruijn64tab", "github.com/itchyny/gojq/pub/bigall.leafSize", "github.com/itchyny/gojq/pub/bigall.divRecursiveThreshold", "github.com/itchyny/gojq/pub/bigall.karatsubaThreshold", "github.com/itchyny/gojq/pub/bigall.basicSqrThreshold", "github.com/itchyny/gojq/pub/bigall.karatsubaSqrThreshold"], apart := false, laid := [("math/bits.deBruijn32tab", laid_math_bits_deBruijn32tab), ("math/bits.deBruijn64tab", laid_math_bits_deBruijn64tab), ("github.com/itchyny/gojq/pub/bigall.leafSize", laid_github_com_itchyny_gojq_pub_bigall_leafSize), ("github.com/itchyny/gojq/pub/bigall.divRecursiveThreshold", laid_github_com_itchyny_gojq_pub_bigall_divRecursiveThreshold), ("github.com/itchyny/gojq/pub/bigall.karatsubaThreshold", laid_github_com_itchyny_gojq_pub_bigall_karatsubaThreshold), ("github.com/itchyny/gojq/pub/bigall.basicSqrThreshold", laid_github_com_itchyny_gojq_pub_bigall_basicSqrThreshold), ("github.com/itchyny/gojq/pub/bigall.karatsubaSqrThreshold", laid_github_com_itchyny_gojq_pub_bigall_karatsubaSqrThreshold)] }
def FnPlusCaseTableSaid : Prop := fnPlusCaseTableRow.holds Tryz.pinned (OpenSpec.ofChange fnPlusCaseTableSpec)

/-- ITS FALSE NEIGHBOUR: 'it returns false'. Refute it at one input. -/
def fnPlusCaseTableWrong : ChangeSpec := { name := "fnPlusCaseTable", vars := ["github.com/itchyny/gojq/pub/bigall.leafSize", "github.com/itchyny/gojq/pub/bigall.divRecursiveThreshold", "github.com/itchyny/gojq/pub/bigall.karatsubaThreshold", "github.com/itchyny/gojq/pub/bigall.basicSqrThreshold", "github.com/itchyny/gojq/pub/bigall.karatsubaSqrThreshold"], fn := fun _ => fun
  | [d1, d2, d3, d4, g1, g2, g3, g4, g5] => { results := [.lit (.bool false)], args := [d1, d2, d3, d4], vars := [g1, g2, g3, g4, g5] }
  | _ => none }
def FnPlusCaseTableWrongFalsely : Prop := fnPlusCaseTableRow.holds Tryz.pinned (OpenSpec.ofChange fnPlusCaseTableWrong)

/-- 'n001_74.FnNegateIsInvolutionAndFlipsSign': WHATEVER THE INPUT: true; the input reads as it did. -/
def fnNegateIsInvolutionAndFlipsSignSpec : ChangeSpec := { name := "fnNegateIsInvolutionAndFlipsSign", vars := ["github.com/itchyny/gojq/pub/bigall.leafSize", "github.com/itchyny/gojq/pub/bigall.divRecursiveThreshold", "github.com/itchyny/gojq/pub/bigall.karatsubaThreshold", "github.com/itchyny/gojq/pub/bigall.basicSqrThreshold", "github.com/itchyny/gojq/pub/bigall.karatsubaSqrThreshold"], fn := fun _ => fun
  | [d, g1, g2, g3, g4, g5] => { results := [.lit (.bool true)], args := [d], vars := [g1, g2, g3, g4, g5] }
  | _ => none }
def fnNegateIsInvolutionAndFlipsSignRow : OpenClaim := { program := "yteabecjcjlcolaagreatdoor", sum := "ec68169e9c3e128bb4d786f949944280cb9b0f4b13a4aecf5d8d8d7d1b68bf5e", func := "github.com/itchyny/gojq/n001_74.FnNegateIsInvolutionAndFlipsSign", spec := "fnNegateIsInvolutionAndFlipsSign", inPlace := ["math.Float64bits", "math.Float64frombits", "math.archLog", "math/bits.Add64", "math/bits.Sub64"], recurses := true, named := ["math/bits.deBruijn32tab", "math/bits.deBruijn64tab", "github.com/itchyny/gojq/pub/bigall.leafSize", "github.com/itchyny/gojq/pub/bigall.divRecursiveThreshold", "github.com/itchyny/gojq/pub/bigall.karatsubaThreshold", "github.com/itchyny/gojq/pub/bigall.basicSqrThreshold", "github.com/itchyny/gojq/pub/bigall.karatsubaSqrThreshold"], apart := false, laid := [("math/bits.deBruijn32tab", laid_math_bits_deBruijn32tab), ("math/bits.deBruijn64tab", laid_math_bits_deBruijn64tab), ("github.com/itchyny/gojq/pub/bigall.leafSize", laid_github_com_itchyny_gojq_pub_bigall_leafSize), ("github.com/itchyny/gojq/pub/bigall.divRecursiveThreshold", laid_github_com_itchyny_gojq_pub_bigall_divRecursiveThreshold), ("github.com/itchyny/gojq/pub/bigall.karatsubaThreshold", laid_github_com_itchyny_gojq_pub_bigall_karatsubaThreshold), ("github.com/itchyny/gojq/pub/bigall.basicSqrThreshold", laid_github_com_itchyny_gojq_pub_bigall_basicSqrThreshold), ("github.com/itchyny/gojq/pub/bigall.karatsubaSqrThreshold", laid_github_com_itchyny_gojq_pub_bigall_karatsubaSqrThreshold)] }
def FnNegateIsInvolutionAndFlipsSignSaid : Prop := fnNegateIsInvolutionAndFlipsSignRow.holds Tryz.pinned (OpenSpec.ofChange fnNegateIsInvolutionAndFlipsSignSpec)

/-- ITS FALSE NEIGHBOUR: 'it returns false'. Refute it at one input. -/
def fnNegateIsInvolutionAndFlipsSignWrong : ChangeSpec := { name := "fnNegateIsInvolutionAndFlipsSign", vars := ["github.com/itchyny/gojq/pub/bigall.leafSize", "github.com/itchyny/gojq/pub/bigall.divRecursiveThreshold", "github.com/itchyny/gojq/pub/bigall.karatsubaThreshold", "github.com/itchyny/gojq/pub/bigall.basicSqrThreshold", "github.com/itchyny/gojq/pub/bigall.karatsubaSqrThreshold"], fn := fun _ => fun
  | [d, g1, g2, g3, g4, g5] => { results := [.lit (.bool false)], args := [d], vars := [g1, g2, g3, g4, g5] }
  | _ => none }
def FnNegateIsInvolutionAndFlipsSignWrongFalsely : Prop := fnNegateIsInvolutionAndFlipsSignRow.holds Tryz.pinned (OpenSpec.ofChange fnNegateIsInvolutionAndFlipsSignWrong)

/- THE SECOND FORM. 'bulk': how many values and letters a reading holds, each counted each time it is reached (what is shared counts as often as it is met; a slice's spare places count too). A statement '..UptoSaid' is the law's where the arguments, and the package variables that the reading takes, are together of bulk at most 1048576: NARROWER than '..Said'. Prove '..Said' where nothing that the law and all that it calls make is longer than what came in: it says more and counts as full. Else prove '..UptoSaid'. A law counts once. -/
mutual
def uptoBulk {H : Type} : DataW H → Nat
  | .lit (.string bytes) => bytes.length + 1
  | .lit _ => 1
  | .nil => 1
  | .ptr d => uptoBulk d + 1
  | .slice elems spare => uptoBulkAll elems + uptoBulkAll spare + 1
  | .agg parts => uptoBulkAll parts + 1
  | .iface _ d => uptoBulk d + 1
  | .map entries => uptoBulkEntries entries + 1
  | .held _ => 1
def uptoBulkAll {H : Type} : List (DataW H) → Nat
  | [] => 0
  | d :: r => uptoBulk d + uptoBulkAll r
def uptoBulkEntries {H : Type} : List (Lit × DataW H) → Nat
  | [] => 0
  | x :: r => uptoBulkEntry x + uptoBulkEntries r
def uptoBulkEntry {H : Type} : Lit × DataW H → Nat
  | (.string bytes, d) => bytes.length + uptoBulk d + 1
  | (_, d) => uptoBulk d + 1
 end
def uptoSmall : (H : Type) → List (DataW H) → Bool := fun _ ds => decide (uptoBulkAll ds ≤ 1048576)
def OpenSpec.upto (s : _root_.Go.ChangeSpec) : _root_.Go.OpenSpec := { _root_.Go.OpenSpec.ofChange s with cond := some uptoSmall }

/-- 'n001_74.FnNegateIsExactNegation', WHERE WHAT IT READS IS OF BULK AT MOST 1048576: true; the input reads as it did. -/
def fnNegateIsExactNegationUptoRow : OpenClaim := { program := "yteabecjcjlcolaagreatdoor", sum := "ec68169e9c3e128bb4d786f949944280cb9b0f4b13a4aecf5d8d8d7d1b68bf5e", func := "github.com/itchyny/gojq/n001_74.FnNegateIsExactNegation", spec := "fnNegateIsExactNegation", inPlace := ["math.Float64bits", "math.Float64frombits", "math.archLog", "math/bits.Add64", "math/bits.Sub64"], recurses := true, named := ["math/bits.deBruijn32tab", "math/bits.deBruijn64tab", "github.com/itchyny/gojq/pub/bigall.leafSize", "github.com/itchyny/gojq/pub/bigall.divRecursiveThreshold", "github.com/itchyny/gojq/pub/bigall.karatsubaThreshold", "github.com/itchyny/gojq/pub/bigall.basicSqrThreshold", "github.com/itchyny/gojq/pub/bigall.karatsubaSqrThreshold"], apart := false, laid := [("math/bits.deBruijn32tab", laid_math_bits_deBruijn32tab), ("math/bits.deBruijn64tab", laid_math_bits_deBruijn64tab), ("github.com/itchyny/gojq/pub/bigall.leafSize", laid_github_com_itchyny_gojq_pub_bigall_leafSize), ("github.com/itchyny/gojq/pub/bigall.divRecursiveThreshold", laid_github_com_itchyny_gojq_pub_bigall_divRecursiveThreshold), ("github.com/itchyny/gojq/pub/bigall.karatsubaThreshold", laid_github_com_itchyny_gojq_pub_bigall_karatsubaThreshold), ("github.com/itchyny/gojq/pub/bigall.basicSqrThreshold", laid_github_com_itchyny_gojq_pub_bigall_basicSqrThreshold), ("github.com/itchyny/gojq/pub/bigall.karatsubaSqrThreshold", laid_github_com_itchyny_gojq_pub_bigall_karatsubaSqrThreshold)], narrowed := true }
def FnNegateIsExactNegationUptoSaid : Prop := fnNegateIsExactNegationUptoRow.holds Tryz.pinned (OpenSpec.upto fnNegateIsExactNegationSpec)

/-- 'n001_74.FnPlusCaseTable', WHERE WHAT IT READS IS OF BULK AT MOST 1048576: true; the input reads as it did. -/
def fnPlusCaseTableUptoRow : OpenClaim := { program := "yteabecjcjlcolaagreatdoor", sum := "ec68169e9c3e128bb4d786f949944280cb9b0f4b13a4aecf5d8d8d7d1b68bf5e", func := "github.com/itchyny/gojq/n001_74.FnPlusCaseTable", spec := "fnPlusCaseTable", inPlace := ["math.Float64bits", "math.Float64frombits", "math.archLog", "math/bits.Add64", "math/bits.Sub64"], recurses := true, named := ["math/bits.deBruijn32tab", "math/bits.deBruijn64tab", "github.com/itchyny/gojq/pub/bigall.leafSize", "github.com/itchyny/gojq/pub/bigall.divRecursiveThreshold", "github.com/itchyny/gojq/pub/bigall.karatsubaThreshold", "github.com/itchyny/gojq/pub/bigall.basicSqrThreshold", "github.com/itchyny/gojq/pub/bigall.karatsubaSqrThreshold"], apart := false, laid := [("math/bits.deBruijn32tab", laid_math_bits_deBruijn32tab), ("math/bits.deBruijn64tab", laid_math_bits_deBruijn64tab), ("github.com/itchyny/gojq/pub/bigall.leafSize", laid_github_com_itchyny_gojq_pub_bigall_leafSize), ("github.com/itchyny/gojq/pub/bigall.divRecursiveThreshold", laid_github_com_itchyny_gojq_pub_bigall_divRecursiveThreshold), ("github.com/itchyny/gojq/pub/bigall.karatsubaThreshold", laid_github_com_itchyny_gojq_pub_bigall_karatsubaThreshold), ("github.com/itchyny/gojq/pub/bigall.basicSqrThreshold", laid_github_com_itchyny_gojq_pub_bigall_basicSqrThreshold), ("github.com/itchyny/gojq/pub/bigall.karatsubaSqrThreshold", laid_github_com_itchyny_gojq_pub_bigall_karatsubaSqrThreshold)], narrowed := true }
def FnPlusCaseTableUptoSaid : Prop := fnPlusCaseTableUptoRow.holds Tryz.pinned (OpenSpec.upto fnPlusCaseTableSpec)

/-- 'n001_74.FnNegateIsInvolutionAndFlipsSign', WHERE WHAT IT READS IS OF BULK AT MOST 1048576: true; the input reads as it did. -/
def fnNegateIsInvolutionAndFlipsSignUptoRow : OpenClaim := { program := "yteabecjcjlcolaagreatdoor", sum := "ec68169e9c3e128bb4d786f949944280cb9b0f4b13a4aecf5d8d8d7d1b68bf5e", func := "github.com/itchyny/gojq/n001_74.FnNegateIsInvolutionAndFlipsSign", spec := "fnNegateIsInvolutionAndFlipsSign", inPlace := ["math.Float64bits", "math.Float64frombits", "math.archLog", "math/bits.Add64", "math/bits.Sub64"], recurses := true, named := ["math/bits.deBruijn32tab", "math/bits.deBruijn64tab", "github.com/itchyny/gojq/pub/bigall.leafSize", "github.com/itchyny/gojq/pub/bigall.divRecursiveThreshold", "github.com/itchyny/gojq/pub/bigall.karatsubaThreshold", "github.com/itchyny/gojq/pub/bigall.basicSqrThreshold", "github.com/itchyny/gojq/pub/bigall.karatsubaSqrThreshold"], apart := false, laid := [("math/bits.deBruijn32tab", laid_math_bits_deBruijn32tab), ("math/bits.deBruijn64tab", laid_math_bits_deBruijn64tab), ("github.com/itchyny/gojq/pub/bigall.leafSize", laid_github_com_itchyny_gojq_pub_bigall_leafSize), ("github.com/itchyny/gojq/pub/bigall.divRecursiveThreshold", laid_github_com_itchyny_gojq_pub_bigall_divRecursiveThreshold), ("github.com/itchyny/gojq/pub/bigall.karatsubaThreshold", laid_github_com_itchyny_gojq_pub_bigall_karatsubaThreshold), ("github.com/itchyny/gojq/pub/bigall.basicSqrThreshold", laid_github_com_itchyny_gojq_pub_bigall_basicSqrThreshold), ("github.com/itchyny/gojq/pub/bigall.karatsubaSqrThreshold", laid_github_com_itchyny_gojq_pub_bigall_karatsubaSqrThreshold)], narrowed := true }
def FnNegateIsInvolutionAndFlipsSignUptoSaid : Prop := fnNegateIsInvolutionAndFlipsSignUptoRow.holds Tryz.pinned (OpenSpec.upto fnNegateIsInvolutionAndFlipsSignSpec)

end Rows
end Go.Proofs.YteabecjcjlcolaaGreatDoor
