/-
  No cell of these rows narrows 'for every input' (looked for: loops, veiled, ifaces, maps, wideKeys, modest, calm, conditions, laid).
  DERIVED. THE GIVEN ROWS OF THIS SEAT. 3 by the template 'for every input the law returns true; each argument reads behind the call as it read before'; 0 by the template 'total and deterministic' (their statements: YtiomakknhaiikaaTotals.lean).
  GIVEN WITH THE SEED: the statements are not yours to turn. If you find one false, say at which input.
  Laid BY PROGRAM, IN A SANDBOX (cutbox-rows.mjs): the forced cells as the released guide's own fill.sh prints them over the translation fcae50ef13667c76… (all of the seat's roots in one cut). By AI agents, Wed Nov 11 2026. No macro, syntax, notation, axiom, sorry.
-/
import Derived.Test.YtiomakknhaiikaaChecked
import GoSem.Claim
import GoSem.ClaimJoined
import GoSem.ClaimMapViews
import Derived.JoinedTies
import Derived.KernelRfl
namespace Go.Proofs.Ytiomakknhaiikaa
/- THE CELL 'sum', in the pinned program and in every row, IS THE sha256 OF THE DUMP (.gsa) THAT YtiomakknhaiikaaProg.lean LOADS. Nothing in Lean hashes anything: it is a label: what it is worth is what the hold of that sum in a sandbox is worth. -/
noncomputable def Try.pinned : Pinned := { name := "ytiomakknhaiikaa", sum := "fcae50ef13667c76c44572a4c7c320e9d835ab0f45f1e7d3aa46f18264bc9764", checked := Try.checked }
namespace Rows
def none {H : Type} : Left H := { results := [], args := [] }

/-- 'n001_32.FnTimeToEpochExactOnSubdivisions': WHATEVER THE INPUT: true; the input reads as it did. -/
def fnTimeToEpochExactOnSubdivisionsSpec : ChangeSpec := { name := "fnTimeToEpochExactOnSubdivisions", fn := fun _ => fun
  | [d1, d2] => { results := [.lit (.bool true)], args := [d1, d2] }
  | _ => none }
def fnTimeToEpochExactOnSubdivisionsRow : OpenClaim := { program := "ytiomakknhaiikaa", sum := "fcae50ef13667c76c44572a4c7c320e9d835ab0f45f1e7d3aa46f18264bc9764", func := "github.com/itchyny/gojq/n001_32.FnTimeToEpochExactOnSubdivisions", spec := "fnTimeToEpochExactOnSubdivisions", apart := false }
def FnTimeToEpochExactOnSubdivisionsSaid : Prop := fnTimeToEpochExactOnSubdivisionsRow.holds Try.pinned (OpenSpec.ofChange fnTimeToEpochExactOnSubdivisionsSpec)

/-- ITS FALSE NEIGHBOUR: 'it returns false'. Refute it at one input. -/
def fnTimeToEpochExactOnSubdivisionsWrong : ChangeSpec := { name := "fnTimeToEpochExactOnSubdivisions", fn := fun _ => fun
  | [d1, d2] => { results := [.lit (.bool false)], args := [d1, d2] }
  | _ => none }
def FnTimeToEpochExactOnSubdivisionsWrongFalsely : Prop := fnTimeToEpochExactOnSubdivisionsRow.holds Try.pinned (OpenSpec.ofChange fnTimeToEpochExactOnSubdivisionsWrong)

/-- 'n001_32.FnEpochToArrayUTCMatchesCivilModel': WHATEVER THE INPUT: true; the input reads as it did. -/
def fnEpochToArrayUTCMatchesCivilModelSpec : ChangeSpec := { name := "fnEpochToArrayUTCMatchesCivilModel", fn := fun _ => fun
  | [d1, d2] => { results := [.lit (.bool true)], args := [d1, d2] }
  | _ => none }
def fnEpochToArrayUTCMatchesCivilModelRow : OpenClaim := { program := "ytiomakknhaiikaa", sum := "fcae50ef13667c76c44572a4c7c320e9d835ab0f45f1e7d3aa46f18264bc9764", func := "github.com/itchyny/gojq/n001_32.FnEpochToArrayUTCMatchesCivilModel", spec := "fnEpochToArrayUTCMatchesCivilModel", inPlace := ["math.archFloor", "math.Float64bits", "math.Float64frombits", "math.archTrunc"], apart := false }
def FnEpochToArrayUTCMatchesCivilModelSaid : Prop := fnEpochToArrayUTCMatchesCivilModelRow.holds Try.pinned (OpenSpec.ofChange fnEpochToArrayUTCMatchesCivilModelSpec)

/-- ITS FALSE NEIGHBOUR: 'it returns false'. Refute it at one input. -/
def fnEpochToArrayUTCMatchesCivilModelWrong : ChangeSpec := { name := "fnEpochToArrayUTCMatchesCivilModel", fn := fun _ => fun
  | [d1, d2] => { results := [.lit (.bool false)], args := [d1, d2] }
  | _ => none }
def FnEpochToArrayUTCMatchesCivilModelWrongFalsely : Prop := fnEpochToArrayUTCMatchesCivilModelRow.holds Try.pinned (OpenSpec.ofChange fnEpochToArrayUTCMatchesCivilModelWrong)

/-- 'n001_32.FnTimeToEpochMonotoneAndBracketed': WHATEVER THE INPUT: true; the input reads as it did. -/
def fnTimeToEpochMonotoneAndBracketedSpec : ChangeSpec := { name := "fnTimeToEpochMonotoneAndBracketed", fn := fun _ => fun
  | [d1, d2, d3, d4] => { results := [.lit (.bool true)], args := [d1, d2, d3, d4] }
  | _ => none }
def fnTimeToEpochMonotoneAndBracketedRow : OpenClaim := { program := "ytiomakknhaiikaa", sum := "fcae50ef13667c76c44572a4c7c320e9d835ab0f45f1e7d3aa46f18264bc9764", func := "github.com/itchyny/gojq/n001_32.FnTimeToEpochMonotoneAndBracketed", spec := "fnTimeToEpochMonotoneAndBracketed", apart := false }
def FnTimeToEpochMonotoneAndBracketedSaid : Prop := fnTimeToEpochMonotoneAndBracketedRow.holds Try.pinned (OpenSpec.ofChange fnTimeToEpochMonotoneAndBracketedSpec)

/-- ITS FALSE NEIGHBOUR: 'it returns false'. Refute it at one input. -/
def fnTimeToEpochMonotoneAndBracketedWrong : ChangeSpec := { name := "fnTimeToEpochMonotoneAndBracketed", fn := fun _ => fun
  | [d1, d2, d3, d4] => { results := [.lit (.bool false)], args := [d1, d2, d3, d4] }
  | _ => none }
def FnTimeToEpochMonotoneAndBracketedWrongFalsely : Prop := fnTimeToEpochMonotoneAndBracketedRow.holds Try.pinned (OpenSpec.ofChange fnTimeToEpochMonotoneAndBracketedWrong)

/- THE SECOND FORM. 'bulk': how many values and letters a reading holds, each counted each time it is reached (what is shared counts as often as it is met; a slice's spare places count too). A statement '..UptoSaid' is the law's where the arguments, and the package variables that the reading takes, are together of bulk at most 1048576: NARROWER than '..Said'. Prove '..Said' where nothing that the law and all that it calls make is longer than what came in: it says more and counts as full. Else prove '..UptoSaid'. A law counts once. -/
mutual
def uptoBulk {H : Type} : DataW H → Nat
  | .lit (.string bytes) => bytes.length + 1
  | .lit _ => 1
  | .nil => 1
  | .ptr d => uptoBulk d + 1
  | .slice elems spare => uptoBulkAll elems + uptoBulkAll spare + 1
  | .agg parts => uptoBulkAll parts + 1
  | .iface _ d => uptoBulk d + 1
  | .map entries => uptoBulkEntries entries + 1
  | .held _ => 1
def uptoBulkAll {H : Type} : List (DataW H) → Nat
  | [] => 0
  | d :: r => uptoBulk d + uptoBulkAll r
def uptoBulkEntries {H : Type} : List (Lit × DataW H) → Nat
  | [] => 0
  | x :: r => uptoBulkEntry x + uptoBulkEntries r
def uptoBulkEntry {H : Type} : Lit × DataW H → Nat
  | (.string bytes, d) => bytes.length + uptoBulk d + 1
  | (_, d) => uptoBulk d + 1
 end
def uptoSmall : (H : Type) → List (DataW H) → Bool := fun _ ds => decide (uptoBulkAll ds ≤ 1048576)
def OpenSpec.upto (s : _root_.Go.ChangeSpec) : _root_.Go.OpenSpec := { _root_.Go.OpenSpec.ofChange s with cond := some uptoSmall }

/-- 'n001_32.FnTimeToEpochExactOnSubdivisions', WHERE WHAT IT READS IS OF BULK AT MOST 1048576: true; the input reads as it did. -/
def fnTimeToEpochExactOnSubdivisionsUptoRow : OpenClaim := { program := "ytiomakknhaiikaa", sum := "fcae50ef13667c76c44572a4c7c320e9d835ab0f45f1e7d3aa46f18264bc9764", func := "github.com/itchyny/gojq/n001_32.FnTimeToEpochExactOnSubdivisions", spec := "fnTimeToEpochExactOnSubdivisions", apart := false, narrowed := true }
def FnTimeToEpochExactOnSubdivisionsUptoSaid : Prop := fnTimeToEpochExactOnSubdivisionsUptoRow.holds Try.pinned (OpenSpec.upto fnTimeToEpochExactOnSubdivisionsSpec)

/-- 'n001_32.FnEpochToArrayUTCMatchesCivilModel', WHERE WHAT IT READS IS OF BULK AT MOST 1048576: true; the input reads as it did. -/
def fnEpochToArrayUTCMatchesCivilModelUptoRow : OpenClaim := { program := "ytiomakknhaiikaa", sum := "fcae50ef13667c76c44572a4c7c320e9d835ab0f45f1e7d3aa46f18264bc9764", func := "github.com/itchyny/gojq/n001_32.FnEpochToArrayUTCMatchesCivilModel", spec := "fnEpochToArrayUTCMatchesCivilModel", inPlace := ["math.archFloor", "math.Float64bits", "math.Float64frombits", "math.archTrunc"], apart := false, narrowed := true }
def FnEpochToArrayUTCMatchesCivilModelUptoSaid : Prop := fnEpochToArrayUTCMatchesCivilModelUptoRow.holds Try.pinned (OpenSpec.upto fnEpochToArrayUTCMatchesCivilModelSpec)

/-- 'n001_32.FnTimeToEpochMonotoneAndBracketed', WHERE WHAT IT READS IS OF BULK AT MOST 1048576: true; the input reads as it did. -/
def fnTimeToEpochMonotoneAndBracketedUptoRow : OpenClaim := { program := "ytiomakknhaiikaa", sum := "fcae50ef13667c76c44572a4c7c320e9d835ab0f45f1e7d3aa46f18264bc9764", func := "github.com/itchyny/gojq/n001_32.FnTimeToEpochMonotoneAndBracketed", spec := "fnTimeToEpochMonotoneAndBracketed", apart := false, narrowed := true }
def FnTimeToEpochMonotoneAndBracketedUptoSaid : Prop := fnTimeToEpochMonotoneAndBracketedUptoRow.holds Try.pinned (OpenSpec.upto fnTimeToEpochMonotoneAndBracketedSpec)

end Rows
end Go.Proofs.Ytiomakknhaiikaa
