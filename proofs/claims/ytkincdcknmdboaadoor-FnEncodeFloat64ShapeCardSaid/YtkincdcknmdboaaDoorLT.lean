/- pow10Tab's cells at every index. -/
import Derived.Test.YtkincdcknmdboaaDoorLS
namespace Go.Proofs.YtkincdcknmdboaaDoor
open Go.RowKit Go.WideShapes Go.ChangeShapes
set_option linter.unusedVariables false

/-- every row of the table as it lies -/
def TabAll (w : World) : Prop := ∀ i a b, Go.Pinned.pow10Rows[i]? = some (a, b) → w.cell? ⟨3, i * 2, none⟩ = some (.int .u64 (a : Nat)) ∧ w.cell? ⟨3, i * 2 + 1, none⟩ = some (.int .u64 (b : Nat))

theorem rows_ok : (Go.Pinned.pow10Rows.all fun x => decide (9223372036854775808 ≤ x.1) && decide (x.1 < 18446744073709551616) && decide (x.2 < 18446744073709551616)) = true ∧ Go.Pinned.pow10Rows.length = 696 := by decide +kernel

theorem row_at (i : Nat) (h : i < 696) : ∃ hi lo, Go.Pinned.pow10Rows[i]? = some (hi, lo) ∧ 9223372036854775808 ≤ hi ∧ hi < 18446744073709551616 ∧ lo < 18446744073709551616 := by
  have hl := rows_ok.2
  have hi : i < Go.Pinned.pow10Rows.length := by omega
  have h1 := List.all_eq_true.1 rows_ok.1 _ (List.getElem_mem hi)
  simp only [Bool.and_eq_true, decide_eq_true_eq] at h1
  exact ⟨_, _, List.getElem?_eq_getElem hi, h1.1.1, h1.1.2, h1.2⟩

theorem tabs_all (w : World) (l : List (String × DataW Unit)) (hp : (l.all fun x => x.2.handleName?.isNone) = true)
    (hm1 : ("internal/strconv.uint64pow10", Lib.tabData .u64 Lib.pow10Tab) ∈ l) (hm2 : ("internal/strconv.pow10Tab", Go.Pinned.pow10Tab) ∈ l) (h : laidMetH Tryd.prog l w) :
    Lib.TabIs Tryd.prog w "internal/strconv.uint64pow10" .u64 Lib.pow10Tab ∧ TabAll w := by
  refine ⟨(tabs_of w l hp hm1 hm2 h).1, fun i a b hi => ?_⟩
  rw [MakeChecks.laidMetH_plain _ _ _ hp] at h
  obtain ⟨ps, hv, _⟩ := h
  exact laid_pairs (u := 41) (by kernel_rfl) (by kernel_rfl) Tryd.underlying99 Tryd.underlying98 rfl rfl rfl rfl Tryd.underlying41 (by kernel_rfl) (by kernel_rfl) i a b hi hv hm2

theorem TabAll.below {B : Nat} {w w1 : World} (h : TabAll w) (hb : Below B w w1) (hG : 3 < B) : TabAll w1 := by
  intro i a b hi
  have e := hb.block _ hG
  have c := fun i => World.cell?_of_block (a := ⟨3, i, none⟩) e
  rw [c, c]
  exact h i a b hi
end Go.Proofs.YtkincdcknmdboaaDoor
