/- The walk of big.NewInt. -/
import Derived.Test.YteabecjcjlcolaaGreatDoorRows
import Derived.WalkKit
import Derived.ProofKit
import Derived.OpenShut
import Derived.WalkSpells
import Derived.WalkLawsBesides
import Derived.Outline
import Derived.Lib.Hide
import Derived.Laws.Bits64
import Derived.Test.YteabecjcjlcolaaGreatDoorCom
namespace Go.Proofs.YteabecjcjlcolaaGreatDoor
open Go.RowKit
set_option linter.unusedVariables false

/-- a *big.Int that holds the int64 n -/
def BigAt (n : Int) (a : Nat) (w : World) : Prop :=
  w.cell? ⟨a, 0, none⟩ = some (.bool (decide (n < 0))) ∧
  ((n = 0 ∧ w.cell? ⟨a, 1, none⟩ = some (.slice none 0 0)) ∨
   (n ≠ 0 ∧ ∃ c, w.cell? ⟨a, 1, none⟩ = some (.slice (some ⟨c, 0, none⟩) 1 1) ∧ w.cell? ⟨c, 0, none⟩ = some (.int .u64 (if n < 0 then -n else n))))

theorem bigAt_zero {a : Nat} {w : World} (g0 : w.cell? ⟨a, 0, none⟩ = some (.bool false)) (g1 : w.cell? ⟨a, 1, none⟩ = some (.slice none 0 0)) : BigAt 0 a w :=
  ⟨g0, Or.inl ⟨rfl, g1⟩⟩
theorem bigAt_neg {n : Int} {a c : Nat} {w : World} (hn : n < 0) (g0 : w.cell? ⟨a, 0, none⟩ = some (.bool true)) (g1 : w.cell? ⟨a, 1, none⟩ = some (.slice (some ⟨c, 0, none⟩) 1 1))
    (g2 : w.cell? ⟨c, 0, none⟩ = some (.int .u64 (-n))) : BigAt n a w :=
  ⟨by rw [decide_eq_true hn]; exact g0, Or.inr ⟨by omega, c, g1, by rw [if_pos hn]; exact g2⟩⟩
theorem bigAt_pos {n : Int} {a c : Nat} {w : World} (hz : n ≠ 0) (hn : ¬ n < 0) (g0 : w.cell? ⟨a, 0, none⟩ = some (.bool false)) (g1 : w.cell? ⟨a, 1, none⟩ = some (.slice (some ⟨c, 0, none⟩) 1 1))
    (g2 : w.cell? ⟨c, 0, none⟩ = some (.int .u64 n)) : BigAt n a w :=
  ⟨by rw [decide_eq_false hn]; exact g0, Or.inr ⟨hz, c, g1, by rw [if_neg hn]; exact g2⟩⟩

theorem u64_of_neg {n : Int} (h0 : -9223372036854775808 ≤ n) (h1 : n < 0) : IntKind.u64.wrap n = n + 18446744073709551616 := by
  rw [IntKind.wrap_u64]; omega
theorem u64_neg_of {n : Int} (h0 : -9223372036854775808 ≤ n) (h1 : n < 0) : IntKind.u64.wrap (-(n + 18446744073709551616)) = -n := by
  rw [IntKind.wrap_u64]; omega

set_option maxRecDepth 100000 in
theorem newInt_any (n : Int) (w : World) (h0 : -9223372036854775808 ≤ n) (h1 : n ≤ 9223372036854775807) :
    Calls Tryz.prog 25 #[.int .i64 n] w fun r w' => ∃ a, r = .returned (.pointer (some ⟨a, 0, none⟩)) ∧ BigAt n a w' ∧ Below w.heap.size w w' := by
  by_cases hz : n = 0
  · subst hz
    go_enter Tryz.func25, Tryz.ntmps25
    go_wp2
    go_ret
    exact ⟨w.heap.size, rfl, bigAt_zero (by go_simp) (by go_simp), (Below.refl _ _).alloc (Nat.le_refl _) _⟩
  have e0 : (n == 0) = false := by simpa using hz
  by_cases hn : n < 0
  · have t1 : decide (n < 0) = true := decide_eq_true hn
    have t2 := u64_of_neg h0 hn
    have t3 := u64_neg_of h0 hn
    go_enter Tryz.func25, Tryz.ntmps25
    go_wp2
    go_ret
    exact ⟨w.heap.size + 1, rfl, bigAt_neg (c := w.heap.size) hn (by go_simp) (by go_simp) (by go_simp), ((Below.refl _ _).alloc (Nat.le_refl _) _).alloc (by simp) _⟩
  · have t1 : decide (n < 0) = false := decide_eq_false hn
    have t2 : IntKind.u64.wrap n = n := by rw [IntKind.wrap_u64]; omega
    go_enter Tryz.func25, Tryz.ntmps25
    go_wp2
    go_ret
    exact ⟨w.heap.size + 1, rfl, bigAt_pos (c := w.heap.size) hz (by omega) (by go_simp) (by go_simp) (by go_simp), ((Below.refl _ _).alloc (Nat.le_refl _) _).alloc (by simp) _⟩

end Go.Proofs.YteabecjcjlcolaaGreatDoor
