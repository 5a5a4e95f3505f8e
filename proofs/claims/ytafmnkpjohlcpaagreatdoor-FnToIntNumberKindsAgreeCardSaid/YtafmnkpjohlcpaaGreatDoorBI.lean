/- The walks of big.NewInt, IsInt64 and Int64, and of toInt at such a number. -/
import Derived.Test.YtafmnkpjohlcpaaGreatDoorRows
import Derived.WalkKit
import Derived.ProofKit
import Derived.OpenShut
import Derived.WalkSpells
import Derived.WalkLawsBesides
import Derived.Outline
import Derived.Lib.Hide
import Derived.Laws.Bits64
import Derived.Test.YtafmnkpjohlcpaaGreatDoorCom
import Derived.Test.YtafmnkpjohlcpaaGreatDoorTI
namespace Go.Proofs.YtafmnkpjohlcpaaGreatDoor
open Go.RowKit
set_option linter.unusedVariables false

/-- a *big.Int that holds the int64 n -/
def BigAt (n : Int) (a : Nat) (w : World) : Prop :=
  w.cell? ⟨a, 0, none⟩ = some (.bool (decide (n < 0))) ∧
  ((n = 0 ∧ w.cell? ⟨a, 1, none⟩ = some (.slice none 0 0)) ∨
   (n ≠ 0 ∧ ∃ c, w.cell? ⟨a, 1, none⟩ = some (.slice (some ⟨c, 0, none⟩) 1 1) ∧ w.cell? ⟨c, 0, none⟩ = some (.int .u64 (if n < 0 then -n else n))))

theorem bigAt_zero {a : Nat} {w : World} (g0 : w.cell? ⟨a, 0, none⟩ = some (.bool false)) (g1 : w.cell? ⟨a, 1, none⟩ = some (.slice none 0 0)) : BigAt 0 a w :=
  ⟨g0, Or.inl ⟨rfl, g1⟩⟩
theorem bigAt_neg {n : Int} {a c : Nat} {w : World} (hn : n < 0) (g0 : w.cell? ⟨a, 0, none⟩ = some (.bool true)) (g1 : w.cell? ⟨a, 1, none⟩ = some (.slice (some ⟨c, 0, none⟩) 1 1))
    (g2 : w.cell? ⟨c, 0, none⟩ = some (.int .u64 (-n))) : BigAt n a w :=
  ⟨by rw [decide_eq_true hn]; exact g0, Or.inr ⟨by omega, c, g1, by rw [if_pos hn]; exact g2⟩⟩
theorem bigAt_pos {n : Int} {a c : Nat} {w : World} (hz : n ≠ 0) (hn : ¬ n < 0) (g0 : w.cell? ⟨a, 0, none⟩ = some (.bool false)) (g1 : w.cell? ⟨a, 1, none⟩ = some (.slice (some ⟨c, 0, none⟩) 1 1))
    (g2 : w.cell? ⟨c, 0, none⟩ = some (.int .u64 n)) : BigAt n a w :=
  ⟨by rw [decide_eq_false hn]; exact g0, Or.inr ⟨hz, c, g1, by rw [if_neg hn]; exact g2⟩⟩

theorem u64_of_neg {n : Int} (h0 : -9223372036854775808 ≤ n) (h1 : n < 0) : IntKind.u64.wrap n = n + 18446744073709551616 := by
  rw [IntKind.wrap_u64]; omega
theorem u64_neg_of {n : Int} (h0 : -9223372036854775808 ≤ n) (h1 : n < 0) : IntKind.u64.wrap (-(n + 18446744073709551616)) = -n := by
  rw [IntKind.wrap_u64]; omega

set_option maxRecDepth 100000 in
theorem newInt_any (n : Int) (w : World) (h0 : -9223372036854775808 ≤ n) (h1 : n ≤ 9223372036854775807) :
    Calls Tryz.prog 27 #[.int .i64 n] w fun r w' => ∃ a, r = .returned (.pointer (some ⟨a, 0, none⟩)) ∧ BigAt n a w' ∧ Below w.heap.size w w' := by
  by_cases hz : n = 0
  · subst hz
    go_enter Tryz.func27, Tryz.ntmps27
    go_wp2
    go_ret
    exact ⟨w.heap.size, rfl, bigAt_zero (by go_simp) (by go_simp), (Below.refl _ _).alloc (Nat.le_refl _) _⟩
  have e0 : (n == 0) = false := by simpa using hz
  by_cases hn : n < 0
  · have t1 : decide (n < 0) = true := decide_eq_true hn
    have t2 := u64_of_neg h0 hn
    have t3 := u64_neg_of h0 hn
    go_enter Tryz.func27, Tryz.ntmps27
    go_wp2
    go_ret
    exact ⟨w.heap.size + 1, rfl, bigAt_neg (c := w.heap.size) hn (by go_simp) (by go_simp) (by go_simp), ((Below.refl _ _).alloc (Nat.le_refl _) _).alloc (by simp) _⟩
  · have t1 : decide (n < 0) = false := decide_eq_false hn
    have t2 : IntKind.u64.wrap n = n := by rw [IntKind.wrap_u64]; omega
    go_enter Tryz.func27, Tryz.ntmps27
    go_wp2
    go_ret
    exact ⟨w.heap.size + 1, rfl, bigAt_pos (c := w.heap.size) hz (by omega) (by go_simp) (by go_simp) (by go_simp), ((Below.refl _ _).alloc (Nat.le_refl _) _).alloc (by simp) _⟩

theorem low64_nil (w : World) : Calls Tryz.prog 34 #[.slice none 0 0] w fun r w' => r = .returned (.int .u64 0) ∧ w = w' := by
  go_enter Tryz.func34, Tryz.ntmps34
  go_wp2
  go_ret
  exact ⟨rfl, rfl⟩
theorem low64_one (c : Nat) (u : Int) (w : World) (hc : w.cell? ⟨c, 0, none⟩ = some (.int .u64 u)) :
    Calls Tryz.prog 34 #[.slice (some ⟨c, 0, none⟩) 1 1] w fun r w' => r = .returned (.int .u64 u) ∧ w = w' := by
  go_enter Tryz.func34, Tryz.ntmps34
  go_wp2
  go_ret
  exact ⟨rfl, rfl⟩

theorem isInt64_any (n : Int) (a : Nat) (w : World) (h0 : -9223372036854775808 ≤ n) (h1 : n ≤ 9223372036854775807) (hb : BigAt n a w) :
    Calls Tryz.prog 30 #[.pointer (some ⟨a, 0, none⟩)] w fun r w' => r = .returned (.bool true) ∧ w = w' := by
  obtain ⟨g0, hb⟩ := hb
  rcases hb with ⟨rfl, g1⟩ | ⟨hz, c, g1, g2⟩
  · go_enter Tryz.func30, Tryz.ntmps30
    go_wp2_with (go_at_call 34; refine (low64_nil _).mono ?_; rintro r w2 ⟨rfl, rfl⟩)
    go_ret
    exact ⟨rfl, rfl⟩
  by_cases hn : n < 0
  · rw [if_pos hn] at g2
    rw [decide_eq_true hn] at g0
    by_cases hm : n = -9223372036854775808
    · subst hm
      have t2 : wrap64 9223372036854775808 = -9223372036854775808 := by decide +kernel
      go_enter Tryz.func30, Tryz.ntmps30
      go_wp2_with (go_at_call 34; refine (low64_one c _ _ g2).mono ?_; rintro r w2 ⟨rfl, rfl⟩)
      go_ret
      exact ⟨rfl, rfl⟩
    · have t2 : IntKind.i64.wrap (-n) = -n := by rw [IntKind.wrap_i64]; omega
      have t3 : decide (-n ≥ 0) = true := decide_eq_true (by omega)
      go_enter Tryz.func30, Tryz.ntmps30
      go_wp2_with (go_at_call 34; refine (low64_one c _ _ g2).mono ?_; rintro r w2 ⟨rfl, rfl⟩)
      go_ret
      exact ⟨rfl, rfl⟩
  · rw [if_neg hn] at g2
    rw [decide_eq_false hn] at g0
    have t2 : IntKind.i64.wrap n = n := by rw [IntKind.wrap_i64]; omega
    have t3 : decide (n ≥ 0) = true := decide_eq_true (by omega)
    go_enter Tryz.func30, Tryz.ntmps30
    go_wp2_with (go_at_call 34; refine (low64_one c _ _ g2).mono ?_; rintro r w2 ⟨rfl, rfl⟩)
    go_ret
    exact ⟨rfl, rfl⟩

theorem int64_any (n : Int) (a : Nat) (w : World) (h0 : -9223372036854775808 ≤ n) (h1 : n ≤ 9223372036854775807) (hb : BigAt n a w) :
    Calls Tryz.prog 31 #[.pointer (some ⟨a, 0, none⟩)] w fun r w' => r = .returned (.int .i64 n) ∧ w = w' := by
  obtain ⟨g0, hb⟩ := hb
  rcases hb with ⟨rfl, g1⟩ | ⟨hz, c, g1, g2⟩
  · go_enter Tryz.func31, Tryz.ntmps31
    go_wp2_with (go_at_call 34; refine (low64_nil _).mono ?_; rintro r w2 ⟨rfl, rfl⟩)
    go_ret
    exact ⟨rfl, rfl⟩
  by_cases hn : n < 0
  · rw [if_pos hn] at g2
    rw [decide_eq_true hn] at g0
    by_cases hm : n = -9223372036854775808
    · subst hm
      have t2 : wrap64 9223372036854775808 = -9223372036854775808 := by decide +kernel
      go_enter Tryz.func31, Tryz.ntmps31
      go_wp2_with (go_at_call 34; refine (low64_one c _ _ g2).mono ?_; rintro r w2 ⟨rfl, rfl⟩)
      go_ret
      exact ⟨ret_int t2, rfl⟩
    · have t2 : IntKind.i64.wrap (-n) = -n := by rw [IntKind.wrap_i64]; omega
      have t3 : IntKind.i64.wrap n = n := by rw [IntKind.wrap_i64]; omega
      go_enter Tryz.func31, Tryz.ntmps31
      go_wp2_with (go_at_call 34; refine (low64_one c _ _ g2).mono ?_; rintro r w2 ⟨rfl, rfl⟩)
      go_ret
      exact ⟨by go_simp, rfl⟩
  · rw [if_neg hn] at g2
    rw [decide_eq_false hn] at g0
    have t2 : IntKind.i64.wrap n = n := by rw [IntKind.wrap_i64]; omega
    go_enter Tryz.func31, Tryz.ntmps31
    go_wp2_with (go_at_call 34; refine (low64_one c _ _ g2).mono ?_; rintro r w2 ⟨rfl, rfl⟩)
    go_ret
    exact ⟨rfl, rfl⟩

@[go_sem] theorem as_B_i (v : Value) (w : World) : (Instr.typeAssert (.iface 49 v) 20 3 true).run Tryz.prog w = .ok (.tuple #[.int .i64 0, .bool false]) w := by kernel_rfl
@[go_sem] theorem as_B_f (v : Value) (w : World) : (Instr.typeAssert (.iface 49 v) 20 26 true).run Tryz.prog w = .ok (.tuple #[.float .f64 0, .bool false]) w := by kernel_rfl
@[go_sem] theorem as_B_B (v : Value) (w : World) : (Instr.typeAssert (.iface 49 v) 20 49 true).run Tryz.prog w = .ok (.tuple #[v, .bool true]) w := by kernel_rfl

theorem toInt_big (n : Int) (a : Nat) (w : World) (h0 : -9223372036854775808 ≤ n) (h1 : n ≤ 9223372036854775807) (hb : BigAt n a w) :
    Calls Tryz.prog 26 #[.iface 49 (.pointer (some ⟨a, 0, none⟩))] w fun r w' => r = .returned (.tuple #[.int .i64 n, .bool true]) ∧ w = w' := by
  have t1 : decide (-9223372036854775808 ≤ n) = true := decide_eq_true h0
  have t2 : decide (n ≤ 9223372036854775807) = true := decide_eq_true h1
  go_enter Tryz.func26, Tryz.ntmps26
  go_wp2_with (first | (go_at_call 30; refine (isInt64_any n a _ h0 h1 hb).mono ?_; rintro r w2 ⟨rfl, rfl⟩) | (go_at_call 31; refine (int64_any n a _ h0 h1 hb).mono ?_; rintro r w2 ⟨rfl, rfl⟩))
  go_ret2
  exact ⟨rfl, rfl⟩
end Go.Proofs.YtafmnkpjohlcpaaGreatDoor
