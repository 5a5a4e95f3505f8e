/- The walks of has on an array of which no element is read, at an int and at a float. -/
import Derived.Test.YthhfmmbealhdfaaGreatDoorRows
import Derived.WalkKit
import Derived.ProofKit
import Derived.OpenShut
import Derived.WalkSpells
import Derived.WalkLawsBesides
import Derived.Outline
import Derived.Lib.Hide
import Derived.Deep.OwnRows
import Derived.Test.YthhfmmbealhdfaaGreatDoorCom
import Derived.Test.YthhfmmbealhdfaaGreatDoorTI
namespace Go.Proofs.YthhfmmbealhdfaaGreatDoor
open Go.RowKit
set_option linter.unusedVariables false

/-- x is an index of n elements -/
def inw (x n : Int) : Bool := decide (0 ≤ x) && decide (x < n)

theorem inw_cases (x n : Int) : (decide (0 ≤ x) = false ∧ decide (x ≥ 0) = false ∧ inw x n = false) ∨
    (decide (0 ≤ x) = true ∧ decide (x ≥ 0) = true ∧ decide (x < n) = false ∧ inw x n = false) ∨ (decide (0 ≤ x) = true ∧ decide (x ≥ 0) = true ∧ decide (x < n) = true ∧ inw x n = true) := by
  unfold inw
  by_cases h : 0 ≤ x
  · by_cases k : x < n <;> simp [h, k]
  · simp [h]

@[go_sem] theorem as_a_a (v : Value) (w : World) : (Instr.typeAssert (.iface 40 v) 20 40 true).run Tryz.prog w = .ok (.tuple #[v, .bool true]) w := by kernel_rfl
@[go_sem] theorem as_b_b (v : Value) (w : World) : (Instr.typeAssert (.iface 4 v) 20 4 true).run Tryz.prog w = .ok (.tuple #[v, .bool true]) w := by kernel_rfl

theorem anyRes_bool (b : Bool) (w : World) : Calls Tryz.prog 19 #[.iface 4 (.bool b)] w fun r w' => r = .returned (.tuple #[.bool b, .bool true, .bool false]) ∧ w = w' := by
  go_enter Tryz.func19, Tryz.ntmps19
  go_wp2_with fail
  go_ret3
  exact ⟨rfl, rfl⟩

theorem has_int (p : Option Addr) (n : Nat) (x : Int) (w : World) : Calls Tryz.prog 20 #[.iface 40 (.slice p n n), .iface 3 (.int .i64 x)] w fun r w' => r = .returned (.iface 4 (.bool (inw x n))) ∧ w = w' := by
  rcases inw_cases x n with ⟨t1, _, e⟩ | ⟨t1, _, t2, e⟩ | ⟨t1, _, t2, e⟩ <;> rw [e] <;> clear e
  all_goals
    go_enter Tryz.func20, Tryz.ntmps20
    go_wp2_with (go_at_call 22; refine (toInt_int x _).mono ?_; rintro r w2 ⟨rfl, rfl⟩)
    go_ret
    exact ⟨rfl, rfl⟩

theorem has_float (p : Option Addr) (n : Nat) (x : Nat) (w : World) : Calls Tryz.prog 20 #[.iface 40 (.slice p n n), .iface 22 (.float .f64 x)] w fun r w' => r = .returned (.iface 4 (.bool (inw (fti x) n))) ∧ w = w' := by
  rcases inw_cases (fti x) n with ⟨t1, _, e⟩ | ⟨t1, _, t2, e⟩ | ⟨t1, _, t2, e⟩ <;> rw [e] <;> clear e
  all_goals
    go_enter Tryz.func20, Tryz.ntmps20
    go_wp2_with (go_at_call 22; refine (toInt_float x _).mono ?_; rintro r w2 ⟨rfl, rfl⟩)
    go_ret
    exact ⟨rfl, rfl⟩

theorem info_any : (Tryz.prog.info? 20).map (fun i => (i.zero, i.size, i.bytes)) = some (some .nilIface, 1, 16) := by kernel_rfl

set_option maxRecDepth 100000 in
theorem zhas_int (n x : Int) (w : World) (h0 : 0 ≤ n) (h1 : n ≤ 65536) : Calls Tryz.prog 5 #[.int .i64 n, .int .i64 x] w fun r w' => r = .returned (.tuple #[.bool (inw x n), .bool true, .bool false]) ∧ Below w.heap.size w w' := by
  obtain ⟨m, rfl⟩ : ∃ m : Nat, n = m := ⟨n.toNat, by omega⟩
  have hmk := run_make_row' (P := Tryz.prog) 40 20 .nilIface 16 Tryz.underlying40 info_any rfl .i64 .i64 m (by omega) (by omega)
  go_enter Tryz.func5, Tryz.ntmps5
  go_wp2_with (first | (go_at_call 20; refine (has_int _ m x _).mono ?_; rintro r w2 ⟨rfl, rfl⟩) | (go_at_call 19; refine (anyRes_bool _ _).mono ?_; rintro r w3 ⟨rfl, rfl⟩))
  all_goals
    go_ret3
    exact ⟨rfl, (Below.refl _ _).alloc (Nat.le_refl _) _⟩

set_option maxRecDepth 100000 in
theorem zhas_float (n : Int) (x : Nat) (w : World) (h0 : 0 ≤ n) (h1 : n ≤ 65536) : Calls Tryz.prog 6 #[.int .i64 n, .float .f64 x] w fun r w' => r = .returned (.tuple #[.bool (inw (fti x) n), .bool true, .bool false]) ∧ Below w.heap.size w w' := by
  obtain ⟨m, rfl⟩ : ∃ m : Nat, n = m := ⟨n.toNat, by omega⟩
  have hmk := run_make_row' (P := Tryz.prog) 40 20 .nilIface 16 Tryz.underlying40 info_any rfl .i64 .i64 m (by omega) (by omega)
  go_enter Tryz.func6, Tryz.ntmps6
  go_wp2_with (first | (go_at_call 20; refine (has_float _ m x _).mono ?_; rintro r w2 ⟨rfl, rfl⟩) | (go_at_call 19; refine (anyRes_bool _ _).mono ?_; rintro r w3 ⟨rfl, rfl⟩))
  all_goals
    go_ret3
    exact ⟨rfl, (Below.refl _ _).alloc (Nat.le_refl _) _⟩

/-! ### the plain law at a float -/
theorem nm1 : ¬ Flt.nan 13830554455654793216 := by decide
theorem V_m1 : Flt.V 13830554455654793216 = -(Flt.Uno : Int) := by
  have e : Flt.ofInt (-1) = 13830554455654793216 := by decide +kernel
  have := (Flt.ofInt_fin (n := -1) (by decide)).2.1
  rw [e] at this
  rw [this]; omega

theorem fti_ge {x : Nat} (h : ¬ Flt.nan x) (h1 : -(9223372036854775808 * (Flt.Uno : Int)) ≤ Flt.V x) (h2 : Flt.V x < 9223372036854775808 * (Flt.Uno : Int))
    (k : Nat) (hk : (k : Int) * (Flt.Uno : Int) ≤ Flt.V x) (k0 : 0 < k) : (k : Int) ≤ fti x := by
  have hp := Flt.one_pos
  have e := fti_mid h h1 h2
  obtain ⟨t, r, hv, hr, ht⟩ := parts x
  rw [ht] at e
  unfold Flt.V at hk
  rw [hv] at hk
  have c1 : ((k * Flt.Uno : Nat) : Int) = (k : Int) * (Flt.Uno : Int) := Int.natCast_mul _ _
  cases hs : Flt.sg x
  · rw [hs] at hk e
    simp only [Bool.false_eq_true, if_false] at hk e
    have : k ≤ t := by
      refine Nat.le_of_not_lt fun hlt => ?_
      have h3 : (t + 1) * Flt.Uno ≤ k * Flt.Uno := Nat.mul_le_mul_right _ hlt
      rw [Nat.add_mul] at h3
      omega
    omega
  · rw [hs] at hk
    simp only [if_true] at hk
    have := Nat.mul_pos k0 hp
    omega
theorem fti_le {x : Nat} (h : ¬ Flt.nan x) (h1 : -(9223372036854775808 * (Flt.Uno : Int)) ≤ Flt.V x) (h2 : Flt.V x < 9223372036854775808 * (Flt.Uno : Int))
    (k : Nat) (hk : Flt.V x ≤ -((k : Int) * (Flt.Uno : Int))) (k0 : 0 < k) : fti x ≤ -(k : Int) := by
  have hp := Flt.one_pos
  have e := fti_mid h h1 h2
  obtain ⟨t, r, hv, hr, ht⟩ := parts x
  rw [ht] at e
  unfold Flt.V at hk
  rw [hv] at hk
  have c1 : ((k * Flt.Uno : Nat) : Int) = (k : Int) * (Flt.Uno : Int) := Int.natCast_mul _ _
  cases hs : Flt.sg x
  · rw [hs] at hk
    simp only [Bool.false_eq_true, if_false] at hk
    have := Nat.mul_pos k0 hp
    omega
  · rw [hs] at hk e
    simp only [if_true] at hk e
    have : k ≤ t := by
      refine Nat.le_of_not_lt fun hlt => ?_
      have h3 : (t + 1) * Flt.Uno ≤ k * Flt.Uno := Nat.mul_le_mul_right _ hlt
      rw [Nat.add_mul] at h3
      omega
    omega

theorem has_law (x : Nat) (n : Int) (h0 : 0 < n) (h1 : n ≤ 65536) :
    ((FloatKind.f64.format.order x 13830554455654793216 == some .gt) = false ∧ inw (fti x) n = false) ∨
    ((FloatKind.f64.format.order x 13830554455654793216 == some .gt) = true ∧ (FloatKind.f64.format.order x (floatOfInt .f64 n) == some .lt) = false ∧ inw (fti x) n = false) ∨
    ((FloatKind.f64.format.order x 13830554455654793216 == some .gt) = true ∧ (FloatKind.f64.format.order x (floatOfInt .f64 n) == some .lt) = true ∧ inw (fti x) n = true) := by
  have hp := Flt.one_pos
  by_cases h : Flt.nan x
  · refine Or.inl ⟨o_gt_nan (Or.inl h), ?_⟩
    rw [fti_nan h]; unfold inw; simp
  have f0 := Flt.ofInt_fin (n := n) (by omega)
  have ln : ¬ Flt.nan (Flt.ofInt n) := Flt.not_nan_of_fin f0.1
  have eo : (FloatKind.f64.format.order x (floatOfInt .f64 n) == some .lt) = decide (Flt.V x < n * (Flt.Uno : Int)) := by
    show (FloatKind.f64.format.order x (Flt.ofInt n) == some .lt) = _
    rw [o_lt h ln, f0.2.1]
  have nn : n * (Flt.Uno : Int) ≤ 65536 * (Flt.Uno : Int) := Int.mul_le_mul_of_nonneg_right h1 (by omega)
  have np : (Flt.Uno : Int) ≤ n * (Flt.Uno : Int) := by
    have := Int.mul_le_mul_of_nonneg_right (show 1 ≤ n by omega) (show (0 : Int) ≤ (Flt.Uno : Int) by omega)
    omega
  rw [o_gt h nm1, V_m1, eo]
  by_cases c : -(Flt.Uno : Int) < Flt.V x
  rotate_left
  · refine Or.inl ⟨decide_eq_false (by omega), ?_⟩
    have hl : fti x < 0 := by
      by_cases h2 : Flt.V x < -(9223372036854775808 * (Flt.Uno : Int))
      · rw [fti_low h h2]; omega
      have := fti_le h (by omega) (by omega) 1 (by omega) (by decide)
      omega
    unfold inw
    rw [decide_eq_false (show ¬ 0 ≤ fti x by omega)]; rfl
  rw [decide_eq_true c]
  by_cases h3 : 4503599627370496 * (Flt.Uno : Int) ≤ Flt.V x
  · have hl : n ≤ fti x := by
      by_cases h2 : 9223372036854775808 * (Flt.Uno : Int) ≤ Flt.V x
      · rw [fti_high h h2]; omega
      have := fti_ge h (by omega) (by omega) 65536 (by omega) (by decide)
      omega
    refine Or.inr (Or.inl ⟨rfl, decide_eq_false (by omega), ?_⟩)
    unfold inw
    rw [decide_eq_false (show ¬ fti x < n by omega)]; simp
  · obtain ⟨_, sp, sn⟩ := fti_small h (by omega) (by omega)
    rcases (show 0 ≤ Flt.V x ∨ Flt.V x < 0 by omega) with p | p
    · obtain ⟨g1, g2, g3⟩ := sp p
      by_cases k : fti x < n
      · have := Int.mul_le_mul_of_nonneg_right (show fti x + 1 ≤ n by omega) (show (0 : Int) ≤ (Flt.Uno : Int) by omega)
        refine Or.inr (Or.inr ⟨rfl, decide_eq_true (by omega), ?_⟩)
        unfold inw
        rw [decide_eq_true g1, decide_eq_true k]; rfl
      · have := Int.mul_le_mul_of_nonneg_right (show n ≤ fti x by omega) (show (0 : Int) ≤ (Flt.Uno : Int) by omega)
        refine Or.inr (Or.inl ⟨rfl, decide_eq_false (by omega), ?_⟩)
        unfold inw
        rw [decide_eq_false k]; simp
    · obtain ⟨g1, g2, g3⟩ := sn (by omega)
      have z : fti x = 0 := by
        refine Decidable.byContradiction fun hh => ?_
        have := Int.mul_le_mul_of_nonneg_right (show fti x ≤ -1 by omega) (show (0 : Int) ≤ (Flt.Uno : Int) by omega)
        omega
      refine Or.inr (Or.inr ⟨rfl, decide_eq_true (by omega), ?_⟩)
      unfold inw
      rw [z, decide_eq_true (show (0 : Int) < n by omega)]; rfl
end Go.Proofs.YthhfmmbealhdfaaGreatDoor
