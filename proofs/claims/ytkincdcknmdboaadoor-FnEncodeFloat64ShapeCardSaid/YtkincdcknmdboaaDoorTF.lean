/- Plain facts on a double turned into an int: the clamp and the truncation, by values. -/
import Derived.Laws.FloatArith
import Derived.Test.YtkincdcknmdboaaDoorFlt
namespace Go.Proofs.YtkincdcknmdboaaDoor
open Flt
set_option linter.unusedVariables false

theorem vr_pow (k : Nat) : vr ((k + 1023) * 2^52) = 2^k * Uno := by
  obtain ⟨a, ha⟩ : ∃ a : Nat, a = 1074 := ⟨_, rfl⟩
  rw [show (k + 1023) * 2^52 = (k + 1022) * 2^52 + 2^52 by omega, vr_of (by omega) (Or.inr (Nat.le_refl _)), one_eq a ha, ← Nat.pow_add, ← Nat.pow_add]
  congr 1; omega

theorem V_zero : V 0 = 0 := by
  unfold V
  have : mg 0 = 0 := rfl
  rw [this, vr_zero]; simp

theorem V_63 : V 4890909195324358656 = 9223372036854775808 * (Uno : Int) := by
  have h := vr_pow 63
  rw [show (63 + 1023) * 2^52 = 4890909195324358656 from by decide] at h
  have hm : mg 4890909195324358656 = 4890909195324358656 := by decide
  have hs : sg 4890909195324358656 = false := by decide
  unfold V
  rw [hm, hs, h, if_neg (by simp), Int.natCast_mul]; rfl

theorem V_m63 : V 14114281232179134464 = -(9223372036854775808 * (Uno : Int)) := by
  have h := vr_pow 63
  rw [show (63 + 1023) * 2^52 = 4890909195324358656 from by decide] at h
  have hm : mg 14114281232179134464 = 4890909195324358656 := by decide
  have hs : sg 14114281232179134464 = true := by decide
  unfold V
  rw [hm, hs, h, if_pos rfl, Int.natCast_mul]; rfl

theorem V_52 : V 4841369599423283200 = 4503599627370496 * (Uno : Int) := by
  have h := vr_pow 52
  rw [show (52 + 1023) * 2^52 = 4841369599423283200 from by decide] at h
  have hm : mg 4841369599423283200 = 4841369599423283200 := by decide
  have hs : sg 4841369599423283200 = false := by decide
  unfold V
  rw [hm, hs, h, if_neg (by simp), Int.natCast_mul]; rfl

theorem V_m52 : V 14064741636278059008 = -(4503599627370496 * (Uno : Int)) := by
  have h := vr_pow 52
  rw [show (52 + 1023) * 2^52 = 4841369599423283200 from by decide] at h
  have hm : mg 14064741636278059008 = 4841369599423283200 := by decide
  have hs : sg 14064741636278059008 = true := by decide
  unfold V
  rw [hm, hs, h, if_pos rfl, Int.natCast_mul]; rfl

theorem nn (x : Nat) (h : mg x ≤ 2047 * 2^52) : ¬ nan x := by unfold nan; omega

/-! ### the tests of the walk, by values -/
theorem o_lt {x y : Nat} (hx : ¬ nan x) (hy : ¬ nan y) : (FloatKind.f64.format.order x y == some .lt) = decide (V x < V y) := lt_eq hx hy
theorem o_gt {x y : Nat} (hx : ¬ nan x) (hy : ¬ nan y) : (FloatKind.f64.format.order x y == some .gt) = decide (V y < V x) := gt_eq hx hy
theorem o_eq {x y : Nat} (hx : ¬ nan x) (hy : ¬ nan y) : (FloatKind.f64.format.order x y == some .eq) = decide (V x = V y) := eq_eq hx hy
theorem o_le {x y : Nat} (hx : ¬ nan x) (hy : ¬ nan y) : (FloatKind.f64.format.order x y == some .lt || FloatKind.f64.format.order x y == some .eq) = decide (V x ≤ V y) := by
  rw [o_lt hx hy, o_eq hx hy, Bool.eq_iff_iff]; simp; omega
theorem o_ge {x y : Nat} (hx : ¬ nan x) (hy : ¬ nan y) : (FloatKind.f64.format.order x y == some .gt || FloatKind.f64.format.order x y == some .eq) = decide (V y ≤ V x) := by
  rw [o_gt hx hy, o_eq hx hy, Bool.eq_iff_iff]; simp; omega
theorem o_self {x : Nat} (hx : ¬ nan x) : (FloatKind.f64.format.order x x != some .eq) = false := by
  show (!(FloatKind.f64.format.order x x == some .eq)) = false
  rw [o_eq hx hx]; simp
theorem o_nan {x y : Nat} (h : nan x ∨ nan y) : FloatKind.f64.format.order x y = none := order_nan h
theorem o_self_nan {x : Nat} (hx : nan x) : (FloatKind.f64.format.order x x != some .eq) = true := by
  rw [o_nan (Or.inl hx)]; rfl
theorem o_lt_nan {x y : Nat} (h : nan x ∨ nan y) : (FloatKind.f64.format.order x y == some .lt) = false := by rw [o_nan h]; rfl
theorem o_gt_nan {x y : Nat} (h : nan x ∨ nan y) : (FloatKind.f64.format.order x y == some .gt) = false := by rw [o_nan h]; rfl
theorem o_le_nan {x y : Nat} (h : nan x ∨ nan y) : (FloatKind.f64.format.order x y == some .lt || FloatKind.f64.format.order x y == some .eq) = false := by rw [o_nan h]; rfl
theorem o_ge_nan {x y : Nat} (h : nan x ∨ nan y) : (FloatKind.f64.format.order x y == some .gt || FloatKind.f64.format.order x y == some .eq) = false := by rw [o_nan h]; rfl

theorem n63 : ¬ nan 4890909195324358656 := by decide
theorem nm63 : ¬ nan 14114281232179134464 := by decide
theorem n52 : ¬ nan 4841369599423283200 := by decide
theorem nm52 : ¬ nan 14064741636278059008 := by decide
theorem n0 : ¬ nan 0 := by decide

/-! ### floatToInt -/
/-- what floatToInt gives -/
def fti (x : Nat) : Int :=
  if nan x then -9223372036854775808 else if V x < -(9223372036854775808 * (Uno : Int)) then -9223372036854775808
  else if 9223372036854775808 * (Uno : Int) ≤ V x then 9223372036854775807 else if sg x then -((vr (mg x) / Uno : Nat) : Int) else ((vr (mg x) / Uno : Nat) : Int)

theorem fti_nan {x : Nat} (h : nan x) : fti x = -9223372036854775808 := by unfold fti; rw [if_pos h]
theorem fti_low {x : Nat} (h : ¬ nan x) (hl : V x < -(9223372036854775808 * (Uno : Int))) : fti x = -9223372036854775808 := by unfold fti; rw [if_neg h, if_pos hl]
theorem fti_high {x : Nat} (h : ¬ nan x) (hl : 9223372036854775808 * (Uno : Int) ≤ V x) : fti x = 9223372036854775807 := by
  have := one_pos
  unfold fti; rw [if_neg h, if_neg (by omega), if_pos hl]
theorem fti_mid {x : Nat} (h : ¬ nan x) (h1 : -(9223372036854775808 * (Uno : Int)) ≤ V x) (h2 : V x < 9223372036854775808 * (Uno : Int)) :
    fti x = if sg x then -((vr (mg x) / Uno : Nat) : Int) else ((vr (mg x) / Uno : Nat) : Int) := by
  unfold fti; rw [if_neg h, if_neg (by omega), if_neg (by omega)]

theorem parts (x : Nat) : ∃ t r : Nat, vr (mg x) = t * Uno + r ∧ r < Uno ∧ vr (mg x) / Uno = t := by
  refine ⟨vr (mg x) / Uno, vr (mg x) % Uno, ?_, Nat.mod_lt _ one_pos, rfl⟩
  rw [Nat.mul_comm]; exact (Nat.div_add_mod _ _).symm

theorem fin_mid {x : Nat} (h1 : -(9223372036854775808 * (Uno : Int)) ≤ V x) (h2 : V x < 9223372036854775808 * (Uno : Int)) : fin x := by
  apply fin_of_V
  obtain ⟨a, ha⟩ : ∃ a : Nat, a = 1074 := ⟨_, rfl⟩
  have hb : 9223372036854775808 * Uno < Top := by
    rw [one_eq a ha, show 9223372036854775808 = 2^63 from rfl, ← Nat.pow_add]; exact lt_top.2 (by omega)
  omega

theorem fti_bd {x : Nat} (h : ¬ nan x) (h1 : -(9223372036854775808 * (Uno : Int)) ≤ V x) (h2 : V x < 9223372036854775808 * (Uno : Int)) : -9223372036854775808 ≤ fti x ∧ fti x ≤ 9223372036854775807 := by
  rw [fti_mid h h1 h2]
  obtain ⟨t, r, e, hr, ht⟩ := parts x
  rw [ht]
  unfold V at h1 h2
  rw [e] at h1 h2
  have hp := one_pos
  cases hs : sg x
  · rw [hs] at h1 h2
    simp only [Bool.false_eq_true, if_false] at h1 h2 ⊢
    have : t < 9223372036854775808 := by
      refine Nat.lt_of_not_le fun hle => ?_
      have h3 : 9223372036854775808 * Uno ≤ t * Uno := Nat.mul_le_mul_right _ hle
      rw [Int.natCast_add, Int.natCast_mul] at h2
      have h4 : ((t * Uno : Nat) : Int) = (t : Int) * (Uno : Int) := Int.natCast_mul _ _
      omega
    omega
  · rw [hs] at h1 h2
    simp only [if_true] at h1 h2 ⊢
    have : t ≤ 9223372036854775808 := by
      refine Nat.le_of_not_lt fun hlt => ?_
      have h3 : 9223372036854775809 * Uno ≤ t * Uno := Nat.mul_le_mul_right _ hlt
      rw [Int.natCast_add, Int.natCast_mul] at h1
      have h4 : ((t * Uno : Nat) : Int) = (t : Int) * (Uno : Int) := Int.natCast_mul _ _
      omega
    omega

theorem fti_all (x : Nat) : -9223372036854775808 ≤ fti x ∧ fti x ≤ 9223372036854775807 := by
  by_cases h : nan x
  · rw [fti_nan h]; omega
  by_cases h1 : V x < -(9223372036854775808 * (Uno : Int))
  · rw [fti_low h h1]; omega
  by_cases h2 : 9223372036854775808 * (Uno : Int) ≤ V x
  · rw [fti_high h h2]; omega
  exact fti_bd h (by omega) (by omega)

theorem fti_conv {x : Nat} (h : ¬ nan x) (h1 : -(9223372036854775808 * (Uno : Int)) ≤ V x) (h2 : V x < 9223372036854775808 * (Uno : Int)) : floatToIntVal .f64 x .i64 = some (fti x) := by
  have hf := fin_mid h1 h2
  have hb := fti_bd h h1 h2
  have ht := toInt_fin hf
  rw [← fti_mid h h1 h2] at ht
  unfold floatToIntVal
  have hdec : (FloatKind.f64.decode x).toInt .zero = some (fti x) := ht
  rw [hdec]
  have b : IntKind.i64.min ≤ fti x ∧ fti x ≤ IntKind.i64.max := by
    have e1 : IntKind.i64.min = -9223372036854775808 := by decide
    have e2 : IntKind.i64.max = 9223372036854775807 := by decide
    omega
  simp only [b, and_self, if_true]

/-- of a number of at least 2^52 nothing is cut -/
theorem whole_big {x : Nat} (hf : fin x) (h : 4503599627370496 * Uno ≤ vr (mg x)) : ∃ t : Nat, vr (mg x) = t * Uno ∧ rungd t 0 = mg x := by
  obtain ⟨a, ha⟩ : ∃ a : Nat, a = 1074 := ⟨_, rfl⟩
  obtain ⟨m, q, hr, hv, h53, hq⟩ := read_fin hf
  have ha2 : a ≤ q := by
    refine Nat.le_of_not_lt fun hlt => ?_
    rw [← hv, one_eq a ha] at h
    have e1 : 4503599627370496 * 2^a = 2^53 * 2^(a - 1) := by
      rw [show 4503599627370496 = 2^52 from rfl, ← Nat.pow_add, ← Nat.pow_add]; congr 1; omega
    have e2 : m * 2^q ≤ m * 2^(a - 1) := Nat.mul_le_mul_left _ (Nat.pow_le_pow_right (by omega) (by omega))
    have e3 : m * 2^(a - 1) < 2^53 * 2^(a - 1) := Nat.mul_lt_mul_of_pos_right h53 (pow_pos' _)
    omega
  have e : vr (mg x) = m * 2^(q - a) * Uno := by
    rw [← hv, one_eq a ha, Nat.mul_assoc, ← Nat.pow_add]; congr 2; omega
  refine ⟨m * 2^(q - a), e, ?_⟩
  have : rungd (m * 2^(q - a)) 0 = rungd (vr (mg x)) (-1074) := by
    rw [e, one_eq a ha, rungd_shift _ a]
    congr 1; omega
  rw [this, rungd_vr hf]

theorem fti_big {x : Nat} (h : ¬ nan x) (h1 : -(9223372036854775808 * (Uno : Int)) ≤ V x) (h2 : V x < 9223372036854775808 * (Uno : Int))
    (hb : 4503599627370496 * (Uno : Int) ≤ V x ∨ V x ≤ -(4503599627370496 * (Uno : Int))) : ¬ nan (ofInt (fti x)) ∧ V (ofInt (fti x)) = V x := by
  have hf := fin_mid h1 h2
  have hp := one_pos
  have hv : 4503599627370496 * Uno ≤ vr (mg x) := by have := abs_V x; omega
  obtain ⟨t, ht, hr⟩ := whole_big hf hv
  have e := fti_mid h h1 h2
  rw [ht, Nat.mul_div_cancel _ hp] at e
  have t0 : 0 < t := by
    rcases Nat.eq_zero_or_pos t with z | z
    · rw [z, Nat.zero_mul] at ht; omega
    · exact z
  have hn : (fti x).natAbs = t := by rw [e]; cases sg x <;> simp
  have hs : decide (fti x < 0) = sg x := by rw [e]; cases sg x <;> simp <;> omega
  rw [ofInt_eq, hn, hr, hs]
  refine ⟨by unfold nan; rw [mg_word _ (mg_lt x)]; exact h, ?_⟩
  rw [V_word _ (mg_lt x)]; rfl

theorem fti_small {x : Nat} (h : ¬ nan x) (h1 : -(4503599627370496 * (Uno : Int)) < V x) (h2 : V x < 4503599627370496 * (Uno : Int)) :
    (fti x).natAbs ≤ 4503599627370496 ∧ (0 ≤ V x → 0 ≤ fti x ∧ fti x * (Uno : Int) ≤ V x ∧ V x < (fti x + 1) * (Uno : Int)) ∧ (V x ≤ 0 → fti x ≤ 0 ∧ (fti x - 1) * (Uno : Int) < V x ∧ V x ≤ fti x * (Uno : Int)) := by
  have hp := one_pos
  have e := fti_mid (x := x) h (by omega) (by omega)
  obtain ⟨t, r, hv, hr, ht⟩ := parts x
  rw [ht] at e
  have htU : ((t * Uno : Nat) : Int) = (t : Int) * (Uno : Int) := Int.natCast_mul _ _
  have hVa := abs_V x
  rw [hv] at hVa
  have tb : t ≤ 4503599627370495 := by
    refine Nat.le_of_not_lt fun hlt => ?_
    have h3 : 4503599627370496 * Uno ≤ t * Uno := Nat.mul_le_mul_right _ hlt
    omega
  rw [Int.add_mul, Int.sub_mul, Int.one_mul]
  unfold V at h1 h2 ⊢
  rw [hv] at h1 h2 ⊢
  cases hs : sg x
  · rw [hs] at h1 h2 e
    simp only [Bool.false_eq_true, if_false] at h1 h2 e ⊢
    rw [e, Int.natCast_add, htU]
    refine ⟨by omega, fun _ => ⟨by omega, by omega, by omega⟩, fun h0 => ?_⟩
    have z : t = 0 ∧ r = 0 := by
      have : t * Uno = 0 := by omega
      rcases Nat.mul_eq_zero.1 this with z | z <;> omega
    rw [z.1, z.2]; simp; omega
  · rw [hs] at h1 h2 e
    simp only [if_true] at h1 h2 e ⊢
    rw [e, Int.natCast_add, htU, Int.neg_mul]
    refine ⟨by omega, fun h0 => ?_, fun _ => ⟨by omega, by omega, by omega⟩⟩
    have z : t = 0 ∧ r = 0 := by
      have : t * Uno = 0 := by omega
      rcases Nat.mul_eq_zero.1 this with z | z <;> omega
    rw [z.1, z.2]; simp; omega
attribute [irreducible] fti
end Go.Proofs.YtkincdcknmdboaaDoor
