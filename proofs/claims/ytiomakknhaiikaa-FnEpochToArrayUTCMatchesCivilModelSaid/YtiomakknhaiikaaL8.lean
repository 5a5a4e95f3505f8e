/- The plain law of epochToArray's floats: what the division, the floor, the difference and the product come to at s + k/512. -/
import Derived.Test.YtiomakknhaiikaaL1
import Derived.Test.YtiomakknhaiikaaCal
import Derived.Test.YtiomakknhaiikaaW10
namespace Go.Proofs.Ytiomakknhaiikaa
open Flt
set_option linter.unusedVariables false

theorem pow_split (a b c : Nat) (h : a + b = c) : (2:Nat)^a * 2^b = 2^c := by rw [← Nat.pow_add, h]

theorem epoch_law {s k : Int} (h1 : -1099511627776 ≤ s) (h2 : s ≤ 1099511627776) (h3 : 0 ≤ k) (h4 : k < 512) :
    ∃ d v fl sb pr q, floatBits .quo .f64 (floatOfInt .f64 k) 4647714815446351872 = some d ∧ floatBits .add .f64 (floatOfInt .f64 s) d = some v ∧
      fin v ∧ FloatKind.f64.encode ((FloatKind.f64.decode v).integral .down) = fl ∧ floatBits .sub .f64 v fl = some sb ∧ floatBits .mul .f64 sb 4741671816366391296 = some pr ∧
      floatToIntVal .f64 v .i64 = some (effOf s k) ∧ floatToIntVal .f64 pr .i64 = some (k * 1953125) ∧ floatBits .quo .f64 (floatOfInt .f64 (k * 1953125)) 4741671816366391296 = some q ∧
      (∀ m : Int, 0 ≤ m → m < 60 → ∃ r R, floatBits .add .f64 (floatOfInt .f64 m) q = some r ∧ floatBits .add .f64 (floatOfInt .f64 m) d = some R ∧ (FloatKind.f64.format.order r R == some .eq) = true) := by
  obtain ⟨Q, hQ⟩ := one_512
  have hone : (Uno : Int) = (Q : Int) * 512 := by rw [← hQ, Int.natCast_mul]; rfl
  have hQ0 : 0 < Q := by have := one_pos; rcases Nat.eq_zero_or_pos Q with h | h
                         · rw [h, Nat.zero_mul] at hQ; omega
                         · exact h
  obtain ⟨a, ha⟩ : ∃ a : Nat, a = 1065 := ⟨_, rfl⟩
  have hQa : Q = 2^a := by
    have e := one_eq (a + 9) (by omega)
    rw [← hQ, Nat.pow_add] at e
    exact Nat.eq_of_mul_eq_mul_right (pow_pos' 9) e
  obtain ⟨d, hd, df, dv⟩ := div512 (k := k) (by omega) hQ
  have fs := ofInt_fin (n := s) (by omega)
  obtain ⟨v, hv, vn, vv⟩ := add_V fs.1 df
  have hT : s * (Uno : Int) + k * (Q : Int) = (512 * s + k) * (Q : Int) := by
    rw [hone, Int.add_mul, Int.mul_comm (Q : Int) 512, ← Int.mul_assoc, Int.mul_comm s 512]
  have hsmall : (512 * s + k).natAbs < 2^53 := by omega
  have habs : ((512 * s + k) * (Q : Int)).natAbs = (512 * s + k).natAbs * 2^a := by
    rw [Int.natAbs_mul, hQa]; rfl
  have hfit : (512 * s + k).natAbs * 2^a < Top := by
    have := Nat.mul_lt_mul_of_pos_right hsmall (pow_pos' a)
    rw [← Nat.pow_add] at this
    exact Nat.lt_trans this (lt_top.2 (by omega))
  have vV : V v = (512 * s + k) * (Q : Int) := by
    rw [vv, fs.2.1, dv, hT]; exact rnd_exact hsmall habs hfit
  have vf : fin v := fin_of_V (by rw [vV, habs]; exact hfit)
  have vabs : vr (mg v) = (512 * s + k).natAbs * Q := by rw [← abs_V, vV, Int.natAbs_mul]; rfl
  have hdivU : ∀ x : Nat, x * Q / Uno = x / 512 := fun x => by
    rw [← hQ, Nat.mul_comm Q, show (2:Nat)^9 = 512 from rfl, Nat.mul_div_mul_right _ _ hQ0]
  have hmodU : ∀ x : Nat, x * Q % Uno = x % 512 * Q := fun x => by
    rw [← hQ, Nat.mul_comm Q, show (2:Nat)^9 = 512 from rfl, Nat.mul_mod_mul_right]
  have sgv : (512 * s + k) ≠ 0 → sg v = decide (512 * s + k < 0) := by
    intro hne
    have hvv := vV
    unfold V at hvv
    rw [vabs] at hvv
    have hp : 0 < (512 * s + k).natAbs * Q := Nat.mul_pos (by omega) hQ0
    by_cases c : 512 * s + k < 0
    · have hneg : (512 * s + k) * (Q : Int) < 0 := Int.mul_neg_of_neg_of_pos c (by omega)
      rw [decide_eq_true c]
      cases hsg : sg v
      · rw [hsg] at hvv; simp only [Bool.false_eq_true, if_false] at hvv; omega
      · rfl
    · have hpos : 0 < (512 * s + k) * (Q : Int) := Int.mul_pos (by omega) (by omega)
      rw [decide_eq_false c]
      cases hsg : sg v
      · rfl
      · rw [hsg] at hvv; simp only [if_true] at hvv; omega
  -- the floor
  obtain ⟨u, hu, huv, hur, hui⟩ := whole_fin (way := .down) (by decide) vf
  have hflw : FloatKind.f64.encode ((FloatKind.f64.decode v).integral .down) = Ieee.double.word (sg v) (rungd u 0) := by
    show Ieee.double.write ((Ieee.double.read v).integral .down) = _
    rw [hu]
    exact nearest_eq _ _ _
  have flf : fin (Ieee.double.word (sg v) (rungd u 0)) := by unfold fin; rw [mg_word _ (rung_lt63 _ _)]; exact hui
  have flV : V (Ieee.double.word (sg v) (rungd u 0)) = s * (Uno : Int) := by

    rw [V_word _ (rung_lt63 _ _), hur]
    rw [vabs, hdivU, hmodU] at huv
    have hz : (512 * s + k).natAbs % 512 * Q ≠ 0 ↔ (512 * s + k).natAbs % 512 ≠ 0 := by
      constructor
      · intro h e; exact h (by rw [e, Nat.zero_mul])
      · intro h e; rcases Nat.mul_eq_zero.1 e with e | e <;> omega
    by_cases z : 512 * s + k = 0
    · have s0 : s = 0 := by omega
      have u0 : u = 0 := by
        rw [huv, if_neg (by rw [hz]; omega)]; omega
      rw [u0, s0]; simp
    · rw [sgv z] at huv ⊢
      by_cases c : 512 * s + k < 0
      · have hu' : u = s.natAbs := by
          rw [huv, decide_eq_true c]
          by_cases m : (512 * s + k).natAbs % 512 = 0
          · rw [if_neg (by rw [hz]; omega)]; omega
          · rw [if_pos ⟨rfl, by rw [hz]; omega⟩]; omega
        rw [decide_eq_true c, if_pos rfl, hu', Int.natCast_mul, ← Int.neg_mul]
        congr 1; omega
      · have hu' : u = s.natAbs := by
          rw [huv, decide_eq_false c, if_neg (by simp [inc])]; omega
        rw [decide_eq_false c, if_neg (by simp), hu', Int.natCast_mul]
        congr 1; omega
  -- the difference
  obtain ⟨sb, hsb, sbn, sbv⟩ := sub_V vf flf
  have sbV : V sb = k * (Q : Int) := by
    rw [sbv, vV, flV, ← hT]
    rw [show s * (Uno : Int) + k * (Q : Int) - s * (Uno : Int) = k * (Q : Int) by omega, ← dv]
    exact rnd_V df
  have sbf : fin sb := fin_of_V (by rw [sbV, ← dv, abs_V]; exact fin_lt df)
  have sbabs : vr (mg sb) = k.natAbs * Q := by rw [← abs_V, sbV, Int.natAbs_mul]; rfl
  -- the product
  have f9 := ofInt_fin (n := 1000000000) (by decide)
  have a9 : vr (mg (ofInt 1000000000)) = 1000000000 * Uno := mg_int (n := 1000000000) (by decide)
  have hmul := mul_fin sbf f9.1
  rw [sbabs, a9] at hmul
  have hprod : k.natAbs * Q * (1000000000 * Uno) = k.natAbs * 1953125 * 2^(a + 9 + a + 9) := by
    have e1 : Q * Uno * 512 = 2^(a + 9 + a + 9) := by
      rw [hQa, one_eq (a + 9) (by omega), show (512 : Nat) = 2^9 from rfl, ← Nat.pow_add, ← Nat.pow_add]
      congr 1; omega
    rw [← e1]
    generalize Uno = U
    rw [show k.natAbs * Q * (1000000000 * U) = k.natAbs * (Q * U) * 1000000000 by ac_rfl, show k.natAbs * 1953125 * (Q * U * 512) = k.natAbs * (Q * U) * (1953125 * 512) by ac_rfl]
  rw [hprod, rungd_shift, show (-2148 : Int) + ((a + 9 + a + 9 : Nat) : Int) = 0 by omega] at hmul
  have hpn : (k.natAbs * 1953125 : Nat) ≤ 2^53 := by omega
  have hpr := rungd_int hpn
  obtain ⟨pr, hprw⟩ : ∃ pr, Ieee.double.word (sg sb ^^ sg (ofInt 1000000000)) (rungd (k.natAbs * 1953125) 0) = pr := ⟨_, rfl⟩
  rw [hprw] at hmul
  have prf : fin pr := by rw [← hprw]; unfold fin; rw [mg_word _ (rung_lt63 _ _)]; exact hpr.2
  have prm : vr (mg pr) = k.natAbs * 1953125 * Uno := by rw [← hprw, mg_word _ (rung_lt63 _ _)]; exact hpr.1
  have prs : k ≠ 0 → sg pr = false := by
    intro hk
    rw [← hprw, sg_word _ (rung_lt63 _ _), f9.2.2]
    have : sg sb = false := by
      have h := sbV
      unfold V at h
      rw [sbabs] at h
      have hp : 0 < k.natAbs * Q := Nat.mul_pos (by omega) hQ0
      have hp2 : 0 < k * (Q : Int) := Int.mul_pos (by omega) (by omega)
      cases hsg : sg sb
      · rfl
      · rw [hsg] at h; simp only [if_true] at h; omega
    rw [this]; simp
  obtain ⟨j, hj⟩ := Int.eq_ofNat_of_zero_le h3
  obtain ⟨q, hq, qf, qv⟩ := divE9 (j := j) (by omega) hQ
  refine ⟨d, v, _, sb, pr, q, by rw [← e512_is]; exact hd, hv, vf, hflw, hsb, by rw [← e9_is]; exact hmul, ?_, ?_, ?_, ?_⟩
  · -- int64(v)
    have ht := toInt_fin vf
    rw [vabs, hdivU] at ht
    unfold floatToIntVal
    have hdec : (FloatKind.f64.decode v).toInt .zero = some (effOf s k) := by
      show (Ieee.double.read v).toInt .zero = _
      rw [ht]
      congr 1
      by_cases z : 512 * s + k = 0
      · have e0 : effOf s k = 0 := by unfold effOf; rw [if_neg (by omega)]; omega
        have : (512 * s + k).natAbs / 512 = 0 := by omega
        rw [this, e0]
        cases sg v <;> rfl
      · rw [sgv z]
        unfold effOf
        by_cases c : 512 * s + k < 0
        · rw [decide_eq_true c, if_pos rfl]; split <;> omega
        · rw [decide_eq_false c, if_neg (by simp)]; split <;> omega
    rw [hdec]
    have b : IntKind.i64.min ≤ effOf s k ∧ effOf s k ≤ IntKind.i64.max := by
      have e1 : IntKind.i64.min = -9223372036854775808 := by decide
      have e2 : IntKind.i64.max = 9223372036854775807 := by decide
      unfold effOf; split <;> omega
    simp only [b, and_self, if_true]
  · have ht := toInt_fin prf
    rw [prm, Nat.mul_div_cancel _ one_pos] at ht
    unfold floatToIntVal
    have hdec : (FloatKind.f64.decode pr).toInt .zero = some (k * 1953125) := by
      show (Ieee.double.read pr).toInt .zero = _
      rw [ht]
      congr 1
      by_cases hk : k = 0
      · subst hk; cases sg pr <;> rfl
      · rw [prs hk, if_neg (by simp)]; omega
    rw [hdec]
    have b : IntKind.i64.min ≤ k * 1953125 ∧ k * 1953125 ≤ IntKind.i64.max := by
      have e1 : IntKind.i64.min = -9223372036854775808 := by decide
      have e2 : IntKind.i64.max = 9223372036854775807 := by decide
      omega
    simp only [b, and_self, if_true]
  · rw [← e9_is]
    have : k * 1953125 = ((j * 1953125 : Nat) : Int) := by omega
    rw [this]; exact hq
  · intro m m0 m1
    have fm := ofInt_fin (n := m) (by omega)
    obtain ⟨r, hr, rn, rv⟩ := add_V fm.1 qf
    obtain ⟨R, hR, Rn, Rv⟩ := add_V fm.1 df
    refine ⟨r, R, hr, hR, ?_⟩
    show (Ieee.double.order r R == some .eq) = true
    rw [eq_eq rn Rn, rv, Rv, qv, dv, decide_eq_true_eq, hj]
end Go.Proofs.Ytiomakknhaiikaa
