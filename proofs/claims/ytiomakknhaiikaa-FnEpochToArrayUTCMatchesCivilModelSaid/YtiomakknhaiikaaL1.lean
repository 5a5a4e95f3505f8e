/- The plain laws of timeToEpoch on doubles: exact at multiples of 1/512 of a second; within the second, and monotone. -/
import Derived.Laws.FloatArith
import Derived.Test.YtiomakknhaiikaaFlt
namespace Go.Proofs.Ytiomakknhaiikaa
open Flt
set_option linter.unusedVariables false

theorem ofInt_is (n : Int) : floatOfInt .f64 n = ofInt n := rfl
theorem e9_is : ofInt 1000000000 = 4741671816366391296 := by decide +kernel
theorem e512_is : ofInt 512 = 4647714815446351872 := by decide +kernel

theorem mg_int {n : Nat} (h : n ≤ 2^53) : vr (mg (ofInt n)) = n * Uno := by
  have hf := ofInt_fin (n := (n : Int)) (by omega)
  have h1 := abs_V (ofInt n)
  rw [hf.2.1] at h1
  rw [← h1, Int.natAbs_mul]; rfl

theorem mg_intI {n : Int} (h : n.natAbs ≤ 2^53) : vr (mg (ofInt n)) = n.natAbs * Uno := by
  have hf := ofInt_fin h
  have h1 := abs_V (ofInt n)
  rw [hf.2.1] at h1
  rw [← h1, Int.natAbs_mul]; rfl

theorem one_512 : ∃ Q : Nat, Q * 2^9 = Uno := by
  obtain ⟨a, ha⟩ : ∃ a : Nat, a = 1074 := ⟨_, rfl⟩
  obtain ⟨b, hb⟩ : ∃ b : Nat, b + 9 = a := ⟨1065, by omega⟩
  exact ⟨2^b, by rw [one_eq a ha, ← Nat.pow_add, hb]⟩

/-- k / 512, exactly -/
theorem div512 {k : Int} (hk : k.natAbs ≤ 2^16) {Q : Nat} (hQ : Q * 2^9 = Uno) :
    ∃ r, Ieee.double.div (ofInt k) (ofInt 512) = some r ∧ fin r ∧ V r = k * (Q : Int) := by
  have hx := ofInt_fin (n := k) (by omega)
  have hy := ofInt_fin (n := 512) (by decide)
  have hp := one_pos
  obtain ⟨r, hr, hf, hv⟩ := div_exact (c := k.natAbs) (k := 9) (Q := Q) hx.1 hy.1 (by omega) hQ
    (by rw [show ofInt 512 = ofInt ((512 : Nat) : Int) from rfl, mg_int (by decide)]; omega)
    (by rw [show ofInt 512 = ofInt ((512 : Nat) : Int) from rfl, mg_int (n := 512) (by decide), mg_intI (by omega), Nat.mul_assoc, Nat.mul_comm Uno, ← Nat.mul_assoc, Nat.mul_right_comm, Nat.mul_comm k.natAbs]
        ac_rfl)
  refine ⟨r, hr, hf, ?_⟩
  rw [hv, hx.2.2, hy.2.2]
  by_cases c : k < 0
  · rw [if_pos (by simp [c])]
    rw [Int.natCast_mul, ← Int.neg_mul]; congr 1; omega
  · rw [if_neg (by simp; omega)]
    rw [Int.natCast_mul]; congr 1; omega

theorem e9_step (j u : Nat) : j * 1953125 * u * 2^9 = 1000000000 * u * j := by
  rw [show (2 : Nat)^9 = 512 from rfl, Nat.mul_right_comm, show j * 1953125 * 512 = j * 1000000000 by omega, Nat.mul_comm j, Nat.mul_assoc, Nat.mul_comm j, ← Nat.mul_assoc]

/-- j * 1953125 / 1e9 = j / 512, exactly -/
theorem divE9 {j : Nat} (hj : j < 512) {Q : Nat} (hQ : Q * 2^9 = Uno) :
    ∃ r, Ieee.double.div (ofInt ((j * 1953125 : Nat) : Int)) (ofInt 1000000000) = some r ∧ fin r ∧ V r = (j : Int) * (Q : Int) := by
  have hx := ofInt_fin (n := ((j * 1953125 : Nat) : Int)) (by omega)
  have hy := ofInt_fin (n := 1000000000) (by decide)
  have hp := one_pos
  obtain ⟨r, hr, hf, hv⟩ := div_exact (c := j) (k := 9) (Q := Q) hx.1 hy.1 (by omega) hQ
    (by rw [show ofInt 1000000000 = ofInt ((1000000000 : Nat) : Int) from rfl, mg_int (by decide)]; omega)
    (by rw [show ofInt 1000000000 = ofInt ((1000000000 : Nat) : Int) from rfl, mg_int (n := 1000000000) (by decide), mg_int (n := j * 1953125) (by omega)]
        exact e9_step j Uno)
  refine ⟨r, hr, hf, ?_⟩
  rw [hv, hx.2.2, hy.2.2, if_neg (by simp; omega), Int.natCast_mul]

/-- THE PLAIN LAW of FnTimeToEpochExactOnSubdivisions -/
theorem exact_law {sec k : Int} (h1 : -1099511627776 ≤ sec) (h2 : sec ≤ 1099511627776) (h3 : -65536 ≤ k) (h4 : k ≤ 65536) :
    ∃ q r d R, floatBits .quo .f64 (floatOfInt .f64 (k * 1953125 % 1000000000)) 4741671816366391296 = some q ∧ floatBits .add .f64 (floatOfInt .f64 (sec + k * 1953125 / 1000000000)) q = some r ∧
      floatBits .quo .f64 (floatOfInt .f64 k) 4647714815446351872 = some d ∧ floatBits .add .f64 (floatOfInt .f64 sec) d = some R ∧
      (FloatKind.f64.format.order r R == some .eq) = true := by
  obtain ⟨Q, hQ⟩ := one_512
  obtain ⟨j, hj, hj5⟩ : ∃ j : Nat, k * 1953125 % 1000000000 = ((j * 1953125 : Nat) : Int) ∧ j < 512 := ⟨(k % 512).toNat, by omega, by omega⟩
  obtain ⟨q, hq, qf, qv⟩ := divE9 hj5 hQ
  obtain ⟨d, hd, df, dv⟩ := div512 (k := k) (by omega) hQ
  have f1 := ofInt_fin (n := sec + k * 1953125 / 1000000000) (by omega)
  have f2 := ofInt_fin (n := sec) (by omega)
  obtain ⟨r, hr, rn, rv⟩ := add_V f1.1 qf
  obtain ⟨R, hR, Rn, Rv⟩ := add_V f2.1 df
  refine ⟨q, r, d, R, ?_, ?_, ?_, ?_, ?_⟩
  · rw [hj, ← e9_is]; exact hq
  · exact hr
  · rw [← e512_is]; exact hd
  · exact hR
  · show (Ieee.double.order r R == some .eq) = true
    rw [eq_eq rn Rn, rv, Rv, f1.2.1, f2.2.1, qv, dv, decide_eq_true_eq]
    congr 1
    have hOne : (Uno : Int) = (Q : Int) * 512 := by rw [← hQ, Int.natCast_mul]; rfl
    rw [hOne, Int.mul_comm (Q : Int) 512, ← Int.mul_assoc, ← Int.mul_assoc, ← Int.add_mul, ← Int.add_mul]
    congr 1
    omega

/-- what timeToEpoch gives at (s, n) -/
theorem value_law {s n : Int} (h1 : -1099511627776 ≤ s) (h2 : s ≤ 1099511627776) (h3 : 0 ≤ n) (h4 : n < 1000000000) :
    ∃ q r, floatBits .quo .f64 (floatOfInt .f64 n) 4741671816366391296 = some q ∧ floatBits .add .f64 (floatOfInt .f64 s) q = some r ∧
      ¬ nan r ∧ fin q ∧ V r = rnd (s * (Uno : Int) + V q) ∧ 0 ≤ V q ∧ V q ≤ (Uno : Int) := by
  obtain ⟨m, rfl⟩ := Int.eq_ofNat_of_zero_le h3
  obtain ⟨q, hq, qf, q0, q1⟩ := div_int (n := m) (M := 1000000000) (by omega) (by omega) (by omega)
  have f1 := ofInt_fin (n := s) (by omega)
  obtain ⟨r, hr, rn, rv⟩ := add_V f1.1 qf
  rw [f1.2.1] at rv
  refine ⟨q, r, ?_, hr, rn, qf, rv, q0, q1⟩
  rw [← e9_is]; exact hq

theorem quo_mono {n n' : Int} {q q' : Nat} (h3 : 0 ≤ n) (h : n ≤ n') (h4 : n' < 1000000000)
    (hq : floatBits .quo .f64 (floatOfInt .f64 n) 4741671816366391296 = some q) (hq' : floatBits .quo .f64 (floatOfInt .f64 n') 4741671816366391296 = some q') : V q ≤ V q' := by
  obtain ⟨m, rfl⟩ := Int.eq_ofNat_of_zero_le h3
  obtain ⟨m', rfl⟩ := Int.eq_ofNat_of_zero_le (show 0 ≤ n' by omega)
  rw [← e9_is] at hq hq'
  exact div_int_mono (M := 1000000000) (by omega) (by omega) (by omega) (by omega) hq hq'

/-- float64(s) + 1 -/
theorem succ_law {s : Int} (h1 : -1099511627776 ≤ s) (h2 : s ≤ 1099511627776) :
    ∃ R, floatBits .add .f64 (floatOfInt .f64 s) 4607182418800017408 = some R ∧ ¬ nan R ∧ V R = (s + 1) * (Uno : Int) := by
  have e1 : ofInt 1 = 4607182418800017408 := by decide +kernel
  have f1 := ofInt_fin (n := s) (by omega)
  have f2 := ofInt_fin (n := 1) (by decide)
  obtain ⟨r, hr, rn, rv⟩ := add_V f1.1 f2.1
  refine ⟨r, by rw [← e1]; exact hr, rn, ?_⟩
  rw [rv, f1.2.1, f2.2.1, ← Int.add_mul, rnd_int (by omega)]

theorem low_law {s : Int} {q : Nat} (h1 : -1099511627776 ≤ s) (h2 : s ≤ 1099511627776) (hq : 0 ≤ V q) : s * (Uno : Int) ≤ rnd (s * (Uno : Int) + V q) := by
  have := rnd_mono (show s * (Uno : Int) ≤ s * (Uno : Int) + V q by omega)
  rw [rnd_int (by omega)] at this; exact this

theorem high_law {s : Int} {q : Nat} (h1 : -1099511627776 ≤ s) (h2 : s ≤ 1099511627776) (hq : V q ≤ (Uno : Int)) : rnd (s * (Uno : Int) + V q) ≤ (s + 1) * (Uno : Int) := by
  have := rnd_mono (show s * (Uno : Int) + V q ≤ (s + 1) * (Uno : Int) by rw [Int.add_mul]; omega)
  rw [rnd_int (n := s + 1) (by omega)] at this; exact this

theorem mono_law {s1 n1 s2 n2 : Int} {q1 r1 q2 r2 : Nat} (a1 : -1099511627776 ≤ s1) (a2 : s1 ≤ 1099511627776) (b1 : -1099511627776 ≤ s2) (b2 : s2 ≤ 1099511627776)
    (c1 : 0 ≤ n1) (c2 : n1 < 1000000000) (d1 : 0 ≤ n2) (d2 : n2 < 1000000000)
    (hq1 : floatBits .quo .f64 (floatOfInt .f64 n1) 4741671816366391296 = some q1) (hq2 : floatBits .quo .f64 (floatOfInt .f64 n2) 4741671816366391296 = some q2)
    (v1 : V r1 = rnd (s1 * (Uno : Int) + V q1)) (v2 : V r2 = rnd (s2 * (Uno : Int) + V q2)) (l1 : 0 ≤ V q1) (l1' : V q1 ≤ (Uno : Int)) (l2 : 0 ≤ V q2)
    (h : s1 < s2 ∨ (s1 = s2 ∧ n1 ≤ n2)) : V r1 ≤ V r2 := by
  rw [v1, v2]
  rcases h with h | ⟨rfl, h⟩
  · have h1 := high_law a1 a2 l1'
    have h2 := low_law b1 b2 l2
    have h3 : (s1 + 1) * (Uno : Int) ≤ s2 * (Uno : Int) := Int.mul_le_mul_of_nonneg_right (by omega) (by omega)
    omega
  · have := quo_mono c1 h d2 hq1 hq2
    exact rnd_mono (by omega)
end Go.Proofs.Ytiomakknhaiikaa
