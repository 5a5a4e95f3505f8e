/- The short search at every finite double that is not nought: all that ftoa64 asks, and where its decimal lies. -/
import Derived.Test.YtkincdcknmdboaaDoorSN
import Derived.Test.YtkincdcknmdboaaDoorEI
namespace Go.Proofs.YtkincdcknmdboaaDoor
open Go Go.RowKit
set_option linter.unusedVariables false
set_option linter.unusedSimpArgs false

/-- what ftoa64 asks of the mantissa and the exponent of a double's bits a -/
def Takes (a m sh M : Nat) (e2 ef : Int) : Prop :=
  (1 ≤ a / 4503599627370496 ∧ m = a % 4503599627370496 + 4503599627370496 ∧ (a / 4503599627370496 : Nat) - 1023 - (sh : Int) = e2 ∨ a / 4503599627370496 = 0 ∧ m = a % 4503599627370496 ∧ (-1022 : Int) - (sh : Int) = e2) ∧
  1 ≤ m ∧ 64 - (Lib.bitLen m : Int) = (sh : Int) ∧ sh < 64 ∧ (m : Int) * 2 ^ sh = (M : Int) ∧ M < 18446744073709551616 ∧ e2 - 52 = ef

/-- where the decimal lies -/
def Lies (a d : Nat) (q : Int) : Prop :=
  1 ≤ d ∧ d < 1152921504606846976 ∧ -330 ≤ q ∧ q ≤ 300 ∧ (a < 4517329193108106637 → q ≤ -21) ∧ (4517329193108106637 ≤ a → -22 ≤ q) ∧ (a < 4921056587992461136 → q ≤ 7) ∧ (4921056587992461136 ≤ a → 4 ≤ q ∧ 100000000000000 ≤ d)

theorem lies_n (a k d : Nat) (L q : Int) (hk : k < 2046) (hk2 : a / 4503599627370496 = k + 1) (hR : Res 100000000000000 L d q) (hL : L = ((k : Int) - 1074) * 78913 / 262144 ∨ L = (((k : Int) - 1074) * 631305 - 261663) / 2097152) : Lies a d q := by
  have hf := farN_all k hk
  unfold farN at hf
  simp only [Bool.and_eq_true, Bool.or_eq_true, decide_eq_true_eq] at hf
  obtain ⟨h1, h2, h3, h4⟩ := hR
  have l1 : -325 ≤ L ∧ L ≤ 295 := by omega
  have l2 : a < 4517329193108106637 → L < -21 := fun h => by
    have : k < 1003 := by omega
    omega
  have l3 : 4517329193108106637 ≤ a → -22 ≤ L := fun h => by
    have : 1002 ≤ k := by omega
    omega
  have l4 : a < 4921056587992461136 → L ≤ 6 := fun h => by
    have : k ≤ 1091 := by omega
    omega
  have l5 : 4921056587992461136 ≤ a → 3 < L := fun h => by
    have : 1091 ≤ k := by omega
    omega
  clear hf hL
  refine ⟨h2, h3, by omega, by omega, fun h => ?_, fun h => ?_, fun h => ?_, fun h => ⟨?_, h1⟩⟩
  · have := l2 h; omega
  · have := l3 h; omega
  · have := l4 h; omega
  · have := l5 h; omega

theorem short_of (a : Nat) (h0 : 0 < a) (h1 : a < 9218868437227405312) :
    ∃ (m sh M d : Nat) (e2 ef q : Int), Takes a m sh M e2 ef ∧ ShortAt M ef d q ∧ Lies a d q := by
  obtain ⟨ee, hee⟩ : ∃ ee, ee = a / 4503599627370496 := ⟨_, rfl⟩
  obtain ⟨mm, hmm⟩ : ∃ mm, mm = a % 4503599627370496 := ⟨_, rfl⟩
  have hm52 : mm < 4503599627370496 := by omega
  have he : ee < 2047 := by omega
  by_cases hz : ee = 0
  · have hm1 : 1 ≤ mm := by omega
    obtain ⟨k, hk⟩ : ∃ k, k = mm.log2 := ⟨_, rfl⟩
    have k1 : 2 ^ k ≤ mm := by rw [hk]; exact Nat.log2_self_le (by omega)
    have k2 : mm < 2 ^ (k + 1) := by rw [hk]; exact Nat.lt_log2_self
    have k3 : k < 52 := by
      rcases Nat.lt_or_ge k 52 with h | h
      · exact h
      · have h2 : 2 ^ 52 ≤ 2 ^ k := Nat.pow_le_pow_right (by decide) h
        have h3 : (2 : Nat) ^ 52 = 4503599627370496 := rfl
        omega
    have hbl := bitLen_of mm k k1 k2 (by have : (2 : Nat) ^ 64 = 18446744073709551616 := rfl; omega)
    obtain ⟨z, hzz⟩ : ∃ z, z = 63 - k := ⟨_, rfl⟩
    have p1 : 2 ^ k * 2 ^ z = 9223372036854775808 := by rw [← Nat.pow_add, show k + z = 63 by omega]
    have p2 : 2 ^ (k + 1) * 2 ^ z = 18446744073709551616 := by rw [← Nat.pow_add, show k + 1 + z = 64 by omega]
    have p3 : 2 ^ z = 2 ^ (z - 1) * 2 := by rw [← Nat.pow_succ, show (z - 1).succ = z by omega]
    have p4 := Nat.two_pow_pos (z - 1)
    obtain ⟨M, hM⟩ : ∃ M, M = mm * 2 ^ z := ⟨_, rfl⟩
    have m1 : 9223372036854775808 ≤ M := by rw [hM, ← p1]; exact Nat.mul_le_mul_right _ k1
    have m2 : M + 2 ^ z ≤ 18446744073709551616 := by
      have h3 : (mm + 1) * 2 ^ z ≤ 2 ^ (k + 1) * 2 ^ z := Nat.mul_le_mul_right _ k2
      rw [p2, Nat.add_mul, Nat.one_mul, ← hM] at h3
      exact h3
    obtain ⟨d, q, hR, hS⟩ := short_nC z M (by omega) (by omega) m1 (by omega) (by omega)
    refine ⟨mm, z, M, d, -1022 - (z : Int), -1074 - (z : Int), q, ⟨Or.inr ⟨by omega, hmm, rfl⟩, hm1, by rw [hbl]; omega, by omega, by rw [hM]; simp, by omega, by omega⟩, hS, ?_⟩
    obtain ⟨r1, r2, r3, r4⟩ := hR
    have hL : (-1074 * 78913 / 262144 : Int) = -324 := by decide
    rw [hL] at r4
    exact ⟨r2, r3, by omega, by omega, fun _ => by omega, fun h => by omega, fun _ => by omega, fun h => by omega⟩
  · obtain ⟨k, hk⟩ : ∃ k, k = ee - 1 := ⟨_, rfl⟩
    have hk46 : k < 2046 := by omega
    have hbl : Lib.bitLen (mm + 4503599627370496) = 53 := bitLen_of (mm + 4503599627370496) 52 (by have : (2 : Nat) ^ 52 = 4503599627370496 := rfl; omega) (by have : (2 : Nat) ^ (52 + 1) = 9007199254740992 := rfl; omega) (by have : (2 : Nat) ^ 64 = 18446744073709551616 := rfl; omega)
    obtain ⟨M, hM⟩ : ∃ M, M = (mm + 4503599627370496) * 2048 := ⟨_, rfl⟩
    have key : ∃ d q, (∃ L, Res 100000000000000 L d q ∧ (L = ((k : Int) - 1074) * 78913 / 262144 ∨ L = (((k : Int) - 1074) * 631305 - 261663) / 2097152)) ∧ ShortAt M ((k : Int) - 1085) d q := by
      by_cases hmz : mm = 0
      · have hMM : M = 9223372036854775808 := by simp [hM, hmz]
        by_cases hk0 : k = 0
        · obtain ⟨d, q, hR, hS⟩ := short_nD k M hk46 hk0 hMM
          exact ⟨d, q, ⟨_, hR, Or.inl rfl⟩, hS⟩
        · obtain ⟨d, q, hR, hS⟩ := short_nA k M hk46 (by omega) hMM
          exact ⟨d, q, ⟨_, hR, Or.inr rfl⟩, hS⟩
      · obtain ⟨d, q, hR, hS⟩ := short_nB k M hk46 (by omega) (by omega)
        exact ⟨d, q, ⟨_, hR, Or.inl rfl⟩, hS⟩
    obtain ⟨d, q, ⟨L, hR, hL⟩, hS⟩ := key
    refine ⟨mm + 4503599627370496, 11, M, d, (ee : Int) - 1034, (k : Int) - 1085, q, ⟨Or.inl ⟨by omega, by omega, by omega⟩, by omega, by rw [hbl]; rfl, by omega, by rw [hM]; simp, by omega, by omega⟩, hS, ?_⟩
    exact lies_n a k d L q hk46 (by omega) hR hL
end Go.Proofs.YtkincdcknmdboaaDoor
