/- The shortest decimal of a whole number: plain Lean. -/
import Derived.Test.YtkincdcknmdboaaDoorSF
namespace Go.Proofs.YtkincdcknmdboaaDoor
open Go
set_option linter.unusedVariables false
set_option linter.unusedSimpArgs false

theorem or_le2 (a c : Nat) (hc : c ≤ 1) : a ||| c ≤ 2 * (a / 2) + 1 := by
  have h : (a ||| c) / 2 = a / 2 ||| c / 2 := Nat.or_div_two ..
  have h0 : c / 2 = 0 := by omega
  rw [h0, Nat.or_zero] at h
  omega

def TT (s : Nat) : Nat := 18446744073709551616 * 2 ^ s
theorem div_TT (A s : Nat) : A / 18446744073709551616 / 2 ^ s = A / TT s := Nat.div_div_eq_div_mul ..

theorem usc0_ge (x hi s : Nat) : x * hi / TT s ≤ usc x hi 0 s := by
  unfold usc
  rw [← div_TT]
  simp only [Nat.mul_zero, Nat.zero_div, Nat.not_lt_zero, if_false, Nat.sub_zero]
  split <;> exact Nat.left_le_or
theorem usc0_le (x hi s : Nat) : usc x hi 0 s ≤ 2 * (x * hi / TT s / 2) + 1 := by
  unfold usc
  rw [← div_TT]
  simp only [Nat.mul_zero, Nat.zero_div, Nat.not_lt_zero, if_false, Nat.sub_zero]
  split
  · exact or_le2 _ _ (by split <;> omega)
  · exact or_le2 _ _ (Nat.le_refl _)
theorem usc0_exact (x hi s u : Nat) (h : x * hi = u * TT s) : usc x hi 0 s = u := by
  have hT : 0 < TT s := Nat.mul_pos (by decide) (Nat.two_pow_pos s)
  have h1 : x * hi / 18446744073709551616 = u * 2 ^ s := by
    rw [h, TT, Nat.mul_left_comm]
    exact Nat.mul_div_cancel_left _ (by decide)
  have h2 : x * hi % 18446744073709551616 = 0 := by
    rw [h, TT, Nat.mul_left_comm]
    exact Nat.mul_mod_right _ _
  unfold usc
  rw [h1, h2]
  simp only [Nat.mul_zero, Nat.zero_div, Nat.not_lt_zero, if_false, Nat.sub_zero, Nat.zero_add, Nat.mod_self]
  rw [Nat.mul_div_cancel _ (Nat.two_pow_pos s)]
  simp

/-- where ten or more whole numbers cannot lie between the neighbours -/
theorem short_ten (N P um un ux odd : Nat) (p : Int) (ho : odd < 2) (h1 : un + odd ≤ 4 * (N * (P * 10))) (h2 : 4 * (N * (P * 10)) + odd ≤ ux) (h3 : ux < 4 * (N * (P * 10)) + 40) :
    shortR um un ux odd p = (N * P, -(p - 1)) := by
  have e : N * (P * 10) = (N * P) * 10 := by rw [Nat.mul_assoc]
  rw [e] at h1 h2 h3
  generalize N * P = y at *
  unfold shortR
  have hd : (ux - odd) / 4 / 10 = y := by omega
  rw [hd, if_pos (by omega)]

def hiOf (p : Nat) : Nat := 10 ^ p * 2 ^ (63 - p * 108853 / 32768)
/-- what is checked of each bit length -/
def okB (bl : Nat) : Bool :=
  let L : Int := ((bl : Int) - 64 + 11) * 78913 / 262144
  let p := (-L).toNat
  let lp := p * 108853 / 32768
  let s := 61 - bl - lp
  decide (L = -(p : Int)) && decide (1 ≤ p) && decide (p ≤ 16) && decide (bl + lp + 3 ≤ 61) && decide (s ≤ 58) && decide (9223372036854775808 ≤ hiOf p) && decide (hiOf p < 18446744073709551616) && decide (hiOf p * 2 ^ (64 - bl) = 4 * 10 ^ p * TT s) && decide (2 * TT s ≤ 1024 * hiOf p) && decide (1024 * hiOf p < 38 * TT s)
def okA (bl : Nat) : Bool :=
  let L : Int := (((bl : Int) - 64 + 11) * 631305 - 261663) / 2097152
  let p := (-L).toNat
  let lp := p * 108853 / 32768
  let s := 61 - bl - lp
  decide (L = -(p : Int)) && decide (1 ≤ p) && decide (p ≤ 16) && decide (bl + lp + 3 ≤ 61) && decide (s ≤ 58) && decide (9223372036854775808 ≤ hiOf p) && decide (hiOf p < 18446744073709551616) && decide (hiOf p * 2 ^ (64 - bl) = 4 * 10 ^ p * TT s) && decide (TT s < 512 * hiOf p) && decide (2 * TT s ≤ 1024 * hiOf p) && decide (1024 * hiOf p < 38 * TT s)
theorem okB_all : ∀ bl, bl < 53 → 1 ≤ bl → okB bl = true := by decide +kernel
theorem okA_all : ∀ bl, bl < 54 → 1 ≤ bl → okA bl = true := by decide +kernel

/-- what the search gives of the whole number N: its digits, zeros behind them or cut off one -/
def Gives (N d : Nat) (q : Int) : Prop := (∃ z : Nat, z ≤ 16 ∧ q = -(z : Int) ∧ d = N * 10 ^ z) ∨ (q = 1 ∧ N = d * 10)

/-- the table's cells that whole numbers reach -/
def TabP (w : World) : Prop := ∀ p, p ≤ 16 → w.cell? ⟨3, (p + 348) * 2, none⟩ = some (.int .u64 (hiOf p)) ∧ w.cell? ⟨3, (p + 348) * 2 + 1, none⟩ = some (.int .u64 0)

theorem TabP.lt {w : World} (h : TabP w) : 3 < w.heap.size := World.block_lt_of_cell? w _ (h 0 (by omega)).1

theorem lo_le (T y A D : Nat) (hT : 0 < T) (hy : 1 ≤ y) (h : A + D = 4 * y * T) (h2 : T < D) : 2 * (A / T / 2) + 1 + 1 ≤ 4 * y := by
  have h3 : A / T < 4 * y - 1 := by
    rw [Nat.div_lt_iff_lt_mul hT, Nat.sub_mul]
    omega
  omega
theorem up_le (T y A D : Nat) (hT : 0 < T) (h : A = 4 * y * T + D) (h2 : 2 * T ≤ D) (h3 : D < 38 * T) : 4 * y + 2 ≤ A / T ∧ A / T < 4 * y + 38 := by
  constructor
  · rw [Nat.le_div_iff_mul_le hT, Nat.add_mul]
    omega
  · rw [Nat.div_lt_iff_lt_mul hT, Nat.add_mul]
    omega

theorem plain_D (N bl M p s odd dn : Nat) (hp : 1 ≤ p) (ho : odd < 2) (hN : 1 ≤ N) (hM : M = N * 2 ^ (64 - bl)) (hM1 : dn ≤ M)
    (h1 : hiOf p * 2 ^ (64 - bl) = 4 * 10 ^ p * TT s) (h2 : TT s < dn * hiOf p) (h2' : 2 * TT s ≤ 1024 * hiOf p) (h3 : 1024 * hiOf p < 38 * TT s) (hx : M + 1024 < 18446744073709551616) (hhi : hiOf p < 18446744073709551616) (hs3 : 3 ≤ s) :
    shortR (usc M (hiOf p) 0 s) (usc (M - dn) (hiOf p) 0 s) (usc (M + 1024) (hiOf p) 0 s) odd p = (N * 10 ^ (p - 1), -((p : Int) - 1)) ∧ N * 10 ^ (p - 1) < 1152921504606846976 := by
  obtain ⟨P, hP⟩ : ∃ P, P = 10 ^ (p - 1) := ⟨_, rfl⟩
  have hP1 : 1 ≤ P := by rw [hP]; exact Nat.pow_pos (by decide)
  have hP2 : 10 ^ p = P * 10 := by rw [hP, ← Nat.pow_succ]; congr 1; omega
  rw [hP2] at h1
  have hT : 0 < TT s := Nat.mul_pos (by decide) (Nat.two_pow_pos s)
  have hA : M * hiOf p = 4 * (N * (P * 10)) * TT s := by
    rw [hM, Nat.mul_assoc, Nat.mul_comm (2 ^ (64 - bl)), h1]
    simp only [Nat.mul_assoc, Nat.mul_left_comm, Nat.mul_comm]
  rw [← hP]
  have hB : (M - dn) * hiOf p + dn * hiOf p = 4 * (N * (P * 10)) * TT s := by rw [← Nat.add_mul, Nat.sub_add_cancel hM1, hA]
  have hC : (M + 1024) * hiOf p = 4 * (N * (P * 10)) * TT s + 1024 * hiOf p := by rw [Nat.add_mul, hA]
  have hy : 1 ≤ N * (P * 10) := Nat.mul_pos hN (by omega)
  have k1 := lo_le (TT s) _ _ _ hT hy hB h2
  have k2 := up_le (TT s) _ _ _ hT hC h2' h3
  have k3 := usc0_le (M - dn) (hiOf p) s
  have k4 := usc0_le (M + 1024) (hiOf p) s
  have k5 := usc0_ge (M + 1024) (hiOf p) s
  have k6 := usc_lt (M + 1024) (hiOf p) 0 s hx hhi hs3
  have k7 : N * (P * 10) = N * P * 10 := by rw [Nat.mul_assoc]
  exact ⟨short_ten N P _ _ _ odd p ho (by omega) (by omega) (by omega), by omega⟩

/-- 53 bits: the numbers between are a half away -/
theorem plain_53 (N odd : Nat) (h1 : 4503599627370496 ≤ N) (h2 : N < 9007199254740992) (ho : odd < 2) :
    ∃ d q, shortR (usc (N * 2048) 9223372036854775808 0 8) (usc (N * 2048 - 1024) 9223372036854775808 0 8) (usc (N * 2048 + 1024) 9223372036854775808 0 8) odd 0 = (d, q) ∧ Gives N d q ∧ d < 1152921504606846976 := by
  have e1 := usc0_exact (N * 2048) 9223372036854775808 8 (4 * N) (by unfold TT; omega)
  have e2 := usc0_exact (N * 2048 - 1024) 9223372036854775808 8 (4 * N - 2) (by unfold TT; omega)
  have e3 := usc0_exact (N * 2048 + 1024) 9223372036854775808 8 (4 * N + 2) (by unfold TT; omega)
  rw [e1, e2, e3]
  unfold shortR
  have a1 : (4 * N - 2 + odd + 3) / 4 = N := by omega
  have a2 : (4 * N + 2 - odd) / 4 = N := by omega
  rw [a1, a2]
  by_cases h : N ≤ N / 10 * 10
  · rw [if_pos h]
    exact ⟨_, _, rfl, Or.inr ⟨by omega, by omega⟩, by omega⟩
  · rw [if_neg h, if_neg (Nat.lt_irrefl _)]
    exact ⟨_, _, rfl, Or.inl ⟨0, by omega, by simp, by simp⟩, by omega⟩
theorem plain_54 : shortR (usc 9223372036854775808 9223372036854775808 0 7) (usc (9223372036854775808 - 512) 9223372036854775808 0 7) (usc (9223372036854775808 + 1024) 9223372036854775808 0 7) (9223372036854775808 / 2048 % 2) 0 = (9007199254740992, 0) := by decide +kernel
end Go.Proofs.YtkincdcknmdboaaDoor
