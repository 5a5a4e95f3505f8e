/- The short search at a whole number. -/
import Derived.Test.YtkincdcknmdboaaDoorPI
namespace Go.Proofs.YtkincdcknmdboaaDoor
open Go Go.RowKit
set_option linter.unusedVariables false
set_option linter.unusedSimpArgs false

def ShortGives (M : Nat) (e : Int) (d : Nat) (q : Int) : Prop := ∀ w : World, TabP w → Calls Tryd.prog 34 #[.int .u64 M, .int .i64 e] w fun r w' => r = .returned (.tuple #[.int .u64 d, .int .i64 q]) ∧ Below w.heap.size w w'

theorem use_A (bl p s : Nat) (d : Nat) (q : Int) (hb : 1 ≤ bl) (hb2 : bl ≤ 54) (hL : (((bl : Int) - 64 + 11) * 631305 - 261663) / 2097152 = -(p : Int)) (hp : p ≤ 16) (hlp : bl + p * 108853 / 32768 + 3 ≤ 61) (hs : s = 61 - bl - p * 108853 / 32768)
    (hhi : 9223372036854775808 ≤ hiOf p) (hhi2 : hiOf p < 18446744073709551616)
    (hR : shortR (usc 9223372036854775808 (hiOf p) 0 s) (usc (9223372036854775808 - 512) (hiOf p) 0 s) (usc (9223372036854775808 + 1024) (hiOf p) 0 s) (9223372036854775808 / 2048 % 2) p = (d, q)) : ShortGives 9223372036854775808 ((bl : Int) - 64) d q := by
  intro w hT
  have hl : p * 108853 / 32768 ≤ 60 := by omega
  have h := short_A 9223372036854775808 (hiOf p) 0 (p + 348) s ((bl : Int) - 64) (-(p : Int)) ((p * 108853 / 32768 : Nat) : Int) w rfl (by omega) (by omega) hL hhi hhi2 (by decide) (by omega) (by omega) (by omega) (by omega) (by omega) (by omega) (by omega) (by omega) (by omega) (by omega) (hT p hp).1 (hT p hp).2 hT.lt
  refine h.mono ?_
  rintro r w' ⟨d', q', h1, h2, h3⟩
  rw [Int.neg_neg, hR] at h2
  obtain ⟨rfl, rfl⟩ := Prod.mk.inj h2
  exact ⟨h1, h3⟩

theorem use_B (M bl p s : Nat) (d : Nat) (q : Int) (hb : 1 ≤ bl) (hb2 : bl ≤ 54) (hM0 : 9223372036854775808 < M) (hM1 : M + 1024 < 18446744073709551616) (hL : ((bl : Int) - 64 + 11) * 78913 / 262144 = -(p : Int)) (hp : p ≤ 16) (hlp : bl + p * 108853 / 32768 + 3 ≤ 61) (hs : s = 61 - bl - p * 108853 / 32768)
    (hhi : 9223372036854775808 ≤ hiOf p) (hhi2 : hiOf p < 18446744073709551616)
    (hR : shortR (usc M (hiOf p) 0 s) (usc (M - 1024) (hiOf p) 0 s) (usc (M + 1024) (hiOf p) 0 s) (M / 2048 % 2) p = (d, q)) : ShortGives M ((bl : Int) - 64) d q := by
  intro w hT
  have hl : p * 108853 / 32768 ≤ 60 := by omega
  have h := short_B M (hiOf p) 0 (p + 348) s ((bl : Int) - 64) (-(p : Int)) ((p * 108853 / 32768 : Nat) : Int) w hM0 hM1 (by omega) (by omega) hL hhi hhi2 (by decide) (by omega) (by omega) (by omega) (by omega) (by omega) (by omega) (by omega) (by omega) (by omega) (by omega) (hT p hp).1 (hT p hp).2 hT.lt
  refine h.mono ?_
  rintro r w' ⟨d', q', h1, h2, h3⟩
  rw [Int.neg_neg, hR] at h2
  obtain ⟨rfl, rfl⟩ := Prod.mk.inj h2
  exact ⟨h1, h3⟩

theorem pow_split (bl : Nat) (hb : 1 ≤ bl) (hb2 : bl ≤ 63) : 2 ^ (bl - 1) * 2 ^ (64 - bl) = 9223372036854775808 := by
  rw [← Nat.pow_add, show bl - 1 + (64 - bl) = 63 by omega]

theorem short_int (N bl : Nat) (hb : 1 ≤ bl) (h1 : 2 ^ (bl - 1) ≤ N) (h2 : N < 2 ^ bl) (hb2 : bl ≤ 54) (hN : N ≤ 9007199254740992) :
    ∃ d q, Gives N d q ∧ d < 1152921504606846976 ∧ ShortGives (N * 2 ^ (64 - bl)) ((bl : Int) - 64) d q := by
  have hN1 : 1 ≤ N := Nat.le_trans (Nat.two_pow_pos _) h1
  have hps := pow_split bl hb (by omega)
  have hpos := Nat.two_pow_pos (64 - bl)
  by_cases hA : N = 2 ^ (bl - 1)
  · by_cases h54 : bl = 54
    · subst h54
      have e : N = 9007199254740992 := hA
      subst e
      exact ⟨_, _, Or.inl ⟨0, by omega, rfl, rfl⟩, by decide, use_A 54 0 7 _ _ (by omega) (by omega) (by decide) (by omega) (by omega) (by omega) (by decide) (by decide) plain_54⟩
    · have hok := okA_all bl (by omega) hb
      unfold okA at hok
      simp only [Bool.and_eq_true, decide_eq_true_eq] at hok
      obtain ⟨p, hp⟩ : ∃ p, p = (-((((bl : Int) - 64 + 11) * 631305 - 261663) / 2097152)).toNat := ⟨_, rfl⟩
      rw [← hp] at hok
      obtain ⟨⟨⟨⟨⟨⟨⟨⟨⟨⟨k1, k2⟩, k3⟩, k4⟩, k5⟩, k6⟩, k7⟩, k8⟩, k9⟩, k10⟩, k11⟩ := hok
      have hM : N * 2 ^ (64 - bl) = 9223372036854775808 := by rw [hA, hps]
      have hR := plain_D N bl 9223372036854775808 p _ (9223372036854775808 / 2048 % 2) 512 k2 (by decide) hN1 hM.symm (by decide) k8 k9 k10 k11 (by decide) k7 (by omega)
      rw [hM]
      exact ⟨_, _, Or.inl ⟨p - 1, by omega, by omega, rfl⟩, hR.2, use_A bl p _ _ _ hb (by omega) k1 k3 k4 rfl k6 k7 hR.1⟩
  · have hlt : 2 ^ (bl - 1) < N := Nat.lt_of_le_of_ne h1 (Ne.symm hA)
    have hbl53 : bl ≤ 53 := by
      rcases Nat.lt_or_ge bl 54 with h | h
      · omega
      · have : bl = 54 := by omega
        subst this
        have : (2 : Nat) ^ (54 - 1) = 9007199254740992 := by decide
        omega
    obtain ⟨T, hT⟩ : ∃ T, 2 ^ (64 - bl) = T := ⟨_, rfl⟩
    have hT2 : 2048 ≤ T := by rw [← hT]; exact Nat.le_trans (by decide) (Nat.pow_le_pow_right (n := 2) (by decide) (show 11 ≤ 64 - bl by omega))
    have hM0 : 9223372036854775808 < N * T := by
      rw [← hps, hT]
      exact Nat.mul_lt_mul_of_pos_right hlt (by omega)
    have hM1 : N * T + 2048 ≤ 18446744073709551616 := by
      have h3 : (N + 1) * T ≤ 2 ^ bl * 2 ^ (64 - bl) := by rw [hT]; exact Nat.mul_le_mul_right _ h2
      rw [← Nat.pow_add, show bl + (64 - bl) = 64 by omega, Nat.add_mul] at h3
      have : (2 : Nat) ^ 64 = 18446744073709551616 := rfl
      omega
    by_cases h53 : bl = 53
    · subst h53
      have e : T = 2048 := hT.symm
      subst e
      have k1 : (2 : Nat) ^ (53 - 1) = 4503599627370496 := by decide
      have k2 : (2 : Nat) ^ 53 = 9007199254740992 := by decide
      obtain ⟨d, q, hR, hG, hd⟩ := plain_53 N (N * 2048 / 2048 % 2) (by omega) (by omega) (Nat.mod_lt _ (by decide))
      rw [hT]
      exact ⟨d, q, hG, hd, use_B (N * 2048) 53 0 8 d q (by omega) (by omega) hM0 (by omega) (by decide) (by omega) (by omega) (by omega) (by decide) (by decide) hR⟩
    · have hok := okB_all bl (by omega) hb
      unfold okB at hok
      simp only [Bool.and_eq_true, decide_eq_true_eq] at hok
      obtain ⟨p, hp⟩ : ∃ p, p = (-(((bl : Int) - 64 + 11) * 78913 / 262144)).toNat := ⟨_, rfl⟩
      rw [← hp] at hok
      obtain ⟨⟨⟨⟨⟨⟨⟨⟨⟨k1, k2⟩, k3⟩, k4⟩, k5⟩, k6⟩, k7⟩, k8⟩, k10⟩, k11⟩ := hok
      rw [hT]
      have hTT : 0 < TT (61 - bl - p * 108853 / 32768) := Nat.mul_pos (by decide) (Nat.two_pow_pos _)
      have hR := plain_D N bl (N * T) p _ (N * T / 2048 % 2) 1024 k2 (Nat.mod_lt _ (by decide)) hN1 (by rw [hT]) (by omega) k8 (by omega) k10 k11 (by omega) k7 (by omega)
      exact ⟨_, _, Or.inl ⟨p - 1, by omega, by omega, rfl⟩, hR.2, use_B (N * T) bl p _ _ _ hb (by omega) hM0 (by omega) k1 k3 k4 rfl k6 k7 hR.1⟩
end Go.Proofs.YtkincdcknmdboaaDoor
