/- The short search at every finite double that is not nought. -/
import Derived.Test.YtkincdcknmdboaaDoorSG
import Derived.Test.YtkincdcknmdboaaDoorLT
import Derived.Test.YtkincdcknmdboaaDoorRB
namespace Go.Proofs.YtkincdcknmdboaaDoor
open Go Go.RowKit
set_option linter.unusedVariables false
set_option linter.unusedSimpArgs false

def ShortAt (M : Nat) (e : Int) (d : Nat) (q : Int) : Prop := ∀ w : World, TabAll w → Calls Tryd.prog 34 #[.int .u64 M, .int .i64 e] w fun r w' => r = .returned (.tuple #[.int .u64 d, .int .i64 q]) ∧ Below w.heap.size w w'

theorem TabAll.lt {w : World} (h : TabAll w) : 3 < w.heap.size := by
  obtain ⟨hi, lo, hr, _⟩ := row_at 0 (by decide)
  exact World.block_lt_of_cell? w _ (h 0 hi lo hr).1

/-- what the search gives, in bounds -/
def Res (lo : Nat) (L : Int) (d : Nat) (q : Int) : Prop := lo ≤ d ∧ 1 ≤ d ∧ d < 1152921504606846976 ∧ (q = L ∨ q = L + 1)

theorem res_of (lo um un ux odd : Nat) (L : Int) (ho : odd < 2) (hm : 7 ≤ um) (hn : 7 ≤ un) (hx : 7 ≤ ux) (hm2 : um < 2305843009213693952) (hn2 : un < 2305843009213693952) (hx2 : ux < 2305843009213693952) (hlo : lo = 1 ∨ (40 * lo + 44 ≤ um ∧ 40 * lo + 44 ≤ un ∧ 40 * lo + 44 ≤ ux)) :
    ∃ d q, (d, q) = shortR um un ux odd (-L) ∧ Res lo L d q := by
  have h := shortR_ok um un ux odd (-L) ho hm hn hx hm2 hn2 hx2
  have h9 : lo ≤ (shortR um un ux odd (-L)).1 := by
    rcases hlo with rfl | ⟨a, b, c⟩
    · exact h.1
    · exact shortR_ge um un ux odd lo (-L) ho a b c
  obtain ⟨⟨d, q⟩, e⟩ : ∃ r, r = shortR um un ux odd (-L) := ⟨_, rfl⟩
  rw [← e] at h h9
  have h3 : q = - -L ∨ q = -(-L - 1) := h.2.2
  exact ⟨d, q, e, h9, h.1, h.2.1, by rcases h3 with h | h <;> omega⟩

theorem short_nB (k M : Nat) (hk : k < 2046) (h0 : 9223372036854775808 < M) (h1 : M + 1024 < 18446744073709551616) :
    ∃ d q, Res 100000000000000 (((k : Int) - 1074) * 78913 / 262144) d q ∧ ShortAt M ((k : Int) - 1085) d q := by
  have h88 := okE_all k hk
  unfold okE at h88
  simp only [Bool.and_eq_true, decide_eq_true_eq] at h88
  have h88 := h88.1
  have hok := okN_all k hk
  unfold okN okL at hok
  simp only [Bool.and_eq_true, decide_eq_true_eq] at hok
  obtain ⟨⟨⟨⟨⟨⟨⟨⟨a1, a2⟩, a3⟩, a4⟩, a5⟩, a6⟩, a7⟩, a8⟩, _⟩ := hok
  obtain ⟨L, hL⟩ : ∃ L, L = ((k : Int) - 1074) * 78913 / 262144 := ⟨_, rfl⟩
  rw [← hL] at a1 a2 a3 a4 a5 a6 a7 a8 h88 ⊢
  obtain ⟨i, hi⟩ : ∃ i : Nat, -L + 348 = (i : Int) := ⟨(-L + 348).toNat, by omega⟩
  obtain ⟨lp, hlp⟩ : ∃ lp, -L * 108853 / 32768 = lp := ⟨_, rfl⟩
  rw [hlp] at a3 a4 a7 a8 h88
  obtain ⟨s, hs⟩ : ∃ s : Nat, -((k : Int) - 1085 + lp + 3) = (s : Int) := ⟨(-((k : Int) - 1085 + lp + 3)).toNat, by omega⟩
  obtain ⟨hi', lo, hr, b1, b2, b3⟩ := row_at i (by omega)
  have e7 := fun x (h : 4611686018427387904 ≤ x) => usc_seven x hi' lo s h b1 (by omega)
  have e9 := fun x (h : 9223372036854774784 ≤ x) => usc_great x hi' lo s h b1 (by omega)
  have e8 := fun x (h : x < 18446744073709551616) => usc_lt x hi' lo s h b2 (by omega)
  obtain ⟨d, q, hR, hres⟩ := res_of 100000000000000 (usc M hi' lo s) (usc (M - 1024) hi' lo s) (usc (M + 1024) hi' lo s) (M / 2048 % 2) L (Nat.mod_lt _ (by decide)) (e7 _ (by omega)) (e7 _ (by omega)) (e7 _ (by omega)) (e8 _ (by omega)) (e8 _ (by omega)) (e8 _ (by omega)) (Or.inr ⟨Nat.le_trans (by decide) (e9 _ (by omega)), Nat.le_trans (by decide) (e9 _ (by omega)), Nat.le_trans (by decide) (e9 _ (by omega))⟩)
  refine ⟨d, q, hres, fun w hT => ?_⟩
  have hc := hT i hi' lo hr
  by_cases h1000 : (k : Int) - 1085 ≤ 1000
  · refine (short_B M hi' lo i s ((k : Int) - 1085) L lp w h0 h1 (by omega) h1000 (by rw [hL]; congr 1; congr 1; omega) b1 b2 b3 a1 a2 a3 a4 hlp hi (by omega) hs (by omega) (by omega) hc.1 hc.2 hT.lt).mono ?_
    rintro r w' ⟨d', q', g1, g2, g3⟩
    obtain ⟨rfl, rfl⟩ := Prod.mk.inj (g2.trans hR.symm)
    exact ⟨g1, g3⟩
  · omega
theorem short_nA (k M : Nat) (hk : k < 2046) (hk1 : 1 ≤ k) (h0 : M = 9223372036854775808) :
    ∃ d q, Res 100000000000000 ((((k : Int) - 1074) * 631305 - 261663) / 2097152) d q ∧ ShortAt M ((k : Int) - 1085) d q := by
  have h88 := okE_all k hk
  unfold okE at h88
  simp only [Bool.and_eq_true, decide_eq_true_eq] at h88
  have h88 := h88.2
  have hok := okN_all k hk
  unfold okN okL at hok
  simp only [Bool.and_eq_true, decide_eq_true_eq] at hok
  obtain ⟨_, ⟨⟨⟨⟨⟨⟨a1, a2⟩, a3⟩, a4⟩, a5⟩, a6⟩, a7⟩, a8⟩ := hok
  obtain ⟨L, hL⟩ : ∃ L, L = (((k : Int) - 1074) * 631305 - 261663) / 2097152 := ⟨_, rfl⟩
  rw [← hL] at a1 a2 a3 a4 a5 a6 a7 a8 h88 ⊢
  obtain ⟨i, hi⟩ : ∃ i : Nat, -L + 348 = (i : Int) := ⟨(-L + 348).toNat, by omega⟩
  obtain ⟨lp, hlp⟩ : ∃ lp, -L * 108853 / 32768 = lp := ⟨_, rfl⟩
  rw [hlp] at a3 a4 a7 a8 h88
  obtain ⟨s, hs⟩ : ∃ s : Nat, -((k : Int) - 1085 + lp + 3) = (s : Int) := ⟨(-((k : Int) - 1085 + lp + 3)).toNat, by omega⟩
  obtain ⟨hi', lo, hr, b1, b2, b3⟩ := row_at i (by omega)
  have e7 := fun x (h : 4611686018427387904 ≤ x) => usc_seven x hi' lo s h b1 (by omega)
  have e9 := fun x (h : 9223372036854774784 ≤ x) => usc_great x hi' lo s h b1 (by omega)
  have e8 := fun x (h : x < 18446744073709551616) => usc_lt x hi' lo s h b2 (by omega)
  obtain ⟨d, q, hR, hres⟩ := res_of 100000000000000 (usc M hi' lo s) (usc (M - 512) hi' lo s) (usc (M + 1024) hi' lo s) (M / 2048 % 2) L (Nat.mod_lt _ (by decide)) (e7 _ (by omega)) (e7 _ (by omega)) (e7 _ (by omega)) (e8 _ (by omega)) (e8 _ (by omega)) (e8 _ (by omega)) (Or.inr ⟨Nat.le_trans (by decide) (e9 _ (by omega)), Nat.le_trans (by decide) (e9 _ (by omega)), Nat.le_trans (by decide) (e9 _ (by omega))⟩)
  refine ⟨d, q, hres, fun w hT => ?_⟩
  have hc := hT i hi' lo hr
  by_cases h1000 : (k : Int) - 1085 ≤ 1000
  · refine (short_A M hi' lo i s ((k : Int) - 1085) L lp w h0 (by omega) h1000 (by rw [hL]; congr 1; omega) b1 b2 b3 a1 a2 a3 a4 hlp hi (by omega) hs (by omega) (by omega) hc.1 hc.2 hT.lt).mono ?_
    rintro r w' ⟨d', q', g1, g2, g3⟩
    obtain ⟨rfl, rfl⟩ := Prod.mk.inj (g2.trans hR.symm)
    exact ⟨g1, g3⟩
  · omega
theorem short_nD (k M : Nat) (hk : k < 2046) (hk1 : k = 0) (h0 : M = 9223372036854775808) :
    ∃ d q, Res 100000000000000 (((k : Int) - 1074) * 78913 / 262144) d q ∧ ShortAt M ((k : Int) - 1085) d q := by
  have h88 := okE_all k hk
  unfold okE at h88
  simp only [Bool.and_eq_true, decide_eq_true_eq] at h88
  have h88 := h88.1
  have hok := okN_all k hk
  unfold okN okL at hok
  simp only [Bool.and_eq_true, decide_eq_true_eq] at hok
  obtain ⟨⟨⟨⟨⟨⟨⟨⟨a1, a2⟩, a3⟩, a4⟩, a5⟩, a6⟩, a7⟩, a8⟩, _⟩ := hok
  obtain ⟨L, hL⟩ : ∃ L, L = ((k : Int) - 1074) * 78913 / 262144 := ⟨_, rfl⟩
  rw [← hL] at a1 a2 a3 a4 a5 a6 a7 a8 h88 ⊢
  obtain ⟨i, hi⟩ : ∃ i : Nat, -L + 348 = (i : Int) := ⟨(-L + 348).toNat, by omega⟩
  obtain ⟨lp, hlp⟩ : ∃ lp, -L * 108853 / 32768 = lp := ⟨_, rfl⟩
  rw [hlp] at a3 a4 a7 a8 h88
  obtain ⟨s, hs⟩ : ∃ s : Nat, -((k : Int) - 1085 + lp + 3) = (s : Int) := ⟨(-((k : Int) - 1085 + lp + 3)).toNat, by omega⟩
  obtain ⟨hi', lo, hr, b1, b2, b3⟩ := row_at i (by omega)
  have e7 := fun x (h : 4611686018427387904 ≤ x) => usc_seven x hi' lo s h b1 (by omega)
  have e9 := fun x (h : 9223372036854774784 ≤ x) => usc_great x hi' lo s h b1 (by omega)
  have e8 := fun x (h : x < 18446744073709551616) => usc_lt x hi' lo s h b2 (by omega)
  obtain ⟨d, q, hR, hres⟩ := res_of 100000000000000 (usc M hi' lo s) (usc (M - 1024) hi' lo s) (usc (M + 1024) hi' lo s) (M / 2048 % 2) L (Nat.mod_lt _ (by decide)) (e7 _ (by omega)) (e7 _ (by omega)) (e7 _ (by omega)) (e8 _ (by omega)) (e8 _ (by omega)) (e8 _ (by omega)) (Or.inr ⟨Nat.le_trans (by decide) (e9 _ (by omega)), Nat.le_trans (by decide) (e9 _ (by omega)), Nat.le_trans (by decide) (e9 _ (by omega))⟩)
  refine ⟨d, q, hres, fun w hT => ?_⟩
  have hc := hT i hi' lo hr
  by_cases h1000 : (k : Int) - 1085 ≤ 1000
  · refine (short_D M hi' lo i s ((k : Int) - 1085) L lp w h0 (by omega) (by rw [hL]; congr 1; congr 1; omega) b1 b2 b3 a1 a2 a3 a4 hlp hi (by omega) hs (by omega) (by omega) hc.1 hc.2 hT.lt).mono ?_
    rintro r w' ⟨d', q', g1, g2, g3⟩
    obtain ⟨rfl, rfl⟩ := Prod.mk.inj (g2.trans hR.symm)
    exact ⟨g1, g3⟩
  · omega
theorem short_nC (z M : Nat) (hz : 12 ≤ z) (hz2 : z ≤ 63) (h0 : 9223372036854775808 ≤ M) (hMM : M < 18446744073709551616) (h1 : M + 2 ^ (z - 1) < 18446744073709551616) :
    ∃ d q, Res 1 (-1074 * 78913 / 262144) d q ∧ ShortAt M (-1074 - (z : Int)) d q := by
  have hz9 : 2 ^ (z - 1) ≤ 2 ^ 62 := Nat.pow_le_pow_right (by decide) (by omega)
  have hz8 : (2 : Nat) ^ 62 = 4611686018427387904 := rfl
  have m1 : 4611686018427387904 ≤ M - 2 ^ (z - 1) := Nat.le_sub_of_add_le (by omega)
  have m2 : M - 2 ^ (z - 1) < 18446744073709551616 := Nat.lt_of_le_of_lt (Nat.sub_le _ _) hMM
  have hok := okS_all z (by omega) (by omega)
  unfold okS okL at hok
  simp only [Bool.and_eq_true, decide_eq_true_eq] at hok
  obtain ⟨⟨⟨⟨⟨⟨⟨a1, a2⟩, a3⟩, a4⟩, a5⟩, a6⟩, a7⟩, a8⟩ := hok
  obtain ⟨L, hL⟩ : ∃ L, L = -1074 * 78913 / 262144 := ⟨_, rfl⟩
  rw [← hL] at a1 a2 a3 a4 a5 a6 a7 a8 ⊢
  obtain ⟨i, hi⟩ : ∃ i : Nat, -L + 348 = (i : Int) := ⟨(-L + 348).toNat, by omega⟩
  obtain ⟨lp, hlp⟩ : ∃ lp, -L * 108853 / 32768 = lp := ⟨_, rfl⟩
  rw [hlp] at a3 a4 a7 a8
  obtain ⟨s, hs⟩ : ∃ s : Nat, -(-1074 - (z : Int) + lp + 3) = (s : Int) := ⟨(-(-1074 - (z : Int) + lp + 3)).toNat, by omega⟩
  obtain ⟨hi', lo, hr, b1, b2, b3⟩ := row_at i (by omega)
  have e7 := fun x (h : 4611686018427387904 ≤ x) => usc_seven x hi' lo s h b1 (by omega)
  have e8 := fun x (h : x < 18446744073709551616) => usc_lt x hi' lo s h b2 (by omega)
  obtain ⟨d, q, hR, hres⟩ := res_of 1 (usc M hi' lo s) (usc (M - 2 ^ (z - 1)) hi' lo s) (usc (M + 2 ^ (z - 1)) hi' lo s) (M / 2 ^ z % 2) L (Nat.mod_lt _ (by decide)) (e7 _ (by omega)) (e7 _ m1) (e7 _ (Nat.le_trans (show 4611686018427387904 ≤ M by omega) (Nat.le_add_right _ _))) (e8 _ (by omega)) (e8 _ m2) (e8 _ h1) (Or.inl rfl)
  refine ⟨d, q, hres, fun w hT => ?_⟩
  have hc := hT i hi' lo hr
  by_cases h1000 : -1074 - (z : Int) ≤ 1000
  · refine (short_C M hi' lo i s z (-1074 - (z : Int)) L lp w h0 hMM h1 hz hz2 rfl (by rw [hL]; congr 1; congr 1; omega) b1 b2 b3 a1 a2 a3 a4 hlp hi (by omega) hs (by omega) (by omega) hc.1 hc.2 hT.lt).mono ?_
    rintro r w' ⟨d', q', g1, g2, g3⟩
    obtain ⟨rfl, rfl⟩ := Prod.mk.inj (g2.trans hR.symm)
    exact ⟨g1, g3⟩
  · omega
end Go.Proofs.YtkincdcknmdboaaDoor
