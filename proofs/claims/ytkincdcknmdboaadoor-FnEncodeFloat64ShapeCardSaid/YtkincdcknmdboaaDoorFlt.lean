/- Plain facts on IEEE doubles as the model's core reads and writes them: rounding is monotone, exact where the number is representable, and comparisons go by value. -/
import Ieee.Word
import Ieee.Arith
namespace Go.Proofs.YtkincdcknmdboaaDoor.Flt
open Ieee

/-! ### rounding to the nearest whole number, ties to even -/

def up (n d : Nat) : Prop := 2^d < 2 * (n % 2^d) ∨ (2^d = 2 * (n % 2^d) ∧ n / 2^d % 2 = 1)
instance (n d : Nat) : Decidable (up n d) := by unfold up; infer_instance
def rne (n d : Nat) : Nat := n / 2^d + (if up n d then 1 else 0)

theorem pow_pos' (k : Nat) : 0 < 2^k := Nat.two_pow_pos k

theorem cut_even (neg : Bool) (n d : Nat) : Toward.even.cut neg n d = rne n d := by
  have hL : n < 2^(n.log2 + 1) := Nat.lt_log2_self
  unfold Toward.cut rne
  simp only [Nat.one_shiftLeft]
  by_cases h : d ≤ n.log2 + 2
  · rw [Nat.min_eq_left h]
    by_cases hu : up n d
    · rw [if_pos hu]
      unfold up at hu
      have : (decide (2^d < 2 * (n % 2^d)) || 2^d == 2 * (n % 2^d) && n / 2^d % 2 == 1) = true := by
        simp only [Bool.or_eq_true, Bool.and_eq_true, decide_eq_true_eq, beq_iff_eq]; exact hu
      rw [this]; rfl
    · rw [if_neg hu]
      unfold up at hu
      have : (decide (2^d < 2 * (n % 2^d)) || 2^d == 2 * (n % 2^d) && n / 2^d % 2 == 1) = false := by
        rw [← Bool.not_eq_true]
        simp only [Bool.or_eq_true, Bool.and_eq_true, decide_eq_true_eq, beq_iff_eq]; exact hu
      rw [this]; rfl
  · have h' : n.log2 + 2 ≤ d := by omega
    rw [Nat.min_eq_right h']
    have e2 : 2^(n.log2 + 2) = 2 * 2^(n.log2 + 1) := by rw [Nat.pow_succ, Nat.mul_comm]
    have hd : 2^(n.log2 + 2) ≤ 2^d := Nat.pow_le_pow_right (by omega) h'
    have l1 : n / 2^(n.log2 + 2) = 0 := Nat.div_eq_of_lt (by omega)
    have l2 : n % 2^(n.log2 + 2) = n := Nat.mod_eq_of_lt (by omega)
    have l3 : n / 2^d = 0 := Nat.div_eq_of_lt (by omega)
    have l4 : n % 2^d = n := Nat.mod_eq_of_lt (by omega)
    have hu : ¬ up n d := by unfold up; rw [l3, l4]; omega
    rw [if_neg hu, l1, l2, l3]
    have : (decide (2^(n.log2 + 2) < 2 * n) || 2^(n.log2 + 2) == 2 * n && 0 % 2 == 1) = false := by
      rw [← Bool.not_eq_true]
      simp only [Bool.or_eq_true, Bool.and_eq_true, decide_eq_true_eq, beq_iff_eq]; omega
    rw [this]; rfl

theorem rne_zero (n : Nat) : rne n 0 = n := by
  unfold rne
  rw [if_neg]
  · simp
  · unfold up; simp [Nat.mod_one]

theorem rne_mono {n m : Nat} (d : Nat) (h : n ≤ m) : rne n d ≤ rne m d := by
  have hp := pow_pos' d
  have hq : n / 2^d ≤ m / 2^d := Nat.div_le_div_right h
  unfold rne
  by_cases e : n / 2^d = m / 2^d
  · rw [e]
    apply Nat.add_le_add_left
    by_cases hu : up n d
    · have hv : up m d := by
        have h1 := Nat.div_add_mod n (2^d)
        have h2 := Nat.div_add_mod m (2^d)
        rw [e] at h1
        unfold up at hu ⊢
        rw [e] at hu
        omega
      rw [if_pos hu, if_pos hv]; exact Nat.le_refl _
    · rw [if_neg hu]; exact Nat.zero_le _
  · split <;> split <;> omega

theorem rne_shift (n d k : Nat) : rne (n * 2^k) (d + k) = rne n d := by
  have hk := pow_pos' k
  have e1 : n * 2^k / 2^(d + k) = n / 2^d := by rw [Nat.pow_add, Nat.mul_div_mul_right _ _ hk]
  have e2 : n * 2^k % 2^(d + k) = n % 2^d * 2^k := by rw [Nat.pow_add, Nat.mul_mod_mul_right]
  have hu : up (n * 2^k) (d + k) ↔ up n d := by
    unfold up
    rw [e1, e2, Nat.pow_add, ← Nat.mul_assoc]
    constructor
    · rintro (h | ⟨h, h'⟩)
      · exact Or.inl (Nat.lt_of_mul_lt_mul_right h)
      · exact Or.inr ⟨Nat.eq_of_mul_eq_mul_right hk h, h'⟩
    · rintro (h | ⟨h, h'⟩)
      · exact Or.inl (Nat.mul_lt_mul_of_pos_right h hk)
      · exact Or.inr ⟨congrArg (fun z => z * 2^k) h, h'⟩
  unfold rne
  rw [e1]
  by_cases h : up n d
  · rw [if_pos h, if_pos (hu.2 h)]
  · rw [if_neg h, if_neg (fun g => h (hu.1 g))]

theorem rne_mul (n d : Nat) : rne (n * 2^d) d = n := by
  have := rne_shift n 0 d
  rw [Nat.zero_add, rne_zero] at this
  exact this

theorem rne_le {n m d : Nat} (h : n ≤ m * 2^d) : rne n d ≤ m := by
  have := rne_mono d h
  rw [rne_mul] at this; exact this

theorem le_rne {n m d : Nat} (h : m * 2^d ≤ n) : m ≤ rne n d := by
  have := rne_mono d h
  rw [rne_mul] at this; exact this

/-! ### the rung nearest to 'm * 2^p' -/

def last (m : Nat) (p : Int) : Int := max (p + m.log2 - 52) (-1074)
def rungd (m : Nat) (p : Int) : Nat :=
  if m = 0 then 0 else min ((last m p + 1074).toNat * 2^52 + rne (m * 2^(p - last m p).toNat) (last m p - p).toNat) (2047 * 2^52)

theorem nearest_eq (neg : Bool) (m : Nat) (p : Int) : double.nearest neg m p = double.word neg (rungd m p) := by
  have h1 : double.leastPlace = -1074 := by decide
  have h2 : double.binade = 2^52 := rfl
  have h3 : double.infRung = 2047 * 2^52 := by decide
  have h4 : (double.fractionBits : Int) = 52 := rfl
  unfold Format.nearest rungd
  by_cases hm : m = 0
  · rw [if_pos hm, if_pos hm]
  · rw [if_neg hm, if_neg hm]
    simp only [h1, h2, h3, h4, cut_even, Nat.shiftLeft_eq, last]
    rw [show ∀ x : Int, x - -1074 = x + 1074 from fun x => by omega]

theorem log2_shift {m : Nat} (hm : m ≠ 0) (k : Nat) : (m * 2^k).log2 = m.log2 + k := by
  induction k with
  | zero => simp
  | succ k ih =>
    have h0 : m * 2^k ≠ 0 := Nat.mul_ne_zero hm (Nat.ne_of_gt (pow_pos' k))
    rw [Nat.pow_succ, ← Nat.mul_assoc, Nat.mul_comm (m * 2^k) 2, Nat.log2_two_mul h0, ih]
    omega

theorem rungd_shift (m k : Nat) (p : Int) : rungd (m * 2^k) p = rungd m (p + k) := by
  unfold rungd
  by_cases hm : m = 0
  · subst hm; simp
  · have h0 : m * 2^k ≠ 0 := Nat.mul_ne_zero hm (Nat.ne_of_gt (pow_pos' k))
    rw [if_neg hm, if_neg h0]
    have hl : last (m * 2^k) p = last m (p + k) := by unfold last; rw [log2_shift hm]; congr 1; omega
    rw [hl]
    generalize last m (p + k) = e
    have hr : rne (m * 2^k * 2^(p - e).toNat) (e - p).toNat = rne (m * 2^(p + k - e).toNat) (e - (p + k)).toNat := by
      by_cases c1 : e ≤ p
      · have a1 : (e - p).toNat = 0 := by omega
        have a2 : (e - (p + k)).toNat = 0 := by omega
        have a3 : (p + k - e).toNat = k + (p - e).toNat := by omega
        rw [a1, a2, rne_zero, rne_zero, a3, Nat.pow_add, Nat.mul_assoc]
      · have a1 : (p - e).toNat = 0 := by omega
        by_cases c2 : e ≤ p + k
        · have a2 : (e - (p + k)).toNat = 0 := by omega
          have a3 : k = (p + k - e).toNat + (e - p).toNat := by omega
          rw [a1, a2, rne_zero, Nat.pow_zero, Nat.mul_one]
          have a4 : m * 2^k = m * 2^(p + k - e).toNat * 2^(e - p).toNat := by rw [Nat.mul_assoc, ← Nat.pow_add, ← a3]
          rw [a4, rne_mul]
        · have a2 : (p + k - e).toNat = 0 := by omega
          have a3 : (e - p).toNat = (e - (p + k)).toNat + k := by omega
          rw [a1, a2, Nat.pow_zero, Nat.mul_one, Nat.mul_one, a3, rne_shift]
    rw [hr]

theorem log2_mono {m m' : Nat} (hm : m ≠ 0) (h : m ≤ m') : m.log2 ≤ m'.log2 := by
  have hm' : m' ≠ 0 := by omega
  exact (Nat.le_log2 hm').2 (Nat.le_trans (Nat.log2_self_le hm) h)

theorem rung_step {A B q q' X : Nat} (hA : A ≤ 2^53) (hB : 2^52 ≤ B) (hq : q + 1 ≤ q') : min (q * 2^52 + A) X ≤ min (q' * 2^52 + B) X := by
  omega

theorem rungd_mono {m m' : Nat} (p : Int) (h : m ≤ m') : rungd m p ≤ rungd m' p := by
  unfold rungd
  by_cases hm : m = 0
  · rw [if_pos hm]; exact Nat.zero_le _
  have hm' : m' ≠ 0 := by omega
  rw [if_neg hm, if_neg hm']
  have hl := log2_mono hm h
  by_cases c : last m p = last m' p
  · rw [c]
    have : rne (m * 2^(p - last m' p).toNat) (last m' p - p).toNat ≤ rne (m' * 2^(p - last m' p).toNat) (last m' p - p).toNat :=
      rne_mono _ (Nat.mul_le_mul_right _ h)
    omega
  · have e1 : p + m.log2 - 52 ≤ last m p := by unfold last; omega
    have e2 : last m' p = p + m'.log2 - 52 := by unfold last at c ⊢; omega
    have e3 : last m p < last m' p := by unfold last at c ⊢; omega
    have e4 : -1074 ≤ last m p := by unfold last; omega
    generalize last m p = e at *
    generalize last m' p = e' at *
    have g1 : rne (m * 2^(p - e).toNat) (e - p).toNat ≤ 2^53 := by
      apply rne_le
      have h1 : m ≤ 2^(m.log2 + 1) := Nat.le_of_lt Nat.lt_log2_self
      have h2 : m * 2^(p - e).toNat ≤ 2^(m.log2 + 1) * 2^(p - e).toNat := Nat.mul_le_mul_right _ h1
      refine Nat.le_trans h2 ?_
      rw [← Nat.pow_add, ← Nat.pow_add]
      exact Nat.pow_le_pow_right (by omega) (by omega)
    have g2 : 2^52 ≤ rne (m' * 2^(p - e').toNat) (e' - p).toNat := by
      apply le_rne
      have h1 : 2^m'.log2 ≤ m' := Nat.log2_self_le hm'
      have h2 : 2^m'.log2 * 2^(p - e').toNat ≤ m' * 2^(p - e').toNat := Nat.mul_le_mul_right _ h1
      refine Nat.le_trans ?_ h2
      rw [← Nat.pow_add, ← Nat.pow_add]
      exact Nat.pow_le_pow_right (by omega) (by omega)
    have g3 : (e + 1074).toNat + 1 ≤ (e' + 1074).toNat := by omega
    exact rung_step g1 g2 g3

/-! ### what a rung stands for, in units of 2^-1074 -/

/-- 2^1074: a unit of one, and 2^2098: beyond all finite numbers (kept closed: no tactic shall write them out) -/
def pw (k : Nat) : Nat := 2^k
def Uno : Nat := pw 1074
def Top : Nat := pw 2098
theorem one_eq (a : Nat) (h : a = 1074) : Uno = 2^a := by unfold Uno; rw [← h]; rfl
theorem top_eq (a : Nat) (h : a = 2098) : Top = 2^a := by unfold Top; rw [← h]; rfl
theorem one_pos : 0 < Uno := by
  obtain ⟨b, hb⟩ : ∃ b : Nat, b = 1074 := ⟨_, rfl⟩
  rw [one_eq b hb]; exact pow_pos' b
theorem top_pos : 0 < Top := by
  obtain ⟨b, hb⟩ : ∃ b : Nat, b = 2098 := ⟨_, rfl⟩
  rw [top_eq b hb]; exact pow_pos' b
theorem lt_top {k : Nat} : 2^k < Top ↔ k < 2098 := by
  obtain ⟨b, hb⟩ : ∃ b : Nat, b = 2098 := ⟨_, rfl⟩
  rw [top_eq b hb, ← hb]; exact Nat.pow_lt_pow_iff_right (by omega)
attribute [irreducible] Uno Top

def vr (r : Nat) : Nat := if r < 2^52 then r else (2^52 + r % 2^52) * 2^(r / 2^52 - 1)

theorem vr_of {q kept : Nat} (h : kept < 2^53) (h' : q = 0 ∨ 2^52 ≤ kept) : vr (q * 2^52 + kept) = kept * 2^q := by
  unfold vr
  by_cases c : q * 2^52 + kept < 2^52
  · have : q = 0 := by omega
    subst this; rw [if_pos c]; omega
  · rw [if_neg c]
    have hk : 2^52 ≤ kept := by omega
    have h1 : (q * 2^52 + kept) / 2^52 = q + 1 := by omega
    have h2 : (q * 2^52 + kept) % 2^52 = kept - 2^52 := by omega
    rw [h1, h2, Nat.add_sub_cancel, show 2^52 + (kept - 2^52) = kept by omega]

/-- every rung is made so -/
theorem split_rung (r : Nat) : ∃ q kept, r = q * 2^52 + kept ∧ kept < 2^53 ∧ (q = 0 ∨ 2^52 ≤ kept) := by
  refine ⟨r / 2^52 - 1, r - (r / 2^52 - 1) * 2^52, ?_, ?_, ?_⟩ <;> omega

theorem vr_lt {r r' : Nat} (h : r < r') : vr r < vr r' := by
  obtain ⟨q, k, rfl, hk, hq⟩ := split_rung r
  obtain ⟨q', k', rfl, hk', hq'⟩ := split_rung r'
  rw [vr_of hk hq, vr_of hk' hq']
  by_cases c : q = q'
  · subst c
    exact Nat.mul_lt_mul_of_pos_right (by omega) (pow_pos' q)
  · have hlt : q < q' := by omega
    have h1 : k * 2^q < 2^53 * 2^q := Nat.mul_lt_mul_of_pos_right hk (pow_pos' q)
    have h2 : 2^53 * 2^q = 2^52 * 2^(q + 1) := by rw [Nat.pow_succ 2 q, ← Nat.mul_assoc, Nat.mul_right_comm]
    have h3 : 2^52 * 2^(q + 1) ≤ 2^52 * 2^q' := Nat.mul_le_mul_left _ (Nat.pow_le_pow_right (by omega) (by omega))
    have h4 : 2^52 * 2^q' ≤ k' * 2^q' := Nat.mul_le_mul_right _ (by omega)
    omega

theorem vr_le {r r' : Nat} : vr r ≤ vr r' ↔ r ≤ r' := by
  constructor
  · intro h
    by_cases c : r ≤ r'
    · exact c
    · have := vr_lt (show r' < r by omega); omega
  · intro h
    by_cases c : r = r'
    · subst c; exact Nat.le_refl _
    · exact Nat.le_of_lt (vr_lt (by omega))

theorem vr_inj {r r' : Nat} (h : vr r = vr r') : r = r' := by
  have h1 := vr_le.1 (Nat.le_of_eq h)
  have h2 := vr_le.1 (Nat.le_of_eq h.symm)
  omega

theorem vr_zero : vr 0 = 0 := by unfold vr; rw [if_pos (by omega)]

theorem vr_inf : vr (2047 * 2^52) = Top := by
  have key : ∀ q : Nat, 52 + q = 2098 → vr (q * 2^52 + 2^52) = Top := fun q hq => by
    rw [vr_of (by omega) (Or.inr (Nat.le_refl _)), top_eq _ hq, Nat.pow_add]
  have := key 2046 rfl
  rw [show 2046 * 2^52 + 2^52 = 2047 * 2^52 by omega] at this
  exact this
attribute [irreducible] vr

/-- EXACT: a number of at most 53 digits, not too small and not too great, is written as it is. -/
theorem rungd_exact {m : Nat} {p : Int} {a : Nat} (hm : m < 2^53) (hp : p + 1074 = a) (hbig : m * 2^a < Top) :
    vr (rungd m p) = m * 2^a ∧ rungd m p < 2047 * 2^52 := by
  unfold rungd
  by_cases h0 : m = 0
  · subst h0; rw [if_pos rfl, vr_zero]; omega
  rw [if_neg h0]
  have hl : m.log2 ≤ 52 := by
    have := (Nat.log2_lt h0).2 hm; omega
  have e1 : -1074 ≤ last m p := by unfold last; omega
  have e2 : last m p ≤ p := by unfold last; omega
  have e3 : last m p = -1074 ∨ last m p = p + m.log2 - 52 := by unfold last; omega
  have e4 : p + m.log2 - 52 ≤ last m p := by unfold last; omega
  generalize last m p = e at *
  obtain ⟨q, hq⟩ : ∃ q : Nat, e + 1074 = q := ⟨(e + 1074).toNat, by omega⟩
  obtain ⟨s, hs⟩ : ∃ s : Nat, p - e = s := ⟨(p - e).toNat, by omega⟩
  have t1 : (e + 1074).toNat = q := by omega
  have t2 : (p - e).toNat = s := by omega
  have t3 : (e - p).toNat = 0 := by omega
  rw [t1, t2, t3, rne_zero]
  have hu : m * 2^s < 2^53 := by
    have h1 : m < 2^(m.log2 + 1) := Nat.lt_log2_self
    have h2 : m * 2^s < 2^(m.log2 + 1) * 2^s := Nat.mul_lt_mul_of_pos_right h1 (pow_pos' s)
    rw [← Nat.pow_add] at h2
    exact Nat.lt_of_lt_of_le h2 (Nat.pow_le_pow_right (by omega) (by omega))
  have hlo : q = 0 ∨ 2^52 ≤ m * 2^s := by
    rcases e3 with c | c
    · left; omega
    · right
      have h1 : 2^m.log2 ≤ m := Nat.log2_self_le h0
      have h2 : 2^m.log2 * 2^s ≤ m * 2^s := Nat.mul_le_mul_right _ h1
      rw [← Nat.pow_add] at h2
      have : 52 = m.log2 + s := by omega
      rw [this]; exact h2
  have hv : m * 2^s * 2^q = m * 2^a := by
    rw [Nat.mul_assoc, ← Nat.pow_add]; congr 2; omega
  have hq2 : q ≤ 2045 := by
    rcases hlo with c | c
    · omega
    · have h3 : 2^52 * 2^q ≤ m * 2^s * 2^q := Nat.mul_le_mul_right _ c
      rw [hv, ← Nat.pow_add] at h3
      have := lt_top.1 (Nat.lt_of_le_of_lt h3 hbig)
      omega
  have hr : q * 2^52 + m * 2^s < 2047 * 2^52 := by omega
  rw [Nat.min_eq_left (Nat.le_of_lt hr)]
  exact ⟨by rw [vr_of hu hlo, hv], hr⟩

/-- the rung of a rung's own value -/
theorem rungd_vr {r : Nat} (h : r < 2047 * 2^52) : rungd (vr r) (-1074) = r := by
  have hb : vr r < Top := by rw [← vr_inf]; exact vr_lt h
  obtain ⟨q, k, rfl, hk, hq⟩ := split_rung r
  rw [vr_of hk hq] at hb ⊢
  rw [rungd_shift]
  have := rungd_exact (m := k) (p := -1074 + (q : Int)) (a := q) hk (by omega) hb
  apply vr_inj
  rw [this.1, vr_of hk hq]

theorem rungd_le_inf (m : Nat) (p : Int) : rungd m p ≤ 2047 * 2^52 := by
  unfold rungd; split
  · omega
  · exact Nat.min_le_right _ _

/-- values in units of 2^-1074 are rounded monotonely: not below a rung that they are not below .. -/
theorem le_rungd {m r : Nat} (hr : r < 2047 * 2^52) (h : vr r ≤ m) : r ≤ rungd m (-1074) := by
  have := rungd_mono (-1074) h
  rw [rungd_vr hr] at this; exact this

/-- .. and not above one that they are not above. -/
theorem rungd_le {m r : Nat} (hr : r < 2047 * 2^52) (h : m ≤ vr r) : rungd m (-1074) ≤ r := by
  have := rungd_mono (-1074) h
  rw [rungd_vr hr] at this; exact this

/-! ### words -/

def mg (w : Nat) : Nat := w % 2^63
def sg (w : Nat) : Bool := w / 2^63 % 2 == 1
/-- the value of a word that is no NaN, in units of 2^-1074; an infinity: beyond all finite ones -/
def V (w : Nat) : Int := if sg w then -(vr (mg w) : Int) else vr (mg w)

theorem mg_word (s : Bool) {r : Nat} (h : r < 2^63) : mg (double.word s r) = r := by
  have hs : double.signWeight = 2^63 := rfl
  unfold mg Format.word
  rw [hs]; cases s <;> simp <;> omega

theorem sg_word (s : Bool) {r : Nat} (h : r < 2^63) : sg (double.word s r) = s := by
  have hs : double.signWeight = 2^63 := rfl
  unfold sg Format.word
  rw [hs]; cases s
  · simp only [Bool.false_eq_true, if_false]
    rw [Nat.div_eq_of_lt h]; rfl
  · simp only [if_true]
    rw [show (2^63 + r) / 2^63 = 1 by omega]; rfl

theorem V_word (s : Bool) {r : Nat} (h : r < 2^63) : V (double.word s r) = if s then -(vr r : Int) else vr r := by
  unfold V; rw [mg_word s h, sg_word s h]

theorem read_fin {w : Nat} (h : mg w < 2047 * 2^52) :
    ∃ m q : Nat, double.read w = .number (sg w) m ((q : Int) - 1074) ∧ m * 2^q = vr (mg w) ∧ m < 2^53 ∧ (q = 0 ∨ 2^52 ≤ m) := by
  have hs : double.signWeight = 2^63 := rfl
  have h1 : double.leastPlace = -1074 := by decide
  have h2 : double.binade = 2^52 := rfl
  have h3 : double.infRung = 2047 * 2^52 := by decide
  unfold mg at h
  unfold Format.read
  simp only [hs, h1, h2, h3]
  by_cases c : w % 2^63 < 2^52
  · rw [if_pos c]
    refine ⟨w % 2^63, 0, rfl, ?_, by omega, Or.inl rfl⟩
    unfold vr mg; rw [if_pos c]; simp
  · rw [if_neg c, if_pos h]
    refine ⟨2^52 + w % 2^63 % 2^52, w % 2^63 / 2^52 - 1, ?_, ?_, by omega, Or.inr (by omega)⟩
    · show Datum.number _ _ _ = Datum.number _ _ _
      congr 1
    · unfold vr mg; rw [if_neg c]

theorem read_inf {w : Nat} (h : mg w = 2047 * 2^52) : double.read w = .infinity (sg w) := by
  have hs : double.signWeight = 2^63 := rfl
  have h2 : double.binade = 2^52 := rfl
  have h3 : double.infRung = 2047 * 2^52 := by decide
  unfold mg at h
  unfold Format.read
  simp only [hs, h2, h3, h]
  rfl

theorem read_nan {w : Nat} (h : 2047 * 2^52 < mg w) : double.read w = .nan (sg w) (mg w - 2047 * 2^52) := by
  have hs : double.signWeight = 2^63 := rfl
  have h2 : double.binade = 2^52 := rfl
  have h3 : double.infRung = 2047 * 2^52 := by decide
  unfold mg at h
  unfold Format.read
  simp only [hs, h2, h3]
  rw [if_neg (by omega), if_neg (by omega), if_neg (by omega)]
  rfl

def nan (w : Nat) : Prop := 2047 * 2^52 < mg w
instance (w : Nat) : Decidable (nan w) := by unfold nan; infer_instance
def fin (w : Nat) : Prop := mg w < 2047 * 2^52
instance (w : Nat) : Decidable (fin w) := by unfold fin; infer_instance

theorem signed_eq (s : Bool) (m k : Nat) : signed s m k = if s then -((m * 2^k : Nat) : Int) else ((m * 2^k : Nat) : Int) := by
  unfold signed; rw [Nat.shiftLeft_eq]

theorem compare_mul (a b : Int) {c : Int} (hc : 0 < c) : compare (a * c) (b * c) = compare a b := by
  rcases Int.lt_trichotomy a b with h | h | h
  · rw [Int.compare_eq_lt.2 h, Int.compare_eq_lt.2 (Int.mul_lt_mul_of_pos_right h hc)]
  · subst h; rw [Int.compare_eq_eq.2 rfl, Int.compare_eq_eq.2 rfl]
  · rw [Int.compare_eq_gt.2 h, Int.compare_eq_gt.2 (Int.mul_lt_mul_of_pos_right h hc)]

theorem signed_pow (s : Bool) (m k j : Nat) : signed s m k * ((2^j : Nat) : Int) = signed s m (k + j) := by
  rw [signed_eq, signed_eq, Nat.pow_add, ← Nat.mul_assoc]
  cases s <;> simp [Int.neg_mul]

theorem order_eq {x y : Nat} (hx : ¬ nan x) (hy : ¬ nan y) : double.order x y = some (compare (V x) (V y)) := by
  have vinf : (vr (2047 * 2^52) : Nat) = Top := vr_inf
  have tp := top_pos
  have bound : ∀ w, fin w → vr (mg w) < Top := fun w hw => by rw [← vr_inf]; exact vr_lt hw
  unfold nan at hx hy
  unfold Format.order
  rcases Nat.lt_or_eq_of_le (Nat.le_of_not_lt hx) with fx | fx <;> rcases Nat.lt_or_eq_of_le (Nat.le_of_not_lt hy) with fy | fy
  · obtain ⟨m, q, hr, hv, _, _⟩ := read_fin fx
    obtain ⟨n, p, hr', hv', _, _⟩ := read_fin fy
    rw [hr, hr']
    simp only [Datum.order]
    congr 1
    have a : V x = signed (sg x) m q := by unfold V; rw [signed_eq, hv]
    have b : V y = signed (sg y) n p := by unfold V; rw [signed_eq, hv']
    by_cases c : q ≤ p
    · have e1 : ((q : Int) - 1074 - min ((q : Int) - 1074) ((p : Int) - 1074)).toNat = 0 := by omega
      have e2 : ((p : Int) - 1074 - min ((q : Int) - 1074) ((p : Int) - 1074)).toNat = p - q := by omega
      rw [e1, e2, a, b, ← compare_mul (signed (sg x) m 0) _ (c := ((2^q : Nat) : Int)) (by have := pow_pos' q; omega), signed_pow, signed_pow]
      rw [Nat.zero_add, Nat.sub_add_cancel c]
    · have c' : p ≤ q := by omega
      have e1 : ((q : Int) - 1074 - min ((q : Int) - 1074) ((p : Int) - 1074)).toNat = q - p := by omega
      have e2 : ((p : Int) - 1074 - min ((q : Int) - 1074) ((p : Int) - 1074)).toNat = 0 := by omega
      rw [e1, e2, a, b, ← compare_mul (signed (sg x) m (q - p)) _ (c := ((2^p : Nat) : Int)) (by have := pow_pos' p; omega), signed_pow, signed_pow]
      rw [Nat.zero_add, Nat.sub_add_cancel c']
  · obtain ⟨m, q, hr, hv, _, _⟩ := read_fin fx
    rw [hr, read_inf fy]
    simp only [Datum.order]
    congr 1
    have hb := bound x fx
    unfold V; rw [fy, vinf]
    cases sg y
    · symm; simp only [Bool.false_eq_true, if_false]; apply Int.compare_eq_lt.2; split <;> omega
    · symm; simp only [if_true]; apply Int.compare_eq_gt.2; split <;> omega
  · obtain ⟨m, q, hr, hv, _, _⟩ := read_fin fy
    rw [hr, read_inf fx]
    simp only [Datum.order]
    congr 1
    have hb := bound y fy
    unfold V; rw [fx, vinf]
    cases sg x
    · symm; simp only [Bool.false_eq_true, if_false]; apply Int.compare_eq_gt.2; split <;> omega
    · symm; simp only [if_true]; apply Int.compare_eq_lt.2; split <;> omega
  · rw [read_inf fx, read_inf fy]
    simp only [Datum.order]
    congr 1
    unfold V; rw [fx, fy, vinf]
    cases sg x <;> cases sg y <;> simp only [Bool.false_eq_true, if_false, if_true, Bool.toNat]
    · symm; rw [Int.compare_eq_eq.2 rfl]; rfl
    · symm; rw [Int.compare_eq_gt.2 (by omega)]; rfl
    · symm; rw [Int.compare_eq_lt.2 (by omega)]; rfl
    · symm; rw [Int.compare_eq_eq.2 rfl]; rfl

theorem order_nan {x y : Nat} (h : nan x ∨ nan y) : double.order x y = none := by
  unfold Format.order
  rcases h with h | h
  · rw [read_nan h]; rfl
  · rw [read_nan h]; cases double.read x <;> rfl

theorem lt_eq {x y : Nat} (hx : ¬ nan x) (hy : ¬ nan y) : (double.order x y == some .lt) = decide (V x < V y) := by
  rw [order_eq hx hy]
  rcases Int.lt_trichotomy (V x) (V y) with h | h | h
  · rw [Int.compare_eq_lt.2 h, decide_eq_true h]; rfl
  · rw [Int.compare_eq_eq.2 h, decide_eq_false (by omega)]; rfl
  · rw [Int.compare_eq_gt.2 h, decide_eq_false (by omega)]; rfl
theorem eq_eq {x y : Nat} (hx : ¬ nan x) (hy : ¬ nan y) : (double.order x y == some .eq) = decide (V x = V y) := by
  rw [order_eq hx hy]
  rcases Int.lt_trichotomy (V x) (V y) with h | h | h
  · rw [Int.compare_eq_lt.2 h, decide_eq_false (by omega)]; rfl
  · rw [Int.compare_eq_eq.2 h, decide_eq_true h]; rfl
  · rw [Int.compare_eq_gt.2 h, decide_eq_false (by omega)]; rfl
theorem gt_eq {x y : Nat} (hx : ¬ nan x) (hy : ¬ nan y) : (double.order x y == some .gt) = decide (V y < V x) := by
  rw [order_eq hx hy]
  rcases Int.lt_trichotomy (V x) (V y) with h | h | h
  · rw [Int.compare_eq_lt.2 h, decide_eq_false (by omega)]; rfl
  · rw [Int.compare_eq_eq.2 h, decide_eq_false (by omega)]; rfl
  · rw [Int.compare_eq_gt.2 h, decide_eq_true h]; rfl

theorem not_nan_of_fin {w : Nat} (h : fin w) : ¬ nan w := by unfold fin at h; unfold nan; omega

/-! ### the arithmetic of finite words -/

theorem fin_lt {w : Nat} (h : fin w) : vr (mg w) < Top := by rw [← vr_inf]; exact vr_lt h

theorem abs_V (w : Nat) : (V w).natAbs = vr (mg w) := by unfold V; split <;> omega

theorem read_V {w : Nat} (h : fin w) : ∃ m q : Nat, double.read w = .number (sg w) m ((q : Int) - 1074) ∧ V w = signed (sg w) m q ∧ m * 2^q = vr (mg w) ∧ m < 2^53 ∧ (q = 0 ∨ 2^52 ≤ m) := by
  obtain ⟨m, q, hr, hv, h3, h4⟩ := read_fin h
  exact ⟨m, q, hr, by unfold V; rw [signed_eq, hv], hv, h3, h4⟩

theorem add_fin {x y : Nat} (hx : fin x) (hy : fin y) :
    double.add x y = some (double.word (if V x + V y = 0 then sg x && sg y else decide (V x + V y < 0)) (rungd (V x + V y).natAbs (-1074))) := by
  obtain ⟨m, q, hr, a, _, _⟩ := read_V hx
  obtain ⟨n, p, hr', b, _, _⟩ := read_V hy
  unfold Format.add
  rw [hr, hr']
  simp only [Datum.sum, Option.map_some, Format.write, nearest_eq]
  have key : ∀ (u v k : Nat) (T : Int), q = u + k → p = v + k → T = signed (sg x) m u + signed (sg y) n v →
      double.word (if T = 0 then sg x && sg y else decide (T < 0)) (rungd T.natAbs ((k : Int) - 1074))
        = double.word (if V x + V y = 0 then sg x && sg y else decide (V x + V y < 0)) (rungd (V x + V y).natAbs (-1074)) := by
    intro u v k T h1 h2 hT
    have hk := pow_pos' k
    have e : V x + V y = T * ((2^k : Nat) : Int) := by
      rw [hT, Int.add_mul, signed_pow, signed_pow, ← h1, ← h2, a, b]
    have e0 : (V x + V y = 0) ↔ T = 0 := by
      rw [e]; constructor
      · intro h; rcases Int.mul_eq_zero.1 h with h | h
        · exact h
        · omega
      · intro h; rw [h, Int.zero_mul]
    have e1 : (V x + V y < 0) ↔ T < 0 := by
      rw [e]; constructor
      · intro h; rcases Int.lt_or_le T 0 with c | c
        · exact c
        · have := Int.mul_nonneg c (show (0 : Int) ≤ ((2^k : Nat) : Int) by omega); omega
      · intro h; exact Int.mul_neg_of_neg_of_pos h (by omega)
    have e2 : (V x + V y).natAbs = T.natAbs * 2^k := by rw [e, Int.natAbs_mul]; rfl
    rw [e2, rungd_shift, show (-1074 : Int) + (k : Int) = (k : Int) - 1074 by omega]
    congr 1
    by_cases c : T = 0
    · rw [if_pos c, if_pos (e0.2 c)]
    · rw [if_neg c, if_neg (fun h => c (e0.1 h))]
      exact decide_eq_decide.2 e1.symm
  by_cases c : q ≤ p
  · have e1 : ((q : Int) - 1074 - min ((q : Int) - 1074) ((p : Int) - 1074)).toNat = 0 := by omega
    have e2 : ((p : Int) - 1074 - min ((q : Int) - 1074) ((p : Int) - 1074)).toNat = p - q := by omega
    have e3 : min ((q : Int) - 1074) ((p : Int) - 1074) = (q : Int) - 1074 := by omega
    rw [e1, e2, e3]
    exact congrArg some (key 0 (p - q) q _ (by omega) (by omega) rfl)
  · have e1 : ((q : Int) - 1074 - min ((q : Int) - 1074) ((p : Int) - 1074)).toNat = q - p := by omega
    have e2 : ((p : Int) - 1074 - min ((q : Int) - 1074) ((p : Int) - 1074)).toNat = 0 := by omega
    have e3 : min ((q : Int) - 1074) ((p : Int) - 1074) = (p : Int) - 1074 := by omega
    rw [e1, e2, e3]
    exact congrArg some (key (q - p) 0 p _ (by omega) (by omega) rfl)

theorem mul_fin {x y : Nat} (hx : fin x) (hy : fin y) :
    double.mul x y = some (double.word (sg x ^^ sg y) (rungd (vr (mg x) * vr (mg y)) (-2148))) := by
  obtain ⟨m, q, hr, _, a, _⟩ := read_V hx
  obtain ⟨n, p, hr', _, b, _⟩ := read_V hy
  unfold Format.mul
  rw [hr, hr']
  simp only [Datum.product, Option.map_some, Format.write, nearest_eq]
  have e : vr (mg x) * vr (mg y) = m * n * 2^(q + p) := by
    rw [← a, ← b, Nat.pow_add, Nat.mul_mul_mul_comm]
  rw [e, rungd_shift]
  congr 3; omega

/-- the words of whole numbers -/
def ofInt (n : Int) : Nat := double.nearest (n < 0) n.natAbs 0

theorem ofInt_eq (n : Int) : ofInt n = double.word (decide (n < 0)) (rungd n.natAbs 0) := nearest_eq _ _ _

theorem rung_lt63 (m : Nat) (p : Int) : rungd m p < 2^63 := by have := rungd_le_inf m p; omega

theorem rungd_int {m : Nat} (h : m ≤ 2^53) : vr (rungd m 0) = m * Uno ∧ rungd m 0 < 2047 * 2^52 := by
  have hOne : ∀ a : Nat, a = 1074 → (2:Nat)^a = Uno := fun a ha => (one_eq a ha).symm
  obtain ⟨a, ha⟩ : ∃ a : Nat, a = 1074 := ⟨_, rfl⟩
  obtain ⟨b, hb⟩ : ∃ b : Nat, b = 53 := ⟨_, rfl⟩
  by_cases c : m = 2^b
  · have h1 : rungd m 0 = rungd 1 (0 + (b : Int)) := by rw [← rungd_shift, c, Nat.one_mul]
    have h2 := rungd_exact (m := 1) (p := 0 + (b : Int)) (a := a + b) (by omega) (by omega) (by rw [Nat.one_mul]; exact lt_top.2 (by omega))
    rw [h1, c]
    refine ⟨?_, h2.2⟩
    rw [h2.1, Nat.one_mul, Nat.pow_add, hOne a ha, Nat.mul_comm]
  · have hm : m < 2^53 := by subst hb; omega
    have hlt : m * 2^a < Top := by
      have := Nat.mul_lt_mul_of_pos_right hm (pow_pos' a)
      rw [← Nat.pow_add] at this
      exact Nat.lt_trans this (lt_top.2 (by omega))
    have h2 := rungd_exact (p := 0) (a := a) hm (by omega) hlt
    rw [hOne a ha] at h2
    exact h2

theorem ofInt_fin {n : Int} (h : n.natAbs ≤ 2^53) : fin (ofInt n) ∧ V (ofInt n) = n * (Uno : Int) ∧ sg (ofInt n) = decide (n < 0) := by
  have hr := rungd_int h
  rw [ofInt_eq]
  refine ⟨by unfold fin; rw [mg_word _ (rung_lt63 _ _)]; exact hr.2, ?_, sg_word _ (rung_lt63 _ _)⟩
  rw [V_word _ (rung_lt63 _ _), hr.1, Int.natCast_mul]
  by_cases c : n < 0
  · rw [if_pos (by simpa using c), ← Int.neg_mul]; congr 1; omega
  · rw [if_neg (by simpa using c)]; congr 1; omega

/-! ### results by their values -/

/-- the nearest value, in units of 2^-1074 -/
def rnd (T : Int) : Int := if T < 0 then -(vr (rungd T.natAbs (-1074)) : Int) else vr (rungd T.natAbs (-1074))

theorem rnd_mono {a b : Int} (h : a ≤ b) : rnd a ≤ rnd b := by
  unfold rnd
  by_cases ha : a < 0
  · rw [if_pos ha]
    by_cases hb : b < 0
    · rw [if_pos hb]
      have h1 : b.natAbs ≤ a.natAbs := by omega
      have := vr_le.2 (rungd_mono (-1074) h1)
      omega
    · rw [if_neg hb]; omega
  · rw [if_neg ha, if_neg (show ¬ b < 0 by omega)]
    have h1 : a.natAbs ≤ b.natAbs := by omega
    have := vr_le.2 (rungd_mono (-1074) h1)
    omega

theorem rnd_V {w : Nat} (h : fin w) : rnd (V w) = V w := by
  unfold rnd
  rw [abs_V, rungd_vr h]
  have := abs_V w
  split <;> omega

theorem rnd_int {n : Int} (h : n.natAbs ≤ 2^53) : rnd (n * (Uno : Int)) = n * (Uno : Int) := by
  have h1 := ofInt_fin h
  rw [← h1.2.1]; exact rnd_V h1.1

theorem word_rungd (s : Bool) (m : Nat) (p : Int) : ¬ nan (double.word s (rungd m p)) := by
  unfold nan; rw [mg_word _ (rung_lt63 _ _)]; have := rungd_le_inf m p; omega

theorem add_V {x y : Nat} (hx : fin x) (hy : fin y) : ∃ r, double.add x y = some r ∧ ¬ nan r ∧ V r = rnd (V x + V y) := by
  refine ⟨_, add_fin hx hy, word_rungd _ _ _, ?_⟩
  rw [V_word _ (rung_lt63 _ _)]
  unfold rnd
  by_cases c : V x + V y = 0
  · have e : rungd (V x + V y).natAbs (-1074) = 0 := by rw [c]; unfold rungd; rw [if_pos (by rfl)]
    rw [e, vr_zero]; simp
  · rw [if_neg c]
    by_cases d : V x + V y < 0
    · rw [if_pos (by simpa using d), if_pos d]
    · rw [if_neg (by simpa using d), if_neg d]

theorem fin_of_V {w : Nat} (h : (V w).natAbs < Top) : fin w := by
  rw [abs_V, ← vr_inf] at h
  unfold fin
  by_cases c : mg w < 2047 * 2^52
  · exact c
  · have := vr_le.2 (Nat.le_of_not_lt c); omega

theorem div_exact {x y c k Q : Nat} (hx : fin x) (hy : fin y) (hc : c < 2^53) (hQ : Q * 2^k = Uno) (h0 : vr (mg y) ≠ 0)
    (h : vr (mg x) * 2^k = vr (mg y) * c) : ∃ r, double.div x y = some r ∧ fin r ∧ V r = (if sg x ^^ sg y then -((c * Q : Nat) : Int) else ((c * Q : Nat) : Int)) := by
  obtain ⟨m, q, hr, _, hm, _⟩ := read_V hx
  obtain ⟨n, p, hr', _, hn, hn53, _⟩ := read_V hy
  have hn0 : n ≠ 0 := by rintro rfl; rw [Nat.zero_mul] at hn; exact h0 hn.symm
  have hk : k ≤ 1074 ∧ Q = 2^(1074 - k) := by
    obtain ⟨a, ha⟩ : ∃ a : Nat, a = 1074 := ⟨_, rfl⟩
    rw [one_eq a ha] at hQ
    have hka : k ≤ a := by
      have hq0 : Q ≠ 0 := by rintro rfl; rw [Nat.zero_mul] at hQ; have := pow_pos' a; omega
      have : 2^k ≤ 2^a := by rw [← hQ]; exact Nat.le_mul_of_pos_left _ (Nat.pos_of_ne_zero hq0)
      exact (Nat.pow_le_pow_iff_right (by omega)).1 this
    refine ⟨by omega, ?_⟩
    have : Q * 2^k = 2^(a - k) * 2^k := by rw [hQ, ← Nat.pow_add]; congr 1; omega
    rw [← ha]; exact Nat.eq_of_mul_eq_mul_right (pow_pos' k) this
  have fits : c * 2^(1074 - k) < Top := by
    have h1 := Nat.mul_lt_mul_of_pos_right hc (pow_pos' (1074 - k))
    rw [← Nat.pow_add] at h1
    exact Nat.lt_trans h1 (lt_top.2 (by omega))
  have hex := rungd_exact (m := c) (p := -(k : Int)) (a := 1074 - k) hc (by omega) fits
  have main : double.div x y = some (double.word (sg x ^^ sg y) (rungd c (-(k : Int)))) := by
    unfold Format.div
    rw [hr, hr']
    have hf : double.fractionBits + 2 = 54 := rfl
    simp only [Datum.quotient, hf, if_neg hn0, Option.map_some, Format.write, nearest_eq, Nat.shiftLeft_eq]
    by_cases hm0 : m = 0
    · subst hm0
      have hc0 : c = 0 := by
        rw [← hm, Nat.zero_mul, Nat.zero_mul] at h
        rcases Nat.mul_eq_zero.1 h.symm with h | h
        · exact absurd h h0
        · exact h
      subst hc0
      have z : ∀ P, rungd 0 P = 0 := fun P => by unfold rungd; rw [if_pos rfl]
      rw [Nat.zero_mul, Nat.zero_div, Nat.zero_mod, show 2 * 0 + ((0 : Nat) != 0).toNat = 0 from rfl, z, z]
    · have lm : m.log2 ≤ 52 := by
        have : m < 2^53 := by
          obtain ⟨m', q', hr2, _, _, hm53, _⟩ := read_V hx
          rw [hr] at hr2; injection hr2 with _ e _; rw [e]; exact hm53
        have := (Nat.log2_lt hm0).2 this; omega
      obtain ⟨more, hmore⟩ : ∃ more, 54 + n.log2 - m.log2 = more := ⟨_, rfl⟩
      rw [hmore]
      have h2 : m * 2^(q + k) = n * c * 2^p := by
        rw [← hm, ← hn] at h
        rw [Nat.pow_add, ← Nat.mul_assoc, h, Nat.mul_right_comm]
      have big : n * 2^53 < m * 2^more := by
        have a1 : 2^m.log2 ≤ m := Nat.log2_self_le hm0
        have a2 : n < 2^(n.log2 + 1) := Nat.lt_log2_self
        have a3 : 2^m.log2 * 2^more ≤ m * 2^more := Nat.mul_le_mul_right _ a1
        have a4 : n * 2^53 < 2^(n.log2 + 1) * 2^53 := Nat.mul_lt_mul_of_pos_right a2 (by omega)
        rw [← Nat.pow_add] at a3 a4
        rw [show m.log2 + more = n.log2 + 1 + 53 by omega] at a3
        omega
      have hle : q + k ≤ more + p := by
        refine Nat.le_of_not_lt fun hlt => ?_
        obtain ⟨u, hu⟩ : ∃ u, q + k = more + p + u := ⟨q + k - more - p, by omega⟩
        rw [hu, Nat.pow_add, Nat.pow_add, ← Nat.mul_assoc, ← Nat.mul_assoc, Nat.mul_right_comm (m * 2^more)] at h2
        have h3 := Nat.eq_of_mul_eq_mul_right (pow_pos' p) h2
        have h4 : m * 2^more ≤ m * 2^more * 2^u := Nat.le_mul_of_pos_right _ (pow_pos' u)
        have h5 : n * c ≤ n * 2^53 := Nat.mul_le_mul_left _ (Nat.le_of_lt hc)
        omega
      obtain ⟨t, ht⟩ : ∃ t, more + p = q + k + t := ⟨more + p - (q + k), by omega⟩
      have hdiv : m * 2^more = n * (c * 2^t) := by
        have h3 : m * 2^more * 2^p = n * (c * 2^t) * 2^p := by
          rw [Nat.mul_assoc, ← Nat.pow_add, ht, Nat.pow_add, ← Nat.mul_assoc, h2]
          ac_rfl
        exact Nat.eq_of_mul_eq_mul_right (pow_pos' p) h3
      rw [hdiv, Nat.mul_div_cancel_left _ (Nat.pos_of_ne_zero hn0), Nat.mul_mod_right]
      have e1 : 2 * (c * 2^t) + ((0 : Nat) != 0).toNat = c * 2^(t + 1) := by
        rw [Nat.pow_succ]; show 2 * (c * 2^t) + 0 = _; rw [Nat.add_zero, Nat.mul_comm 2, Nat.mul_assoc]
      rw [e1, rungd_shift]
      congr 4
      omega
  refine ⟨_, main, ?_, ?_⟩
  · unfold fin; rw [mg_word _ (rung_lt63 _ _)]; exact hex.2
  · rw [V_word _ (rung_lt63 _ _), hex.1, hk.2]

/-! ### the quotients by one number are monotone -/

/-- the digits of m / M that a quotient keeps, the last of them sticky -/
def dq (m M : Nat) : Nat := 2 * (m * 2^54 / M) + (m * 2^54 % M != 0).toNat

theorem stick_mono {A B M : Nat} (h1 : A ≤ B) : 2 * (A / M) + (A % M != 0).toNat ≤ 2 * (B / M) + (B % M != 0).toNat := by
  have h2 : A / M ≤ B / M := Nat.div_le_div_right h1
  by_cases e : A / M = B / M
  · rw [e]
    have e1 := Nat.div_add_mod A M
    have e2 := Nat.div_add_mod B M
    rw [e] at e1
    have h3 : A % M ≤ B % M := by omega
    by_cases z : A % M = 0
    · rw [z]; show 2 * (B / M) + 0 ≤ _; omega
    · have : (B % M != 0) = true := by simp; omega
      rw [this]
      have : (A % M != 0).toNat ≤ 1 := by cases (A % M != 0) <;> simp
      simp; omega
  · have : (A % M != 0).toNat ≤ 1 := by cases (A % M != 0) <;> simp
    omega

theorem dq_mono {a b M : Nat} (_hM : 0 < M) (h : a ≤ b) : dq a M ≤ dq b M := stick_mono (Nat.mul_le_mul_right _ h)

theorem dq_step {a b M k : Nat} (hM : 0 < M) (hM' : M < 2^53) (ha : a < 2^53) (hb : 2^52 ≤ b) (hk : 1 ≤ k) : dq a M ≤ dq b M * 2^k := by
  have h1 : dq (2^52) M * 2 ≤ dq b M * 2^k := by
    refine Nat.mul_le_mul (dq_mono hM hb) ?_
    have : 2^1 ≤ 2^k := Nat.pow_le_pow_right (by omega) hk
    omega
  refine Nat.le_trans (dq_mono hM (show a ≤ 2^53 - 1 by omega)) (Nat.le_trans ?_ h1)
  unfold dq
  obtain ⟨F, hF⟩ : ∃ F, 2^52 * 2^54 / M = F := ⟨_, rfl⟩
  obtain ⟨G, hG⟩ : ∃ G, (2^53 - 1) * 2^54 / M = G := ⟨_, rfl⟩
  rw [hF, hG]
  have f1 : 2^52 * 2^54 < M * F + M := by rw [← hF]; exact Nat.lt_mul_div_succ _ hM
  have g1 : M * G ≤ (2^53 - 1) * 2^54 := by rw [← hG]; exact Nat.mul_div_le _ _
  have key : G < 2 * F := by
    refine Nat.lt_of_not_le fun hle => ?_
    have h2 : M * (2 * F) ≤ M * G := Nat.mul_le_mul_left _ hle
    have h3 : M * (2 * F) = 2 * (M * F) := by ac_rfl
    generalize M * F = X at *
    generalize M * G = Y at *
    omega
  have : ((2^53 - 1) * 2^54 % M != 0).toNat ≤ 1 := by cases ((2^53 - 1) * 2^54 % M != 0) <;> simp
  omega

/-- a quotient of two positive numbers of full length -/
theorem div_full {x y m q n p : Nat} (hr : double.read x = .number false m ((q : Int) - 1074)) (hr' : double.read y = .number false n ((p : Int) - 1074))
    (hm : 2^52 ≤ m) (hm' : m < 2^53) (hn : 2^52 ≤ n) (hn' : n < 2^53) :
    double.div x y = some (double.word false (rungd (dq m n) ((q : Int) - p - 55))) := by
  have lg : ∀ z : Nat, 2^52 ≤ z → z < 2^53 → z.log2 = 52 := fun z h1 h2 => by
    have a := (Nat.log2_lt (show z ≠ 0 by omega)).2 h2
    have b := (Nat.le_log2 (show z ≠ 0 by omega)).2 h1
    omega
  unfold Format.div
  rw [hr, hr']
  have hf : double.fractionBits + 2 = 54 := rfl
  simp only [Datum.quotient, hf, if_neg (show n ≠ 0 by omega), Option.map_some, Format.write, nearest_eq, Nat.shiftLeft_eq, lg m hm hm', lg n hn hn']
  unfold dq
  congr 3
  omega

theorem div_full_mono {m q m' q' n p : Nat} (hm : 2^52 ≤ m) (hm' : m < 2^53) (hn : 2^52 ≤ n) (hn' : n < 2^53) (hl : 2^52 ≤ m') (hl' : m' < 2^53) (h : m * 2^q ≤ m' * 2^q') :
    rungd (dq m n) ((q : Int) - p - 55) ≤ rungd (dq m' n) ((q' : Int) - p - 55) := by
  by_cases e : q = q'
  · subst e
    exact rungd_mono _ (dq_mono (by omega) (Nat.le_of_mul_le_mul_right h (pow_pos' q)))
  · have hq : q < q' := by
      refine Nat.lt_of_not_le fun hle => ?_
      have hlt : q' < q := by omega
      have h1 : m' * 2^q' < 2^53 * 2^q' := Nat.mul_lt_mul_of_pos_right hl' (pow_pos' q')
      have h2 : 2^52 * 2^q ≤ m * 2^q := Nat.mul_le_mul_right _ hm
      rw [← Nat.pow_add] at h1 h2
      have h3 : 2^(53 + q') ≤ 2^(52 + q) := Nat.pow_le_pow_right (by omega) (by omega)
      omega
    have hd := dq_step (a := m) (b := m') (M := n) (k := q' - q) (by omega) hn' hm' hl (by omega)
    have hs := rungd_shift (dq m' n) (q' - q) ((q : Int) - p - 55)
    rw [show (q : Int) - p - 55 + ((q' - q : Nat) : Int) = (q' : Int) - p - 55 by omega] at hs
    rw [← hs]
    exact rungd_mono _ hd

/-- a positive whole number, read: a full significand -/
theorem read_int {n : Nat} (h0 : 0 < n) (h : n ≤ 2^53) : ∃ m q : Nat, double.read (ofInt n) = .number false m ((q : Int) - 1074) ∧ m * 2^q = n * Uno ∧ 2^52 ≤ m ∧ m < 2^53 := by
  have hf := ofInt_fin (n := (n : Int)) (by omega)
  obtain ⟨m, q, hr, hv, hm, h53, hq⟩ := read_V hf.1
  have hs : sg (ofInt n) = false := by rw [hf.2.2]; simp
  rw [hs] at hr
  have hv2 : m * 2^q = n * Uno := by
    have h1 := abs_V (ofInt n)
    rw [hf.2.1] at h1
    rw [hm, ← h1]
    have : ((n : Int) * (Uno : Int)).natAbs = n * Uno := by rw [Int.natAbs_mul]; rfl
    exact this.symm
  refine ⟨m, q, hr, hv2, ?_, h53⟩
  rcases hq with rfl | hq
  · exfalso
    rw [Nat.pow_zero, Nat.mul_one] at hv2
    have hone : 2^53 ≤ Uno := by
      obtain ⟨a, ha⟩ : ∃ a : Nat, a = 1074 := ⟨_, rfl⟩
      rw [one_eq a ha]; exact Nat.pow_le_pow_right (by omega) (by omega)
    have : 1 * Uno ≤ n * Uno := Nat.mul_le_mul_right _ h0
    omega
  · exact hq

/-- a whole number over a positive one: between 0 and 1 where it is the smaller one, and monotone -/
theorem div_int {n M : Nat} (h0 : 0 < M) (hM : M ≤ 2^53) (hn : n ≤ M) :
    ∃ r, double.div (ofInt n) (ofInt M) = some r ∧ fin r ∧ 0 ≤ V r ∧ V r ≤ (Uno : Int) := by
  obtain ⟨d, p, hd, hdv, d1, d2⟩ := read_int h0 hM
  have hone : Uno < Top := by
    obtain ⟨a, ha⟩ : ∃ a : Nat, a = 1074 := ⟨_, rfl⟩
    rw [one_eq a ha]; exact lt_top.2 (by omega)
  have top : vr (rungd (dq d d) ((p : Int) - p - 55)) = Uno := by
    have e : dq d d = 1 * 2^55 := by
      unfold dq
      rw [Nat.mul_comm d, Nat.mul_div_cancel _ (show 0 < d by omega), Nat.mul_mod_left]
      rfl
    rw [e, rungd_shift, show (p : Int) - p - 55 + ((55 : Nat) : Int) = 0 by omega]
    have := (rungd_int (m := 1) (by omega)).1
    rw [this, Nat.one_mul]
  by_cases hz : n = 0
  · subst hz
    have hx := ofInt_fin (n := ((0 : Nat) : Int)) (by decide)
    have hy := ofInt_fin (n := (M : Int)) (by omega)
    have hv0 : vr (mg (ofInt ((0 : Nat) : Int))) = 0 := by
      have := abs_V (ofInt ((0 : Nat) : Int)); rw [hx.2.1] at this; simpa using this.symm
    obtain ⟨r, hr, hf, hv⟩ := div_exact (c := 0) (k := 0) (Q := Uno) hx.1 hy.1 (by omega) (by rw [Nat.pow_zero, Nat.mul_one])
      (by have := abs_V (ofInt (M : Int)); rw [hy.2.1] at this
          rw [← this]
          have hp := one_pos
          intro hc
          rcases Int.mul_eq_zero.1 (Int.natAbs_eq_zero.1 hc) with h | h <;> omega)
      (by rw [hv0, Nat.zero_mul, Nat.mul_zero])
    refine ⟨r, hr, hf, ?_, ?_⟩
    · rw [hv]; split <;> simp
    · rw [hv]; have := one_pos; split <;> simp <;> omega
  · obtain ⟨m, q, hm, hmv, m1, m2⟩ := read_int (show 0 < n by omega) (show n ≤ 2^53 by omega)
    refine ⟨_, div_full hm hd m1 m2 d1 d2, ?_, ?_, ?_⟩
    · have hle := div_full_mono (p := p) m1 m2 d1 d2 d1 d2 (show m * 2^q ≤ d * 2^p by rw [hmv, hdv]; exact Nat.mul_le_mul_right _ hn)
      have := vr_le.2 hle
      rw [top] at this
      apply fin_of_V
      rw [abs_V, mg_word _ (rung_lt63 _ _)]; omega
    · rw [V_word _ (rung_lt63 _ _)]; simp
    · have hle := div_full_mono (p := p) m1 m2 d1 d2 d1 d2 (show m * 2^q ≤ d * 2^p by rw [hmv, hdv]; exact Nat.mul_le_mul_right _ hn)
      have := vr_le.2 hle
      rw [top] at this
      rw [V_word _ (rung_lt63 _ _)]; simp; omega

theorem div_int_mono {n n' M r r' : Nat} (h0 : 0 < M) (hM : M ≤ 2^53) (hn : n ≤ n') (hn' : n' ≤ M)
    (hr : double.div (ofInt n) (ofInt M) = some r) (hr' : double.div (ofInt n') (ofInt M) = some r') : V r ≤ V r' := by
  obtain ⟨d, p, hd, _, d1, d2⟩ := read_int h0 hM
  by_cases hz : n = 0
  · obtain ⟨s', hs', _, h1, _⟩ := div_int h0 hM hn'
    have hx := ofInt_fin (n := ((0 : Nat) : Int)) (by decide)
    have hy := ofInt_fin (n := (M : Int)) (by omega)
    have hv0 : vr (mg (ofInt ((0 : Nat) : Int))) = 0 := by
      have := abs_V (ofInt ((0 : Nat) : Int)); rw [hx.2.1] at this; simpa using this.symm
    obtain ⟨s, hs, _, hv⟩ := div_exact (c := 0) (k := 0) (Q := Uno) hx.1 hy.1 (by omega) (by rw [Nat.pow_zero, Nat.mul_one])
      (by have := abs_V (ofInt (M : Int)); rw [hy.2.1] at this
          rw [← this]
          have hp := one_pos
          intro hc
          rcases Int.mul_eq_zero.1 (Int.natAbs_eq_zero.1 hc) with h | h <;> omega)
      (by rw [hv0, Nat.zero_mul, Nat.mul_zero])
    subst hz
    rw [hr] at hs; rw [hr'] at hs'
    injection hs with e1; injection hs' with e2
    rw [e1, e2, hv]
    split <;> simp <;> exact h1
  · obtain ⟨m, q, hm, hmv, m1, m2⟩ := read_int (show 0 < n by omega) (show n ≤ 2^53 by omega)
    obtain ⟨l, t, hl, hlv, l1, l2⟩ := read_int (show 0 < n' by omega) (show n' ≤ 2^53 by omega)
    have e1 := div_full hm hd m1 m2 d1 d2
    have e2 := div_full hl hd l1 l2 d1 d2
    rw [hr] at e1; rw [hr'] at e2
    injection e1 with e1; injection e2 with e2
    have hle := div_full_mono (p := p) m1 m2 d1 d2 l1 l2 (show m * 2^q ≤ l * 2^t by rw [hmv, hlv]; exact Nat.mul_le_mul_right _ hn)
    have := vr_le.2 hle
    rw [e1, e2, V_word _ (rung_lt63 _ _), V_word _ (rung_lt63 _ _)]; simp; omega

/-! ### whole parts -/

/-- is a fraction that is left over rounded away from zero? -/
def inc (way : Toward) (s : Bool) : Bool := match way with
  | .down => s
  | .up => !s
  | _ => false

theorem cut_way {way : Toward} (hw : way ≠ .even) (s : Bool) (n d : Nat) : way.cut s n d = n / 2^d + (if inc way s = true ∧ n % 2^d ≠ 0 then 1 else 0) := by
  have hL : n < 2^(n.log2 + 1) := Nat.lt_log2_self
  have base : ∀ g : Nat, n / g + (match way with
      | .even => decide (g < 2 * (n % g)) || (g == 2 * (n % g) && n / g % 2 == 1)
      | .down => s && n % g != 0
      | .up => !s && n % g != 0
      | .zero => false).toNat = n / g + (if inc way s = true ∧ n % g ≠ 0 then 1 else 0) := by
    intro g
    cases way <;> cases s <;> simp [inc] at hw ⊢ <;> (by_cases c : n % g = 0 <;> simp [c])
  unfold Toward.cut
  simp only [Nat.one_shiftLeft]
  by_cases h : d ≤ n.log2 + 2
  · rw [Nat.min_eq_left h]
    exact base _
  · have h' : n.log2 + 2 ≤ d := by omega
    rw [Nat.min_eq_right h']
    have e2 : 2^(n.log2 + 2) = 2 * 2^(n.log2 + 1) := by rw [Nat.pow_succ, Nat.mul_comm]
    have hd : 2^(n.log2 + 2) ≤ 2^d := Nat.pow_le_pow_right (by omega) h'
    have l1 : n / 2^(n.log2 + 2) = 0 := Nat.div_eq_of_lt (by omega)
    have l2 : n % 2^(n.log2 + 2) = n := Nat.mod_eq_of_lt (by omega)
    have l3 : n / 2^d = 0 := Nat.div_eq_of_lt (by omega)
    have l4 : n % 2^d = n := Nat.mod_eq_of_lt (by omega)
    have := base (2^(n.log2 + 2))
    rw [l1, l2] at this
    rw [l1, l2, l3, l4]
    exact this

theorem whole_fin {way : Toward} (hw : way ≠ .even) {w : Nat} (h : fin w) :
    ∃ u : Nat, (double.read w).integral way = .number (sg w) u 0 ∧ u = vr (mg w) / Uno + (if inc way (sg w) = true ∧ vr (mg w) % Uno ≠ 0 then 1 else 0) ∧
      vr (rungd u 0) = u * Uno ∧ rungd u 0 < 2047 * 2^52 := by
  obtain ⟨m, q, hr, hv, h53, hq⟩ := read_fin h
  obtain ⟨a, ha⟩ : ∃ a : Nat, a = 1074 := ⟨_, rfl⟩
  rw [hr]
  simp only [Datum.integral, Nat.shiftLeft_eq, cut_way hw]
  refine ⟨_, rfl, ?_⟩
  rw [← hv, one_eq a ha]
  by_cases c : a ≤ q
  · have e1 : ((q : Int) - 1074).toNat = q - a := by omega
    have e2 : (-((q : Int) - 1074)).toNat = 0 := by omega
    have e3 : m * 2^q = m * 2^(q - a) * 2^a := by rw [Nat.mul_assoc, ← Nat.pow_add]; congr 2; omega
    rw [e1, e2, e3, Nat.pow_zero, Nat.div_one, Nat.mod_one, Nat.mul_div_cancel _ (pow_pos' a), Nat.mul_mod_left]
    refine ⟨rfl, ?_⟩
    rw [if_neg (fun hh => hh.2 rfl), Nat.add_zero, rungd_shift]
    have fits : m * 2^q < Top := by rw [hv]; exact fin_lt h
    have := rungd_exact (m := m) (p := 0 + ((q - a : Nat) : Int)) (a := q) h53 (by omega) fits
    rw [this.1, ← e3]; exact ⟨rfl, this.2⟩
  · have e1 : ((q : Int) - 1074).toNat = 0 := by omega
    have e2 : (-((q : Int) - 1074)).toNat = a - q := by omega
    obtain ⟨d, hd⟩ : ∃ d, a - q = d := ⟨_, rfl⟩
    have hd1 : 1 ≤ d := by omega
    have e3 : 2^a = 2^d * 2^q := by rw [← Nat.pow_add]; congr 1; omega
    rw [e1, e2, hd, Nat.pow_zero, Nat.mul_one, e3, Nat.mul_div_mul_right _ _ (pow_pos' q), Nat.mul_mod_mul_right]
    have z : (m % 2^d * 2^q ≠ 0) ↔ (m % 2^d ≠ 0) := by
      constructor
      · intro hh e; exact hh (by rw [e, Nat.zero_mul])
      · intro hh e; rcases Nat.mul_eq_zero.1 e with e | e
        · exact hh e
        · exact absurd e (Nat.ne_of_gt (pow_pos' q))
    simp only [z, true_and]
    rw [← e3, ← one_eq a ha]
    apply rungd_int
    have h2 : 2^1 ≤ 2^d := Nat.pow_le_pow_right (by omega) hd1
    have h3 : m / 2^d ≤ m / 2 := Nat.div_le_div_left h2 (by omega)
    split <;> omega

theorem toInt_fin {w : Nat} (h : fin w) : (double.read w).toInt .zero = some (if sg w then -((vr (mg w) / Uno : Nat) : Int) else ((vr (mg w) / Uno : Nat) : Int)) := by
  obtain ⟨u, hu, hv, _⟩ := whole_fin (way := .zero) (by decide) h
  unfold Datum.toInt
  rw [hu]
  have : u = vr (mg w) / Uno := by rw [hv]; simp [inc]
  rw [← this]
  simp only [signed_eq, Nat.pow_zero, Nat.mul_one]

theorem toInt_nan {w : Nat} (h : 2047 * 2^52 ≤ mg w) : (double.read w).toInt .zero = none := by
  rcases Nat.lt_or_eq_of_le h with h | h
  · rw [read_nan h]; rfl
  · rw [read_inf h.symm]; rfl

/-! ### differences and products by their values -/

/-- a word with its sign turned -/
def flip (w : Nat) : Nat := double.word (!sg w) (mg w)

theorem mg_lt (w : Nat) : mg w < 2^63 := Nat.mod_lt _ (by omega)

theorem V_flip (w : Nat) : V (flip w) = -V w := by
  unfold flip
  rw [V_word _ (mg_lt w)]
  unfold V
  cases sg w <;> simp

theorem fin_flip {w : Nat} (h : fin w) : fin (flip w) := by
  unfold fin flip; rw [mg_word _ (mg_lt w)]; exact h

theorem sg_flip (w : Nat) : sg (flip w) = !sg w := sg_word _ (mg_lt w)

theorem read_flip (w : Nat) : double.read (flip w) = (double.read w).opposite := by
  have h1 : mg (flip w) = mg w := mg_word _ (mg_lt w)
  have h2 := sg_flip w
  have hs : double.signWeight = 2^63 := rfl
  unfold mg at h1
  unfold sg at h2
  unfold Format.read
  simp only [hs]
  rw [h1, h2]
  split
  · rfl
  · split
    · rfl
    · split <;> rfl

theorem sub_is (x y : Nat) : double.sub x y = double.add x (flip y) := by
  unfold Format.sub Format.add; rw [read_flip]

theorem sub_V {x y : Nat} (hx : fin x) (hy : fin y) : ∃ r, double.sub x y = some r ∧ ¬ nan r ∧ V r = rnd (V x - V y) := by
  rw [sub_is]
  obtain ⟨r, h1, h2, h3⟩ := add_V hx (fin_flip hy)
  exact ⟨r, h1, h2, by rw [h3, V_flip, Int.sub_eq_add_neg]⟩

theorem rnd_exact {m a : Nat} {T : Int} (hm : m < 2^53) (hT : T.natAbs = m * 2^a) (hb : m * 2^a < Top) : rnd T = T := by
  have h := rungd_exact (m := m) (p := -1074 + (a : Int)) (a := a) hm (by omega) hb
  rw [← rungd_shift, ← hT] at h
  unfold rnd
  split <;> omega

end Go.Proofs.YtkincdcknmdboaaDoor.Flt
