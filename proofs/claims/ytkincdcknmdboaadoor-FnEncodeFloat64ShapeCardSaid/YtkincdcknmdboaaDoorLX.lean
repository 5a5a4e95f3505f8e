/- The law FnEncodeFloat64Shape at every double. -/
import Derived.Test.YtkincdcknmdboaaDoorLW
namespace Go.Proofs.YtkincdcknmdboaaDoor
open Go Go.RowKit Flt
set_option linter.unusedVariables false
set_option linter.unusedSimpArgs false

theorem xor_top (a : Nat) (h : a < 9223372036854775808) : (9223372036854775808 + a) ^^^ 9223372036854775808 = a := by
  have h63 : (9223372036854775808 : Nat) = 2 ^ 63 := rfl
  have ha : a < 2 ^ 63 := h
  rw [h63]
  refine Nat.eq_of_testBit_eq fun i => ?_
  rw [Nat.testBit_xor, Nat.testBit_two_pow]
  rcases Nat.lt_trichotomy i 63 with hi | hi | hi
  · rw [Nat.testBit_two_pow_add_gt hi, decide_eq_false (by omega)]
    simp
  · subst hi
    rw [Nat.testBit_two_pow_add_eq, Nat.testBit_lt_two_pow ha]
    simp
  · have h1 : 2 ^ 64 ≤ 2 ^ i := Nat.pow_le_pow_right (by decide) hi
    have h2 : (2 : Nat) ^ 64 = 18446744073709551616 := rfl
    rw [Nat.testBit_lt_two_pow (show 2 ^ 63 + a < 2 ^ i by omega), Nat.testBit_lt_two_pow (show a < 2 ^ i by omega), decide_eq_false (by omega)]
    rfl

theorem neg_run (f a : Nat) (hf : f = 9223372036854775808 + a) (h : a < 9223372036854775808) (w : World) : (Op.unary UnOp.neg (.float .f64 f)).run Tryd.prog w = .ok (.float .f64 a) w := by
  have e : Op.negFloat .f64 f = a := by
    have h0 : FloatKind.f64.format.exponentBits + FloatKind.f64.format.fractionBits = 63 := rfl
    unfold Op.negFloat
    rw [h0, hf]
    exact xor_top a h
  show Result.ok (Value.float .f64 (Op.negFloat .f64 f)) w = _
  rw [e]

theorem ex_sm {a : Nat} (h : a < 4517329193108106637) : exOf a = true := by unfold exOf; rw [decide_eq_true h]; rfl
theorem ex_gr {a : Nat} (h : 4921056587992461136 ≤ a) : exOf a = true := by unfold exOf; rw [decide_eq_true h]; simp
theorem ex_mid {a : Nat} (h : ¬ a < 4517329193108106637) (h2 : ¬ 4921056587992461136 ≤ a) : exOf a = false := by unfold exOf; rw [decide_eq_false h, decide_eq_false h2]; rfl
theorem o7_yes {a : Nat} (h1 : a < 9218868437227405312) (h : a < 4517329193108106637) : (FloatKind.f64.format.order a 4517329193108106637 == some .lt) = true := by rw [ord_lt h1 (by decide) h]; rfl
theorem o7_no {a : Nat} (h1 : a < 9218868437227405312) (h : ¬ a < 4517329193108106637) : (FloatKind.f64.format.order a 4517329193108106637 == some .lt) = false := by
  rcases Nat.lt_or_ge 4517329193108106637 a with h | h
  · rw [ord_gt h1 (by decide) h]; rfl
  · obtain rfl : a = 4517329193108106637 := by omega
    rw [ord_eq h1]; rfl
theorem o8_yes {a : Nat} (h1 : a < 9218868437227405312) (h : 4921056587992461136 ≤ a) : (FloatKind.f64.format.order a 4921056587992461136 == some .gt || FloatKind.f64.format.order a 4921056587992461136 == some .eq) = true := by
  rcases Nat.lt_or_ge 4921056587992461136 a with h | h
  · rw [ord_gt h1 (by decide) h]; rfl
  · obtain rfl : a = 4921056587992461136 := by omega
    rw [ord_eq h1]; rfl
theorem o8_no {a : Nat} (h1 : a < 9218868437227405312) (h : ¬ 4921056587992461136 ≤ a) : (FloatKind.f64.format.order a 4921056587992461136 == some .gt || FloatKind.f64.format.order a 4921056587992461136 == some .eq) = false := by
  rw [ord_lt h1 (by decide) (by omega)]; rfl

theorem law_any (f : Nat) (hf : f < 18446744073709551616) (w : World) (hT : Lib.TabIs Tryd.prog w "internal/strconv.uint64pow10" .u64 Lib.pow10Tab) (hP : TabAll w) :
    Calls Tryd.prog 4 #[.float .f64 f] w fun e w' => e = .returned (.bool true) ∧ Below w.heap.size w w' := by
  obtain ⟨a, ha⟩ : ∃ a, a = f % 9223372036854775808 := ⟨_, rfl⟩
  by_cases c1 : 9218868437227405312 < a
  · refine law_nan f ?_ w
    have hn : nan f := by
      have h63 : (2 : Nat) ^ 63 = 9223372036854775808 := rfl
      unfold nan mg
      rw [h63, ← ha]
      omega
    rw [show FloatKind.f64.format.order f f = none from order_nan (Or.inl hn)]
    rfl
  by_cases c2 : a = 9218868437227405312
  · rcases Nat.lt_or_ge f 9223372036854775808 with h | h
    · obtain rfl : f = 9218868437227405312 := by omega
      exact law_pinf w hT hP
    · obtain rfl : f = 18442240474082181120 := by omega
      exact law_ninf w hT hP
  by_cases c3 : a = 0
  · rcases Nat.lt_or_ge f 9223372036854775808 with h | h
    · obtain rfl : f = 0 := by omega
      exact law_pz w
    · obtain rfl : f = 9223372036854775808 := by omega
      exact law_nz w
  have h0 : 0 < a := by omega
  have h1 : a < 9218868437227405312 := by omega
  have o6 : (FloatKind.f64.format.order a 0 != some .eq) = true := by rw [ord_gt h1 (by decide) h0]; rfl
  rcases Nat.lt_or_ge f 9223372036854775808 with h | h
  · obtain rfl : a = f := by omega
    have HZ := zz_good (zz_fin a a false (by simp) h0 h1 w hT hP)
    have o0 : (FloatKind.f64.format.order a a != some .eq) = false := by rw [ord_eq h1]; rfl
    have o1 : (FloatKind.f64.format.order a 9218868437227405311 == some .gt) = false := by
      rcases Nat.lt_or_ge a 9218868437227405311 with h | h
      · rw [ord_lt h1 (by decide) h]; rfl
      · obtain rfl : a = 9218868437227405311 := by omega
        rw [ord_eq h1]; rfl
    have o2 : (FloatKind.f64.format.order a 18442240474082181119 == some .lt) = false := by
      have n1 : ¬ nan 18442240474082181119 := by decide
      rw [order_gt (fin_nan h1) n1 (by rw [V_NM, V_bits a (by omega)]; have := big_max; have := one_pos; omega)]; rfl
    have o3 := ord_gt h1 (show 0 < 9218868437227405312 by decide) h0
    have o4 : (FloatKind.f64.format.order a 0 == some .lt) = false := by rw [o3]; rfl
    have o5 : (FloatKind.f64.format.order a 0 == some .eq) = false := by rw [o3]; rfl
    by_cases cs : a < 4517329193108106637
    · rw [ex_sm cs] at HZ
      exact law_pos_sm a o0 o1 o2 o4 o5 o6 (o7_yes h1 cs) w HZ
    · by_cases cg : 4921056587992461136 ≤ a
      · rw [ex_gr cg] at HZ
        exact law_pos_gr a o0 o1 o2 o4 o5 o6 (o7_no h1 cs) (o8_yes h1 cg) w HZ
      · rw [ex_mid cs cg] at HZ
        exact law_pos_mid a o0 o1 o2 o4 o5 o6 (o7_no h1 cs) (o8_no h1 cg) w HZ
  · have hfa : f = 9223372036854775808 + a := by omega
    have hx : f = (if true then 9223372036854775808 else 0) + a := by simpa using hfa
    have HZ := zz_good (zz_fin f a true hx h0 h1 w hT hP)
    obtain ⟨hV, hn⟩ := V_signed f a true hx h1
    rw [if_pos rfl] at hV
    have hlt := vr_lt h0
    have o0 := order_self hn
    have o1 : (FloatKind.f64.format.order f 9218868437227405311 == some .gt) = false := by
      have n1 : ¬ nan 9218868437227405311 := by decide
      rw [order_lt hn n1 (by rw [hV, V_bits 9218868437227405311 (by decide)]; have := big_max; have := one_pos; omega)]; rfl
    have o2 : (FloatKind.f64.format.order f 18442240474082181119 == some .lt) = false := by
      have n1 : ¬ nan 18442240474082181119 := by decide
      have h3 := lt_eq hn n1
      rw [decide_eq_false (by rw [hV, V_NM]; have := (vr_le (r := a) (r' := 9218868437227405311)).2 (by omega); omega)] at h3
      exact h3
    have o4 : (FloatKind.f64.format.order f 0 == some .lt) = true := by
      have n1 : ¬ nan 0 := by decide
      rw [order_lt hn n1 (by rw [hV, V_zero]; omega)]; rfl
    have oN := neg_run f a hfa (by omega)
    by_cases cs : a < 4517329193108106637
    · rw [ex_sm cs] at HZ
      exact law_neg_sm f o0 o1 o2 a o4 o6 oN (o7_yes h1 cs) w HZ
    · by_cases cg : 4921056587992461136 ≤ a
      · rw [ex_gr cg] at HZ
        exact law_neg_gr f o0 o1 o2 a o4 o6 oN (o7_no h1 cs) (o8_yes h1 cg) w HZ
      · rw [ex_mid cs cg] at HZ
        exact law_neg_mid f o0 o1 o2 a o4 o6 oN (o7_no h1 cs) (o8_no h1 cg) w HZ
end Go.Proofs.YtkincdcknmdboaaDoor
