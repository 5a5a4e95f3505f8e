/- encodeFloat64 at a whole number: its decimal digits. -/
import Derived.Lib.BitFns
import Derived.Test.YtkincdcknmdboaaDoorIB
import Derived.Test.YtkincdcknmdboaaDoorDG
namespace Go.Proofs.YtkincdcknmdboaaDoor
open Go Go.RowKit Flt
set_option linter.unusedVariables false
set_option linter.unusedSimpArgs false

theorem bitLen_of (x k : Nat) (h1 : 2 ^ k ≤ x) (h2 : x < 2 ^ (k + 1)) (h : x < 2 ^ 64) : Lib.bitLen x = k + 1 := by
  rw [Lib.bitLen_shift k x h1 h]
  have e : x / 2 ^ k = 1 := by
    refine Nat.div_eq_of_lt_le (by rw [Nat.one_mul]; exact h1) ?_
    rw [Nat.pow_succ] at h2
    omega
  rw [e]
  rfl

theorem TabP.below {B : Nat} {w w1 : World} (h : TabP w) (hb : Below B w w1) (hG : 3 < B) : TabP w1 := by
  intro p hp
  have e := hb.block _ hG
  have c := fun i => World.cell?_of_block (a := ⟨3, i, none⟩) e
  rw [c, c]
  exact h p hp

theorem V_bits (c : Nat) (h : c < 9223372036854775808) : V c = (vr c : Int) := by
  have h1 : mg c = c := Nat.mod_eq_of_lt h
  have h2 : sg c = false := by unfold sg; rw [Nat.div_eq_of_lt (show c < 2 ^ 63 from h)]; rfl
  unfold V
  rw [h1, h2]
  simp

theorem max_no (x : Nat) (h : FloatKind.f64.format.order x 18442240474082181119 = some .gt) (w : World) : (Builtin.max_ #[23, 23] 23 #[.float .f64 x, .float .f64 18442240474082181119]).run Tryd.prog w = .ok (.float .f64 x) w := by
  simp [Builtin.max_, Builtin.max2, h]
theorem min_no (x : Nat) (h : FloatKind.f64.format.order x 9218868437227405311 = some .lt) (w : World) : (Builtin.min_ #[23, 23] 23 #[.float .f64 x, .float .f64 9218868437227405311]).run Tryd.prog w = .ok (.float .f64 x) w := by
  simp [Builtin.min_, Builtin.min2, h]

/-- the text of a whole number -/
def textOf (n : Int) : List UInt8 := (if decide (n < 0) then [45] else []) ++ Lib.decDigits n.natAbs

theorem enc_int0 (b E : Nat) (w : World) (hbE : b < E)
    (hbk : w.heap[b]? = some (.cells #[.pointer none, .slice none 0 0] 32 (0, 0)))
    (hB : BufAt w E (.iface 29 (.pointer (some ⟨b, 0, none⟩))) []) :
    Calls Tryd.prog 9 #[.pointer (some ⟨E, 0, none⟩), .float .f64 0] w fun r w' => r = .returned (.tuple #[]) ∧ ∃ L, L = textOf 0 ∧ Lib.IsBuilderF 32 5 b b (Lib.byteCells L) w' ∧ Below b w w' := by
  have hP : Parts 0 0 0 0 0 false := parts_of 0 0 0 false rfl (by decide) (by decide)
  have ht : textOf 0 = [48] := by simp [textOf, Lib.decDigits]
  refine enc_f b E 0 0 0 0 false true (fun L => L = textOf 0) w hbE hbk hB (andnot_sign 0 (by decide)) (by decide +kernel) (max_no 0 (by decide +kernel)) (min_no 0 (by decide +kernel)) (by decide +kernel) (by decide +kernel) rfl (by decide +kernel) (fun w1 h1 h2 h3 => ?_)
  exact app_out (b + 1) E 0 102 _ _ w w1 (ft_zero (b + 1) E 0 0 0 false _ _ (by rw [ht]; rfl) w w1 hP h2 h1 (by omega) h3)

theorem V_NM : V 18442240474082181119 = -(vr 9218868437227405311 : Int) := by
  have hm : mg 18442240474082181119 = 9218868437227405311 := by decide
  have hs : sg 18442240474082181119 = true := by decide
  unfold V
  rw [hm, hs, if_pos rfl]
theorem big_max : 18014398509481984 * Uno ≤ vr 9218868437227405311 := by
  have h := vr_pow 54
  rw [← show (2 : Nat) ^ 54 = 18014398509481984 from rfl, ← h]
  exact vr_le.2 (by decide)
theorem big_e21 : 18014398509481984 * Uno ≤ vr 4921056587992461136 := by
  have h := vr_pow 54
  rw [← show (2 : Nat) ^ 54 = 18014398509481984 from rfl, ← h]
  exact vr_le.2 (by decide)
theorem small_e6 : vr 4517329193108106637 ≤ Uno := by
  have h := vr_pow 0
  rw [Nat.pow_zero, Nat.one_mul] at h
  rw [← h]
  exact vr_le.2 (by decide)

theorem order_gt {x y : Nat} (hx : ¬ nan x) (hy : ¬ nan y) (h : V y < V x) : FloatKind.f64.format.order x y = some .gt := by
  have h1 := gt_eq hx hy
  rw [decide_eq_true h] at h1
  exact eq_of_beq h1
theorem order_lt {x y : Nat} (hx : ¬ nan x) (hy : ¬ nan y) (h : V x < V y) : FloatKind.f64.format.order x y = some .lt := by
  have h1 := lt_eq hx hy
  rw [decide_eq_true h] at h1
  exact eq_of_beq h1
theorem order_self {x : Nat} (hx : ¬ nan x) : (FloatKind.f64.format.order x x != some .eq) = false := by
  have h1 := eq_eq hx hx
  rw [decide_eq_true rfl] at h1
  show (!(Ieee.double.order x x == some .eq)) = false
  rw [h1]; rfl

theorem word_if (neg : Bool) (r : Nat) : Ieee.double.word neg r = (if neg then 9223372036854775808 else 0) + r := by
  have h : Ieee.double.signWeight = 9223372036854775808 := by decide
  unfold Ieee.Format.word
  rw [h]
  cases neg <;> simp

theorem enc_int1 (n : Int) (h0 : n ≠ 0) (hn : n.natAbs ≤ 9007199254740992) (b E : Nat) (w : World) (hbE : b < E)
    (hbk : w.heap[b]? = some (.cells #[.pointer none, .slice none 0 0] 32 (0, 0)))
    (hB : BufAt w E (.iface 29 (.pointer (some ⟨b, 0, none⟩))) [])
    (HT : Lib.TabBelow Tryd.prog (b + 1) w "internal/strconv.uint64pow10" .u64 Lib.pow10Tab) (HP : TabP w) (hG : 3 < b + 1) :
    Calls Tryd.prog 9 #[.pointer (some ⟨E, 0, none⟩), .float .f64 (Flt.ofInt n)] w fun r w' => r = .returned (.tuple #[]) ∧ ∃ L, L = textOf n ∧ Lib.IsBuilderF 32 5 b b (Lib.byteCells L) w' ∧ Below b w w' := by
  obtain ⟨N, hN⟩ : ∃ N, N = n.natAbs := ⟨_, rfl⟩
  obtain ⟨neg, hneg⟩ : ∃ neg, neg = decide (n < 0) := ⟨_, rfl⟩
  obtain ⟨x, hx⟩ : ∃ x, x = Flt.ofInt n := ⟨_, rfl⟩
  have hf := ofInt_fin (n := n) hn
  have hr := rungd_int (m := N) (by rw [hN]; exact hn)
  have hxe : x = (if neg then 9223372036854775808 else 0) + rungd N 0 := by
    rw [hx, ofInt_eq, hN, ← hneg]
    exact word_if neg _
  rw [← hx] at hf ⊢
  have hN1 : 1 ≤ N := by omega
  have htx : textOf n = (if neg then [45] else []) ++ Lib.decDigits N := by unfold textOf; rw [hN, hneg]
  rw [htx]
  rw [← hN] at hn
  have hnx := not_nan_of_fin hf.1
  have hVx : (V x).natAbs = N * Uno := by rw [hf.2.1, Int.natAbs_mul, hN]; rfl
  obtain ⟨bl, hbl⟩ : ∃ bl, bl = N.log2 + 1 := ⟨_, rfl⟩
  have k1 : 2 ^ (bl - 1) ≤ N := by rw [hbl, Nat.add_sub_cancel]; exact Nat.log2_self_le (by omega)
  have k2 : N < 2 ^ bl := by rw [hbl]; exact Nat.lt_log2_self
  have hb1 : 1 ≤ bl := by omega
  have hb54 : bl ≤ 54 := by
    rcases Nat.lt_or_ge 54 bl with h | h
    · have h2 : 2 ^ 54 ≤ 2 ^ (bl - 1) := Nat.pow_le_pow_right (by decide) (by omega)
      have h3 : (2 : Nat) ^ 54 = 18014398509481984 := rfl
      omega
    · exact h
  have hps := pow_split bl hb1 (by omega)
  obtain ⟨M, hM⟩ : ∃ M, M = N * 2 ^ (64 - bl) := ⟨_, rfl⟩
  have hM0 : 9223372036854775808 ≤ M := by rw [hM, ← hps]; exact Nat.mul_le_mul_right _ k1
  have hM1 : M < 18446744073709551616 := by
    have h3 : M < 2 ^ bl * 2 ^ (64 - bl) := by rw [hM]; exact Nat.mul_lt_mul_of_pos_right k2 (Nat.two_pow_pos _)
    rw [← Nat.pow_add, show bl + (64 - bl) = 64 by omega] at h3
    exact h3
  have hMm : M % 2048 = 0 := by
    by_cases h54 : bl = 54
    · subst h54
      have : (2 : Nat) ^ (54 - 1) = 9007199254740992 := by decide
      have e : N = 9007199254740992 := by omega
      rw [hM, e]
    · rw [hM, show 64 - bl = (53 - bl) + 11 by omega, Nat.pow_add, ← Nat.mul_assoc]
      exact Nat.mul_mod_left _ _
  obtain ⟨m, hm⟩ : ∃ m, M = m * 2048 := ⟨M / 2048, by omega⟩
  have hrg := rung_int N bl m hb1 hb54 hn (by rw [← hM, hm]) (by omega) (by omega)
  obtain ⟨r, hrr⟩ : ∃ r, r = rungd N 0 := ⟨_, rfl⟩
  rw [← hrr] at hrg hr hxe
  have hrlt : r < 9218868437227405312 := hr.2
  have hP : Parts x (if neg then 1 else 0) ((if neg then 2048 else 0) + (bl + 1022)) (bl + 1022) (m - 4503599627370496) neg :=
    parts_of x (bl + 1022) (m - 4503599627370496) neg (by rw [hxe, hrg]; omega) (by omega) (by omega)
  have hxlt : x < 18446744073709551616 := by rw [hxe]; cases neg <;> simp <;> omega
  have hxa : x % 9223372036854775808 = r := by rw [hxe]; cases neg <;> simp <;> omega
  have hA := andnot_sign x hxlt
  rw [hxa] at hA
  have hVr : V r = ((N * Uno : Nat) : Int) := by rw [V_bits r (by omega), hr.1]
  have hnr : ¬ nan r := by
    have : mg r = r := Nat.mod_eq_of_lt (show r < 2 ^ 63 by have : (2 : Nat) ^ 63 = 9223372036854775808 := rfl; omega)
    unfold nan; rw [this]; omega
  have hU := one_pos
  have hNU : Uno ≤ N * Uno := Nat.le_mul_of_pos_left _ hN1
  have hNU2 : N * Uno ≤ 9007199254740992 * Uno := Nat.mul_le_mul_right _ hn
  have q1 := big_max
  have q2 := big_e21
  have q3 := small_e6
  have q4 := V_bits 9218868437227405311 (by decide)
  have q5 := V_bits 4921056587992461136 (by decide)
  have q6 := V_bits 4517329193108106637 (by decide)
  have q7 := V_NM
  have n1 : ¬ nan 18442240474082181119 := by decide
  have n2 : ¬ nan 9218868437227405311 := by decide
  have n3 : ¬ nan 4921056587992461136 := by decide
  have n4 : ¬ nan 4517329193108106637 := by decide
  have n5 : ¬ nan 0 := by decide
  have o1 : FloatKind.f64.format.order x 18442240474082181119 = some .gt := order_gt hnx n1 (by rw [q7]; omega)
  have o2 : FloatKind.f64.format.order x 9218868437227405311 = some .lt := order_lt hnx n2 (by rw [q4]; omega)
  have o3 : FloatKind.f64.format.order r 0 = some .gt := order_gt hnr n5 (by rw [V_zero, hVr]; omega)
  have o4 : (FloatKind.f64.format.order r 4517329193108106637 == some .lt) = false := by
    have := lt_eq hnr n4
    rw [decide_eq_false (by rw [q6, hVr]; omega)] at this
    exact this
  have o5 : FloatKind.f64.format.order r 4921056587992461136 = some .lt := order_lt hnr n3 (by rw [q5, hVr]; omega)
  obtain ⟨d, q, hGv, hd, hS⟩ := short_int N bl hb1 k1 k2 hb54 hn
  rw [← hM] at hS
  have hd1 : 1 ≤ d := by
    rcases hGv with ⟨z, _, _, e⟩ | ⟨_, e⟩
    · rw [e]; exact Nat.mul_pos hN1 (Nat.pow_pos (by decide))
    · omega
  have hq : -16 ≤ q ∧ q ≤ 1 := by
    rcases hGv with ⟨z, hz, e, _⟩ | ⟨e, _⟩ <;> omega
  have hbm : Lib.bitLen m = 53 := bitLen_of m 52 (by have : (2 : Nat) ^ 52 = 4503599627370496 := rfl; omega) (by have : (2 : Nat) ^ (52 + 1) = 9007199254740992 := rfl; omega) (by have : (2 : Nat) ^ 64 = 18446744073709551616 := rfl; omega)
  refine enc_f b E x x x r true false (fun L => L = (if neg then [45] else []) ++ Lib.decDigits N) w hbE hbk hB hA (order_self hnx) (max_no x o1) (min_no x o2) (by rw [o3]; rfl) o4 rfl (by rw [o5]; rfl) (fun w1 h1 h2 h3 => ?_)
  refine app_out (b + 1) E x 102 _ _ w w1 ?_
  refine ft_f_n (b + 1) E x _ _ _ _ m 11 M d (Lib.nDigits d) neg ((bl : Int) - 12) ((bl : Int) - 64) q ((Lib.nDigits d : Int) + q) _ _ w w1 hP (by omega) (by omega) (by omega) (by rw [hbm]; rfl) (by omega) (by rw [hm]; simp) hM1 (by simp; omega) (by omega) hd1 (by omega) rfl (by omega) (by omega) rfl h2 h1 (by omega) h3 HT (fun w2 e1 e2 => hS w2 (HP.below e1 hG)) (fun D k w2 e1 e2 e3 e4 e5 e6 e7 e8 e9 e10 => ?_)
  obtain ⟨rz, z1, z2, z3⟩ := whole_digits N d (Lib.nDigits d) k q hN1 hGv rfl e3 e4 e5 e6
  have h20 := Lib.nDigits_le20 N (by omega)
  have h21 := Lib.nDigits_le20 d (by omega)
  have e0 : max ((k : Int) - ((Lib.nDigits d : Int) + q)) 0 = 0 := by omega
  rw [e0, z1]
  refine (ff_whole E D (Lib.nDigits d) d k (k + rz) rz _ neg w2 e8 e7 e2 e3 e4 h21 rfl (by omega)).mono ?_
  rintro r1 w3 ⟨L, g1, g2, g3, g4⟩
  exact ⟨L, g1, by rw [g2, List.append_assoc, z3], g3, e9.trans (below_of_grown g4 (by omega) e10)⟩
end Go.Proofs.YtkincdcknmdboaaDoor
