/- The bits of a double: its parts, and those of a whole number. -/
import Derived.Test.YtkincdcknmdboaaDoorTF
import Derived.Test.YtkincdcknmdboaaDoorEN
namespace Go.Proofs.YtkincdcknmdboaaDoor
open Go Flt
set_option linter.unusedVariables false
set_option linter.unusedSimpArgs false

theorem andnot_sign (x : Nat) (hx : x < 18446744073709551616) : bits .andNot .u64 (x : Int) 9223372036854775808 = ((x % 9223372036854775808 : Nat) : Int) := by
  have hb : IntKind.u64.bits = 64 := rfl
  have h2 : x &&& 9223372036854775807 = x % 9223372036854775808 := Nat.and_two_pow_sub_one_eq_mod x 63
  have h3 : (BitVec.ofInt 64 (x : Int) &&& ~~~ BitVec.ofInt 64 9223372036854775808).toNat = x % 9223372036854775808 := by
    rw [BitVec.toNat_and, BitVec.ofInt_natCast, BitVec.toNat_ofNat, Nat.mod_eq_of_lt hx, ← h2]
    rfl
  show IntKind.u64.wrap ((BitVec.ofInt 64 (x : Int) &&& ~~~ BitVec.ofInt 64 9223372036854775808).toNat : Int) = _
  rw [h3, IntKind.wrap_u64]
  omega

theorem parts_of (x ee mm : Nat) (neg : Bool) (hx : x = (if neg then 9223372036854775808 else 0) + (ee * 4503599627370496 + mm)) (he : ee < 2047) (hm : mm < 4503599627370496) :
    Parts x (if neg then 1 else 0) ((if neg then 2048 else 0) + ee) ee mm neg := by
  have hx2 : x < 18446744073709551616 := by cases neg <;> simp at hx <;> omega
  refine ⟨?_, ?_, ?_, ?_, ?_, ?_, ?_, he, hm, ?_⟩
  · cases neg <;> simp at hx ⊢ <;> omega
  · cases neg <;> rfl
  · cases neg <;> simp at hx ⊢ <;> omega
  · have w : ∀ n : Int, 0 ≤ n → n < 2 ^ 53 → IntKind.i64.wrap n = n := fun n h0 h1 => by rw [IntKind.wrap_i64]; omega
    have h := bits_mask .i64 53 (by decide) w 11 (by decide) (((if neg then 2048 else 0) + ee : Nat) : Int) (by omega) (by cases neg <;> simp <;> omega)
    have e : ((2 : Int) ^ 11 - 1) = 2047 := by decide
    rw [e] at h
    rw [h]
    cases neg <;> simp <;> omega
  · have w : ∀ n : Int, 0 ≤ n → n < 2 ^ 64 → IntKind.u64.wrap n = n := fun n h0 h1 => by rw [IntKind.wrap_u64]; omega
    have h := bits_mask .u64 64 (by decide) w 52 (by decide) (x : Int) (by omega) (by omega)
    have e : ((2 : Int) ^ 52 - 1) = 4503599627370495 := by decide
    rw [e] at h
    rw [h]
    cases neg <;> simp at hx ⊢ <;> omega
  · have h := or_u64 mm 4503599627370496 (by omega) (by decide)
    have e : mm ||| 4503599627370496 = mm + 4503599627370496 := by
      have h1 := Nat.two_pow_add_eq_or_of_lt (i := 52) (b := mm) hm 1
      rw [Nat.mul_one] at h1
      have e2 : (2 : Nat) ^ 52 = 4503599627370496 := rfl
      rw [e2] at h1
      rw [Nat.or_comm, ← h1, Nat.add_comm]
    rw [e] at h
    exact h
  · cases neg <;> simp <;> omega
  · cases neg <;> simp

theorem rung_int (N bl m : Nat) (hb : 1 ≤ bl) (hb2 : bl ≤ 54) (hN : N ≤ 9007199254740992) (hm : N * 2 ^ (64 - bl) = m * 2048) (hm1 : 4503599627370496 ≤ m) (hm2 : m < 9007199254740992) :
    rungd N 0 = (bl + 1021) * 4503599627370496 + m := by
  obtain ⟨a, ha⟩ : ∃ a : Nat, a = 1074 := ⟨_, rfl⟩
  have h1 := (rungd_int (m := N) hN).1
  have h2 := vr_of (q := bl + 1021) (kept := m) hm2 (Or.inr hm1)
  refine vr_inj (h1.trans ?_)
  refine Eq.trans ?_ h2.symm
  rw [one_eq a ha]
  have h3 : N * 2 ^ a * 2048 = m * 2 ^ (bl + 1021) * 2048 := by
    have e5 : 64 - bl + (bl + 1021) = a + 11 := by omega
    have e6 : (2 : Nat) ^ 11 = 2048 := rfl
    have e7 : 2 ^ (64 - bl) * 2 ^ (bl + 1021) = 2 ^ a * 2048 := by rw [← Nat.pow_add, e5, Nat.pow_add, e6]
    rw [Nat.mul_right_comm m, ← hm, Nat.mul_assoc N (2 ^ (64 - bl)), e7, Nat.mul_assoc N]
  exact Nat.mul_right_cancel (by decide) h3
end Go.Proofs.YtkincdcknmdboaaDoor
