/- What unrounded scaling gives: bounds. Plain Lean. -/
import Derived.Test.YtkincdcknmdboaaDoorPS
namespace Go.Proofs.YtkincdcknmdboaaDoor
open Go
set_option linter.unusedVariables false

theorem usc_lt (x hi lo s : Nat) (hx : x < 18446744073709551616) (hhi : hi < 18446744073709551616) (hs : 3 ≤ s) : usc x hi lo s < 2305843009213693952 := by
  have hlt : x * hi / 18446744073709551616 < 18446744073709551616 := Nat.div_lt_of_lt_mul (Nat.mul_lt_mul'' hx hhi)
  have h8 : 2 ^ 3 ≤ 2 ^ s := Nat.pow_le_pow_right (by decide) hs
  have hd : ∀ h, h < 18446744073709551616 → h / 2 ^ s < 2 ^ 61 := by
    intro h hh
    refine Nat.div_lt_of_lt_mul ?_
    have h2 := Nat.mul_le_mul_right (2 ^ 61) h8
    omega
  unfold usc
  split
  · refine Nat.or_lt_two_pow (n := 61) (hd _ (by omega)) ?_
    split <;> omega
  · exact Nat.or_lt_two_pow (n := 61) (hd _ hlt) (by omega)

theorem usc_ge (x hi lo s : Nat) : (x * hi / 18446744073709551616 - 1) / 2 ^ s ≤ usc x hi lo s := by
  unfold usc
  split
  · refine Nat.le_trans (Nat.div_le_div_right ?_) Nat.left_le_or
    split <;> omega
  · exact Nat.le_trans (Nat.div_le_div_right (Nat.sub_le _ _)) Nat.left_le_or

theorem hprod_ge (x hi : Nat) (hx : 4611686018427387904 ≤ x) (hh : 9223372036854775808 ≤ hi) : 2305843009213693952 ≤ x * hi / 18446744073709551616 := by
  rw [Nat.le_div_iff_mul_le (by decide)]
  exact Nat.le_trans (by decide) (Nat.mul_le_mul hx hh)

theorem usc_seven (x hi lo s : Nat) (hx : 4611686018427387904 ≤ x) (hh : 9223372036854775808 ≤ hi) (hs : s ≤ 58) : 7 ≤ usc x hi lo s := by
  refine Nat.le_trans ?_ (usc_ge x hi lo s)
  rw [Nat.le_div_iff_mul_le (Nat.two_pow_pos s)]
  have h1 := hprod_ge x hi hx hh
  have h2 : 2 ^ s ≤ 2 ^ 58 := Nat.pow_le_pow_right (by decide) hs
  omega

/-- the shortest decimal between the two neighbours -/
def shortR (um un ux odd : Nat) (p : Int) : Nat × Int :=
  if (un + odd + 3) / 4 ≤ (ux - odd) / 4 / 10 * 10 then ((ux - odd) / 4 / 10, -(p - 1))
  else if (un + odd + 3) / 4 < (ux - odd) / 4 then ((um + 1 + um / 4 % 2) / 4, -p)
  else ((un + odd + 3) / 4, -p)
end Go.Proofs.YtkincdcknmdboaaDoor
