/- Bounds of what the short search gives. Plain Lean. -/
import Derived.Test.YtkincdcknmdboaaDoorCX
namespace Go.Proofs.YtkincdcknmdboaaDoor
open Go
set_option linter.unusedVariables false

theorem shortR_ok (um un ux odd : Nat) (p : Int) (ho : odd < 2) (hm : 7 ≤ um) (hn : 7 ≤ un) (hx : 7 ≤ ux) (hm2 : um < 2305843009213693952) (hn2 : un < 2305843009213693952) (hx2 : ux < 2305843009213693952) :
    1 ≤ (shortR um un ux odd p).1 ∧ (shortR um un ux odd p).1 < 1152921504606846976 ∧ ((shortR um un ux odd p).2 = -p ∨ (shortR um un ux odd p).2 = -(p - 1)) := by
  unfold shortR
  split
  · exact ⟨by show 1 ≤ (ux - odd) / 4 / 10; omega, by show (ux - odd) / 4 / 10 < _; omega, Or.inr rfl⟩
  · split
    · exact ⟨by show 1 ≤ (um + 1 + um / 4 % 2) / 4; omega, by show (um + 1 + um / 4 % 2) / 4 < _; omega, Or.inl rfl⟩
    · exact ⟨by show 1 ≤ (un + odd + 3) / 4; omega, by show (un + odd + 3) / 4 < _; omega, Or.inl rfl⟩

/-- a lower bound, where the three lie far up -/
theorem shortR_ge (um un ux odd b : Nat) (p : Int) (ho : odd < 2) (hm : 40 * b + 44 ≤ um) (hn : 40 * b + 44 ≤ un) (hx : 40 * b + 44 ≤ ux) : b ≤ (shortR um un ux odd p).1 := by
  unfold shortR
  split
  · show b ≤ (ux - odd) / 4 / 10; omega
  · split
    · show b ≤ (um + 1 + um / 4 % 2) / 4; omega
    · show b ≤ (un + odd + 3) / 4; omega

theorem usc_great (x hi lo s : Nat) (hx : 9223372036854774784 ≤ x) (hh : 9223372036854775808 ≤ hi) (hs : s ≤ 8) : 9007199254740992 ≤ usc x hi lo s := by
  refine Nat.le_trans ?_ (usc_ge x hi lo s)
  rw [Nat.le_div_iff_mul_le (Nat.two_pow_pos s)]
  have h1 : 4611686018427387392 ≤ x * hi / 18446744073709551616 := by
    rw [Nat.le_div_iff_mul_le (by decide)]
    exact Nat.le_trans (by decide) (Nat.mul_le_mul hx hh)
  have h2 : 2 ^ s ≤ 2 ^ 8 := Nat.pow_le_pow_right (by decide) hs
  omega
end Go.Proofs.YtkincdcknmdboaaDoor
