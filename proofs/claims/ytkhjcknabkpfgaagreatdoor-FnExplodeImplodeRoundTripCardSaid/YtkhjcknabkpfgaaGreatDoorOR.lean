/- Six bits put behind a number. -/
import Derived.Test.YtkhjcknabkpfgaaGreatDoorB2
namespace Go.Proofs.YtkhjcknabkpfgaaGreatDoor
open Go.RowKit
theorem or_nat (x y : Nat) (h : y < 64) : x * 64 ||| y = x * 64 + y := by
  have := Nat.shiftLeft_add_eq_or_of_lt (i := 6) (show y < 2 ^ 6 by omega) x
  rw [Nat.shiftLeft_eq] at this
  exact this.symm
theorem or_six (x y : Nat) (hx : x < 1000000000) (h : y < 64) : bits .or .i64 ((x * 64 : Nat) : Int) (y : Int) = ((x * 64 + y : Nat) : Int) := by
  rw [← or_nat x y h]
  have h2 : x * 64 ||| y < 2 ^ 63 := by rw [or_nat x y h]; omega
  have hb : IntKind.i64.bits = 64 := rfl
  have e1 : (((x * 64 : Nat) : Int) % 2 ^ 64).toNat = x * 64 := by omega
  have e2 : y % 2 ^ 64 = y := Nat.mod_eq_of_lt (by omega)
  simp [bits, hb]
  rw [Int.natCast_mul] at e1
  rw [show ((x : Int) * 64 % 18446744073709551616).toNat = x * 64 by omega, show y % 18446744073709551616 = y by omega]
  rw [IntKind.wrap_i64]
  have h3 : ((x * 64 ||| y : Nat) : Int) < 9223372036854775808 := by omega
  omega
end Go.Proofs.YtkhjcknabkpfgaaGreatDoor
