/- The walk of nat.bitLen at a number of one word. -/
import Derived.Test.YteabecjcjlcolaaGreatDoorBS
import Derived.Test.YteabecjcjlcolaaGreatDoorSH
import Derived.Laws.Bits64b
import Derived.Lib.ItoaNum
namespace Go.Proofs.YteabecjcjlcolaaGreatDoor
open Go.RowKit
set_option linter.unusedVariables false

theorem or_ge {a b : Int} (a0 : 0 ≤ a) (a1 : a < 18446744073709551616) (b0 : 0 ≤ b) (b1 : b < 18446744073709551616) : ∃ t : Int, bits .or .u64 a b = t ∧ a ≤ t ∧ t < 18446744073709551616 := by
  obtain ⟨x, rfl⟩ := Int.eq_ofNat_of_zero_le a0
  obtain ⟨y, rfl⟩ := Int.eq_ofNat_of_zero_le b0
  refine ⟨_, bits_or_u64_nat x y (by omega) (by omega), ?_, ?_⟩
  · have := Nat.left_le_or (n := x) (m := y)
    omega
  · have : x ||| y < 2 ^ 64 := Nat.or_lt_two_pow (by omega) (by omega)
    omega

set_option maxRecDepth 100000 in
theorem nat_bitLen (c : Nat) (u : Int) (w : World) (hc : w.cell? ⟨c, 0, none⟩ = some (.int .u64 u)) (u0 : 0 < u) (u1 : u < 18446744073709551616) :
    Calls Tryz.prog 31 #[.slice (some ⟨c, 0, none⟩) 1 1] w fun r w' => ∃ L : Nat, r = .returned (.int .i64 (L : Int)) ∧ 1 ≤ L ∧ L ≤ 64 ∧ u.toNat < 2 ^ L ∧ w = w' := by
  obtain ⟨t1, e1, a1, b1⟩ := or_ge (a := u) (b := u / 2) (by omega) (by omega) (by omega) (by omega)
  obtain ⟨t2, e2, a2, b2⟩ := or_ge (a := t1) (b := t1 / 4) (by omega) (by omega) (by omega) (by omega)
  obtain ⟨t3, e3, a3, b3⟩ := or_ge (a := t2) (b := t2 / 16) (by omega) (by omega) (by omega) (by omega)
  obtain ⟨t4, e4, a4, b4⟩ := or_ge (a := t3) (b := t3 / 256) (by omega) (by omega) (by omega) (by omega)
  obtain ⟨t5, e5, a5, b5⟩ := or_ge (a := t4) (b := t4 / 65536) (by omega) (by omega) (by omega) (by omega)
  obtain ⟨t6, e6, a6, b6⟩ := or_ge (a := t5) (b := t5 / 65536 / 65536) (by omega) (by omega) (by omega) (by omega)
  obtain ⟨q1, q2, q3⟩ := Lib.bitLenAux_bounds 64 t6.toNat (by omega) (by omega)
  have HB := Lib.hid (fun w => Tryz.bits_Len t6 w (by omega) (by omega))
  have hq : Lib.bitLen t6.toNat = Lib.bitLenAux 64 t6.toNat := rfl
  rw [hq] at HB
  obtain ⟨L, hL⟩ : ∃ L, L = Lib.bitLenAux 64 t6.toNat := ⟨_, rfl⟩
  rw [← hL] at q1 q2 q3 HB
  have hL64 : L ≤ 64 := by
    refine Nat.le_of_not_lt fun h => ?_
    have : 2 ^ 64 ≤ 2 ^ (L - 1) := Nat.pow_le_pow_right (by decide) (by omega)
    omega
  have HQ : Hid (u.toNat < 2 ^ L) := Lib.hid (by omega)
  clear hL hq q2 q3
  go_enter Tryz.func31, Tryz.ntmps31
  go_wp2_with (go_at_call 40; refine (HB.out _).mono ?_; rintro r w2 ⟨rfl, rfl⟩)
  go_ret
  exact ⟨L, rfl, q1, hL64, HQ.out, rfl⟩
end Go.Proofs.YteabecjcjlcolaaGreatDoor
