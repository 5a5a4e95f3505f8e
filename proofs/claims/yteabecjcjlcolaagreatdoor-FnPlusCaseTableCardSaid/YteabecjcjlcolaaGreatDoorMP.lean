/- The walk of maxPow at ten. -/
import Derived.Test.YteabecjcjlcolaaGreatDoorBS
import Derived.LoopTactic
namespace Go.Proofs.YteabecjcjlcolaaGreatDoor
open Go.RowKit
set_option linter.unusedVariables false

theorem pow_le18 {n P : Nat} (h : P = 10 ^ n) (hp : P ≤ 1844674407370955161) : n ≤ 18 := by
  refine Nat.le_of_not_lt fun c => ?_
  have : 10 ^ 19 ≤ 10 ^ n := Nat.pow_le_pow_right (by decide) c
  omega

set_option maxRecDepth 100000 in
theorem maxPow_ten (w : World) : Calls Tryz.prog 36 #[.int .u64 10] w fun r w' => r = .returned (.tuple #[.int .u64 10000000000000000000, .int .i64 19]) ∧ w = w' := by
  go_enter Tryz.func36, Tryz.ntmps36
  go_wp2
  go_loop [2, 3] (fun vp vn => ∃ P n : Nat, vp = .int .u64 (P : Int) ∧ vn = .int .i64 (n : Int) ∧ n ≤ 19 ∧ 1 ≤ P ∧ P ≤ 18446744073709551615 ∧ Hid (P = 10 ^ n)) (fun _ vn => 20 - (intOf vn).toNat)
  case atStart => exact ⟨10, 1, rfl, rfl, by omega, by omega, by omega, Lib.hid rfl⟩
  case round =>
    obtain ⟨P, n, rfl, rfl, hn, hp0, hp1, HP⟩ := hrel
    by_cases hle : P ≤ 1844674407370955161
    · have hn2 := pow_le18 HP.out hle
      have e2 : IntKind.u64.wrap ((P : Int) * 10) = (P : Int) * 10 := by rw [IntKind.wrap_u64]; omega
      have HP2 : Hid (P * 10 = 10 ^ (n + 1)) := Lib.hid (by rw [HP.out, Nat.pow_succ])
      go_wp2
      go_round
      case rel => exact ⟨P * 10, n + 1, by simp, by go_num, by omega, by omega, by omega, HP2⟩
      case measure => simp [intOf]; omega
    · have hn19 : n = 19 := by
        rcases Nat.lt_or_ge n 19 with c | c
        · exfalso
          have h1 : 10 ^ n ≤ 10 ^ 18 := Nat.pow_le_pow_right (by decide) (by omega)
          have := HP.out
          omega
        · omega
      subst hn19
      have hP : P = 10000000000000000000 := HP.out
      subst hP
      clear HP
      go_wp2
      go_ret2
      exact ⟨rfl, rfl⟩
end Go.Proofs.YteabecjcjlcolaaGreatDoor
