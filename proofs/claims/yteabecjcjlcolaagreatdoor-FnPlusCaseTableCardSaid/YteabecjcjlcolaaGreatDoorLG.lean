/- math.Log2 at ten. -/
import Derived.Test.YteabecjcjlcolaaGreatDoorRows
import Derived.WalkKit
import Derived.ProofKit
import Derived.OpenShut
import Derived.WalkSpells
import Derived.WalkLawsBesides
import Derived.Outline
import Derived.Laws.FloatArith
import Derived.Test.YteabecjcjlcolaaGreatDoorCom
namespace Go.Proofs.YteabecjcjlcolaaGreatDoor
open Go.RowKit
set_option linter.unusedVariables false

theorem fb10 (w : World) : (callFunc 98 #[.float .f64 4621819117588971520]).run Tryz.prog w = .ok (.value (.int .u64 4621819117588971520)) w := by kernel_rfl
theorem ff10 (w : World) : (callFunc 99 #[.int .u64 4621819117588971520]).run Tryz.prog w = .ok (.value (.float .f64 4621819117588971520)) w := by kernel_rfl
theorem fffrac (w : World) : (callFunc 99 #[.int .u64 4603804719079489536]).run Tryz.prog w = .ok (.value (.float .f64 4603804719079489536)) w := by kernel_rfl
theorem flog (w : World) : (callFunc 69 #[.float .f64 4603804719079489536]).run Tryz.prog w = .ok (.value (.float .f64 13825510489450817230)) w := by kernel_rfl

set_option maxRecDepth 100000 in
theorem abs_ten (w : World) : Calls Tryz.prog 132 #[.float .f64 4621819117588971520] w fun r w' => r = .returned (.float .f64 4621819117588971520) ∧ w = w' := by
  have h1 := fb10
  have h2 := ff10
  have b1 : bits .andNot .u64 4621819117588971520 9223372036854775808 = 4621819117588971520 := by decide +kernel
  go_enter Tryz.func132, Tryz.ntmps132
  go_wp2_with fail
  go_ret
  exact ⟨rfl, rfl⟩

set_option maxRecDepth 100000 in
theorem normalize_ten (w : World) : Calls Tryz.prog 97 #[.float .f64 4621819117588971520] w fun r w' => r = .returned (.tuple #[.float .f64 4621819117588971520, .int .i64 0]) ∧ w = w' := by
  have t1 : (FloatKind.f64.format.order 4621819117588971520 4503599627370496 == some .lt) = false := by decide +kernel
  go_enter Tryz.func97, Tryz.ntmps97
  go_wp2_with (go_at_call 132; refine (abs_ten _).mono ?_; rintro r w2 ⟨rfl, rfl⟩)
  go_ret2
  exact ⟨rfl, rfl⟩

set_option maxRecDepth 100000 in
theorem frexp_ten (w : World) : Calls Tryz.prog 68 #[.float .f64 4621819117588971520] w fun r w' => r = .returned (.tuple #[.float .f64 4603804719079489536, .int .i64 4]) ∧ w = w' := by
  have h1 := fb10
  have h2 := fffrac
  have t1 : (FloatKind.f64.format.order 4621819117588971520 0 == some .eq) = false := by decide +kernel
  have t2 : (FloatKind.f64.format.order 4621819117588971520 9218868437227405311 == some .gt) = false := by decide +kernel
  have t3 : (FloatKind.f64.format.order 4621819117588971520 18442240474082181119 == some .lt) = false := by decide +kernel
  have t4 : (FloatKind.f64.format.order 4621819117588971520 4621819117588971520 != some .eq) = false := by decide +kernel
  have c1 : bits .and .u64 1026 2047 = 1026 := by decide +kernel
  have c2 : bits .andNot .u64 4621819117588971520 9218868437227405312 = 1125899906842624 := by decide +kernel
  have c3 : bits .or .u64 1125899906842624 4602678819172646912 = 4603804719079489536 := by decide +kernel
  go_enter Tryz.func68, Tryz.ntmps68
  go_wp2_with (first | (go_at_call 97; refine (normalize_ten _).mono ?_; rintro r w2 ⟨rfl, rfl⟩) | (go_at_call 132; refine (abs_ten _).mono ?_; rintro r w2 ⟨rfl, rfl⟩) | go_in)
  all_goals first | (go_ret2; exact ⟨rfl, rfl⟩) | (exfalso; simp_all; done)

theorem fmul1 (w : World) : (binOp .mul 29 (.float .f64 13825510489450817230) (.float .f64 4609176140021203710)).run Tryz.prog w = .ok (.float .f64 13827654785158443579) w := by kernel_rfl
theorem fadd1 (w : World) : (binOp .add 29 (.float .f64 13827654785158443579) (.float .f64 4616189618054758400)).run Tryz.prog w = .ok (.float .f64 4614662735865160561) w := by kernel_rfl
theorem fconv4 (w : World) : (convert 3 29 (.int .i64 4)).run Tryz.prog w = .ok (.float .f64 4616189618054758400) w := by kernel_rfl

set_option maxRecDepth 100000 in
theorem log2_ten (w : World) : Calls Tryz.prog 32 #[.float .f64 4621819117588971520] w fun r w' => r = .returned (.float .f64 4614662735865160561) ∧ w = w' := by
  have h1 := flog
  have h2 := fmul1
  have h3 := fadd1
  have h4 := fconv4
  have t1 : (FloatKind.f64.format.order 4603804719079489536 4602678819172646912 == some .eq) = false := by decide +kernel
  go_enter Tryz.func32, Tryz.ntmps32
  go_wp2_with (first | (go_at_call 68; refine (frexp_ten _).mono ?_; rintro r w2 ⟨rfl, rfl⟩) | go_in)
  go_ret
  exact ⟨rfl, rfl⟩
end Go.Proofs.YteabecjcjlcolaaGreatDoor
