/- The walks of floatToInt and of toInt at an int and at a float. -/
import Derived.Test.YthhfmmbealhdfaaGreatDoorRows
import Derived.WalkKit
import Derived.ProofKit
import Derived.OpenShut
import Derived.WalkSpells
import Derived.WalkLawsBesides
import Derived.Outline
import Derived.Lib.Hide
import Derived.Laws.FloatArith
import Derived.Test.YthhfmmbealhdfaaGreatDoorCom
import Derived.Test.YthhfmmbealhdfaaGreatDoorTF
namespace Go.Proofs.YthhfmmbealhdfaaGreatDoor
open Go.RowKit
set_option linter.unusedVariables false

theorem ret_int {k : IntKind} {a b : Int} (h : a = b) : Ending.returned (.int k a) = .returned (.int k b) := by rw [h]

@[go_sem] theorem as_i_i (v : Value) (w : World) : (Instr.typeAssert (.iface 3 v) 20 3 true).run Tryz.prog w = .ok (.tuple #[v, .bool true]) w := by kernel_rfl
@[go_sem] theorem as_f_i (v : Value) (w : World) : (Instr.typeAssert (.iface 22 v) 20 3 true).run Tryz.prog w = .ok (.tuple #[.int .i64 0, .bool false]) w := by kernel_rfl
@[go_sem] theorem as_f_f (v : Value) (w : World) : (Instr.typeAssert (.iface 22 v) 20 22 true).run Tryz.prog w = .ok (.tuple #[v, .bool true]) w := by kernel_rfl

theorem floatToInt_any (x : Nat) (w : World) : Calls Tryz.prog 23 #[.float .f64 x] w fun r w' => r = .returned (.int .i64 (fti x)) ∧ w = w' := by
  by_cases h : Flt.nan x
  · have t1 := o_le_nan (x := 14114281232179134464) (y := x) (Or.inr h)
    have t2 := o_gt_nan (x := x) (y := 0) (Or.inl h)
    have E := Lib.hid (fti_nan h)
    have H := Lib.hid h
    clear h
    go_enter Tryz.func23, Tryz.ntmps23
    go_wp2
    go_ret
    exact ⟨ret_int E.out.symm, rfl⟩
  by_cases h1 : Flt.V x < -(9223372036854775808 * (Flt.Uno : Int))
  · have t1 : (FloatKind.f64.format.order 14114281232179134464 x == some .lt || FloatKind.f64.format.order 14114281232179134464 x == some .eq) = false := by
      rw [o_le nm63 h, V_m63]; exact decide_eq_false (by omega)
    have t2 : (FloatKind.f64.format.order x 0 == some .gt) = false := by
      have := Flt.one_pos
      rw [o_gt h n0, V_zero]; exact decide_eq_false (by omega)
    have E := Lib.hid (fti_low h h1)
    clear h h1
    go_enter Tryz.func23, Tryz.ntmps23
    go_wp2
    go_ret
    exact ⟨ret_int E.out.symm, rfl⟩
  have t1 : (FloatKind.f64.format.order 14114281232179134464 x == some .lt || FloatKind.f64.format.order 14114281232179134464 x == some .eq) = true := by
    rw [o_le nm63 h, V_m63]; exact decide_eq_true (by omega)
  by_cases h2 : 9223372036854775808 * (Flt.Uno : Int) ≤ Flt.V x
  · have t2 : (FloatKind.f64.format.order x 4890909195324358656 == some .lt) = false := by
      rw [o_lt h n63, V_63]; exact decide_eq_false (by omega)
    have t3 : (FloatKind.f64.format.order x 0 == some .gt) = true := by
      have := Flt.one_pos
      rw [o_gt h n0, V_zero]; exact decide_eq_true (by omega)
    have E := Lib.hid (fti_high h h2)
    clear h h1 h2
    go_enter Tryz.func23, Tryz.ntmps23
    go_wp2
    go_ret
    exact ⟨ret_int E.out.symm, rfl⟩
  have t2 : (FloatKind.f64.format.order x 4890909195324358656 == some .lt) = true := by
    rw [o_lt h n63, V_63]; exact decide_eq_true (by omega)
  have hc := fti_conv h (by omega) (by omega)
  have HC := fun w => run_convert_float_int (P := Tryz.prog) w 22 3 .f64 .i64 x (fti x) (by rw [Tryz.underlying22]; rfl) Tryz.underlying3 hc
  clear hc h h1 h2
  go_enter Tryz.func23, Tryz.ntmps23
  go_wp2
  go_ret
  exact ⟨rfl, rfl⟩

theorem toInt_float (x : Nat) (w : World) : Calls Tryz.prog 22 #[.iface 22 (.float .f64 x)] w fun r w' => r = .returned (.tuple #[.int .i64 (fti x), .bool true]) ∧ w = w' := by
  go_enter Tryz.func22, Tryz.ntmps22
  go_wp2_with (go_at_call 23; refine (floatToInt_any x _).mono ?_; rintro r w2 ⟨rfl, rfl⟩)
  go_ret2
  exact ⟨rfl, rfl⟩

theorem toInt_int (n : Int) (w : World) : Calls Tryz.prog 22 #[.iface 3 (.int .i64 n)] w fun r w' => r = .returned (.tuple #[.int .i64 n, .bool true]) ∧ w = w' := by
  go_enter Tryz.func22, Tryz.ntmps22
  go_wp2_with fail
  go_ret2
  exact ⟨rfl, rfl⟩
end Go.Proofs.YthhfmmbealhdfaaGreatDoor
