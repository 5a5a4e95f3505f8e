/- A float is the same as itself; the strings' bound. -/
import Derived.Test.YteabecjcjlcolaaGreatDoorTF
import Derived.Test.YteabecjcjlcolaaGreatDoorPZ
import Derived.Test.YteabecjcjlcolaaGreatDoorPB
import Derived.Test.YteabecjcjlcolaaGreatDoorIZ
namespace Go.Proofs.YteabecjcjlcolaaGreatDoor
open Go.RowKit Flt
set_option linter.unusedVariables false

theorem V_nought {f : Nat} (hf : f < 18446744073709551616) (h : V f = 0) : f = 0 ∨ f = 9223372036854775808 := by
  have h2 := abs_V f
  rw [h] at h2
  have h3 : vr (mg f) = vr 0 := by rw [vr_zero]; exact h2.symm
  have h4 := vr_inj h3
  unfold mg at h4
  omega

set_option maxRecDepth 100000 in
theorem same_self (f : Nat) (hf : f < 18446744073709551616) (w : World) :
    Calls Tryz.prog 14 #[.float .f64 f, .float .f64 f] w fun r w' => r = .returned (.bool true) ∧ Below w.heap.size w w' := by
  by_cases hn : nan f
  · have t := o_self_nan hn
    go_enter Tryz.func14, Tryz.ntmps14
    go_wp2_with fail
    go_ret
    exact ⟨rfl, Below.refl _ _⟩
  · have t := o_self hn
    by_cases h0 : f = 0
    · subst h0
      have q := fun (w : World) (t : TypeId) => run_float_arith (P := Tryz.prog) w .quo t .f64 4607182418800017408 0 9218868437227405312 (by decide +kernel)
      have t1 : (FloatKind.f64.format.order 9218868437227405312 0 == some .lt) = false := by decide +kernel
      have t2 : (FloatKind.f64.format.order 0 0 == some .eq) = true := by decide +kernel
      go_enter Tryz.func14, Tryz.ntmps14
      go_wp2_with fail
      go_ret
      exact ⟨rfl, Below.refl _ _⟩
    by_cases h1 : f = 9223372036854775808
    · subst h1
      have q := fun (w : World) (t : TypeId) => run_float_arith (P := Tryz.prog) w .quo t .f64 4607182418800017408 9223372036854775808 18442240474082181120 (by decide +kernel)
      have t1 : (FloatKind.f64.format.order 18442240474082181120 0 == some .lt) = true := by decide +kernel
      have t2 : (FloatKind.f64.format.order 9223372036854775808 0 == some .eq) = true := by decide +kernel
      go_enter Tryz.func14, Tryz.ntmps14
      go_wp2_with fail
      go_ret
      exact ⟨rfl, Below.refl _ _⟩
    have t2 : (FloatKind.f64.format.order f 0 == some .eq) = false := by
      rw [o_eq hn n0, V_zero]
      exact decide_eq_false fun e => (V_nought hf e).elim h0 h1
    go_enter Tryz.func14, Tryz.ntmps14
    go_wp2_with fail
    go_ret
    exact ⟨rfl, Below.refl _ _⟩

theorem zb_yes (i : Int) (f : Nat) (s : ByteArray) (b : Bool) (w : World) (hs : s.size ≤ 1048576) :
    Calls Tryz.prog 11 #[.int .i64 i, .float .f64 f, .string s, .bool b] w fun r w' => r = .returned (.bool true) ∧ w = w' := by
  have t1 : decide ((s.size : Int) > 1048576) = false := by simp; omega
  go_enter Tryz.func11, Tryz.ntmps11
  go_wp2
  go_ret
  exact ⟨rfl, rfl⟩
theorem zb_no (i : Int) (f : Nat) (s : ByteArray) (b : Bool) (w : World) (hs : ¬ s.size ≤ 1048576) :
    Calls Tryz.prog 11 #[.int .i64 i, .float .f64 f, .string s, .bool b] w fun r w' => r = .returned (.bool false) ∧ w = w' := by
  have t1 : decide ((s.size : Int) > 1048576) = true := by simp; omega
  go_enter Tryz.func11, Tryz.ntmps11
  go_wp2
  go_ret
  exact ⟨rfl, rfl⟩
end Go.Proofs.YteabecjcjlcolaaGreatDoor
