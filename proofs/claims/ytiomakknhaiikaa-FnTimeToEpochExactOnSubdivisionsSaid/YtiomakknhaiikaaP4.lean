/- For every second within 2^40 and every count k of 1/512 seconds within 2^16, timeToEpoch at (sec, k*1953125 nanoseconds) is exactly sec + k/512; no further condition. -/
import Derived.Test.YtiomakknhaiikaaRows
import Derived.WalkKit
import Derived.ProofKit
import Derived.OpenShut
import Derived.WalkSpells
import Derived.WalkLawsBesides
import Derived.Outline
import Derived.Lib.Hide
import Derived.Test.YtiomakknhaiikaaW1
import Derived.Test.YtiomakknhaiikaaL1
import Derived.Test.YtiomakknhaiikaaCom
namespace Go.Proofs.Ytiomakknhaiikaa.fnTimeToEpochExactOnSubdivisions
open Go.ChangeShapes Go.WideShapes Go.ChangeAt Go.RowKit
set_option linter.unusedVariables false      -- a walk need not use every 'w<i>' (that an integer argument fits its kind)

theorem own : ownKnob Try.prog.godebug = none := by kernel_rfl

theorem walk (a0 : Int) (a1 : Int) (w0 : (Lit.int .i64 a0).wf = true) (w1 : (Lit.int .i64 a1).wf = true) (w : World) :
    Calls Try.prog 3 #[.int .i64 a0, .int .i64 a1] w fun e w' => e = .returned (.bool true) ∧ Below w.heap.size w w' := by
  by_cases c1 : a0 < -1099511627776
  · have t1 : decide (a0 < -1099511627776) = true := by simp; omega
    go_enter Try.func3, Try.ntmps3
    go_wp2
    go_ret
    exact ⟨rfl, Below.refl _ _⟩
  have t1 : decide (a0 < -1099511627776) = false := by simp; omega
  by_cases c2 : 1099511627776 < a0
  · have t2 : decide (a0 > 1099511627776) = true := by simp; omega
    go_enter Try.func3, Try.ntmps3
    go_wp2
    go_ret
    exact ⟨rfl, Below.refl _ _⟩
  have t2 : decide (a0 > 1099511627776) = false := by simp; omega
  by_cases c3 : a1 < -65536
  · have t3 : decide (a1 < -65536) = true := by simp; omega
    go_enter Try.func3, Try.ntmps3
    go_wp2
    go_ret
    exact ⟨rfl, Below.refl _ _⟩
  have t3 : decide (a1 < -65536) = false := by simp; omega
  by_cases c4 : 65536 < a1
  · have t4 : decide (a1 > 65536) = true := by simp; omega
    go_enter Try.func3, Try.ntmps3
    go_wp2
    go_ret
    exact ⟨rfl, Below.refl _ _⟩
  have t4 : decide (a1 > 65536) = false := by simp; omega
  have b1 : -1099511627776 ≤ a0 := by omega
  have b2 : a0 ≤ 1099511627776 := by omega
  have b3 : -65536 ≤ a1 := by omega
  have b4 : a1 ≤ 65536 := by omega
  obtain ⟨q, r, d, R, hq, hr, hd, hR, hEq⟩ := exact_law b1 b2 b3 b4
  have HZ := Lib.hid (fun w => ZZ_any a0 (a1 * 1953125) q r w (by omega) (by omega) (by omega) (by omega) hq hr)
  have Hd := fun w => run_float_arith (P := Try.prog) w .quo 22 .f64 _ _ _ hd
  have HR := fun w => run_float_arith (P := Try.prog) w .add 22 .f64 _ _ _ hR
  clear hq hr hd hR c1 c2 c3 c4
  go_enter Try.func3, Try.ntmps3
  go_wp2_with (go_at_call 6; refine (HZ.out _).mono ?_; rintro x w1 ⟨rfl, hb1⟩)
  go_ret
  exact ⟨rfl, hb1⟩

set_option maxRecDepth 100000 in
theorem lifted (os : Os) (started : os.Started) (H : Type) (enc : TypeId × Value → H) :
    ReturnsInHanded {} Try.checked os 3 .any (Rows.fnTimeToEpochExactOnSubdivisionsSpec.pre6 enc Try.prog Try.f3 Rows.fnTimeToEpochExactOnSubdivisionsRow.domain false) (Rows.fnTimeToEpochExactOnSubdivisionsSpec.post enc Try.prog Try.f3 false true false false) := by
  refine returnsInHanded_of_change (C := Try.checked) own started (by kernel_rfl) Try.func3
    (ChangeSpec.witness6 (enc := enc) (C := Try.checked) false ⟨#[], #[.int .i64 0, .int .i64 0], []⟩ 8 (by kernel_rfl) (by kernel_rfl) (by kernel_rfl) (by kernel_rfl)) ?_
  intro W base args ds gs before hval0 hW hcnd _
  have hval : ∀ (j : Nat) t v, Try.f3.params[j]? = some t → args[j]? = some v → Value.okWide Try.prog W .any base t v := hval0
  have hW' := hW
  obtain ⟨p, q, hA0, hV, rfl, hfz, hnd⟩ := hW
  have hA : DataW.TrodAll enc Try.prog W 0 (fun _ => true) true Try.f3.params.toList args.toList ds p := hA0
  rw [Try.params3] at hA hval
  obtain ⟨v0, vs0, d0, ds0, p0, q0, hargs, rfl, rfl, h0, r0⟩ := trodAll_cons hA
  obtain ⟨v1, vs1, d1, ds1, p1, q1, rfl, rfl, rfl, h1, r1⟩ := trodAll_cons r0
  obtain ⟨rfl, rfl, rfl⟩ := trodAll_nil r1
  obtain rfl : args = #[v0, v1] := by cases args; simp_all
  obtain ⟨rfl, rfl⟩ := trodVars_none hV
  obtain ⟨a0, rfl, rfl, rfl, w0⟩ := open_int Try.underlying2 (hval 0 2 v0 rfl rfl) h0
  obtain ⟨a1, rfl, rfl, rfl, w1⟩ := open_int Try.underlying2 (hval 1 2 v1 rfl rfl) h1
  clear hA0 hval0
  simp only [List.append_nil] at hW'
  refine (walk a0 a1 w0 w1 W).mono fun e W' ⟨he, hg⟩ => ?_
  subst he
  exact ⟨_, rfl, post_below (pa := []) (pv := []) hW' (fun _ _ _ => (trodAll_cons_mk (shut_bool Try.underlying4 _) trodAll_mk0)) (fun sp _ => (trodAll_cons_mk (shut_int Try.underlying2 w0) (trodAll_cons_mk (shut_int Try.underlying2 w1) trodAll_mk0))) (fun _ _ => rfl) rfl hg⟩

theorem over : Rows.fnTimeToEpochExactOnSubdivisionsRow.holds Try.pinned (OpenSpec.ofChange Rows.fnTimeToEpochExactOnSubdivisionsSpec) :=
  OpenClaim.holds_of_wide 3 Try.f3 rfl rfl rfl rfl rfl rfl rfl ⟨rfl, rfl, rfl, rfl, rfl⟩ rfl rfl rfl rfl rfl (by kernel_rfl) Try.func3 (by kernel_rfl)
    (of_decide_eq_true (by kernel_rfl)) (by unfold Func.isWrapper; first | (rw [if_pos (by decide +kernel)]; kernel_rfl) | (rw [if_neg (by decide +kernel)]; exact ⟨rfl, rfl⟩))
    (fun os started H enc _ => lifted os started H enc)

theorem proved : Rows.FnTimeToEpochExactOnSubdivisionsSaid :=
  over
#print axioms proved
end Go.Proofs.Ytiomakknhaiikaa.fnTimeToEpochExactOnSubdivisions
