/- For every epoch s + k/512 with s within 2^40 and 0 <= k < 512, epochToArray at UTC is the broken-down time of the instant that it lands on, as the proleptic Gregorian day count gives it; no further condition. -/
import Derived.Test.YtiomakknhaiikaaRows
import Derived.WalkKit
import Derived.ProofKit
import Derived.OpenShut
import Derived.WalkSpells
import Derived.WalkLawsBesides
import Derived.Outline
import Derived.Lib.Hide
import Derived.Test.YtiomakknhaiikaaW10
import Derived.Test.YtiomakknhaiikaaL8
import Derived.Test.YtiomakknhaiikaaCom
namespace Go.Proofs.Ytiomakknhaiikaa.fnEpochToArrayUTCMatchesCivilModel
open Go.ChangeShapes Go.WideShapes Go.ChangeAt Go.RowKit
set_option linter.unusedVariables false      -- a walk need not use every 'w<i>' (that an integer argument fits its kind)

theorem own : ownKnob Try.prog.godebug = none := by kernel_rfl

theorem walk (a0 : Int) (a1 : Int) (w0 : (Lit.int .i64 a0).wf = true) (w1 : (Lit.int .i64 a1).wf = true) (w : World) :
    Calls Try.prog 4 #[.int .i64 a0, .int .i64 a1] w fun e w' => e = .returned (.bool true) ∧ Below w.heap.size w w' := by
  by_cases c0 : a0 < -1099511627776
  · have t0 : decide (a0 < -1099511627776) = true := by simp; omega
    go_enter Try.func4, Try.ntmps4
    go_wp2
    go_ret
    exact ⟨rfl, Below.refl _ _⟩
  have t0 : decide (a0 < -1099511627776) = false := by simp; omega
  by_cases c1 : 1099511627776 < a0
  · have t1 : decide (a0 > 1099511627776) = true := by simp; omega
    go_enter Try.func4, Try.ntmps4
    go_wp2
    go_ret
    exact ⟨rfl, Below.refl _ _⟩
  have t1 : decide (a0 > 1099511627776) = false := by simp; omega
  by_cases c2 : a1 < 0
  · have t2 : decide (a1 < 0) = true := by simp; omega
    go_enter Try.func4, Try.ntmps4
    go_wp2
    go_ret
    exact ⟨rfl, Below.refl _ _⟩
  have t2 : decide (a1 < 0) = false := by simp; omega
  by_cases c3 : 512 ≤ a1
  · have t3 : decide (a1 ≥ 512) = true := by simp; omega
    go_enter Try.func4, Try.ntmps4
    go_wp2
    go_ret
    exact ⟨rfl, Below.refl _ _⟩
  have t3 : decide (a1 ≥ 512) = false := by simp; omega
  have b1 : -1099511627776 ≤ a0 := by omega
  have b2 : a0 ≤ 1099511627776 := by omega
  have b3 : 0 ≤ a1 := by omega
  have b4 : a1 < 512 := by omega
  clear c0 c1 c2 c3
  obtain ⟨d, v, fl, sb, pr, q, hd, hv, vf, hfl, hsb, hpr, hu, hn, hq, hsec⟩ := epoch_law b1 b2 b3 b4
  have u0 : -1500000000000 ≤ effOf a0 a1 ∧ effOf a0 a1 ≤ 1500000000000 := by unfold effOf; split <;> omega
  have hm : absOf (effOf a0 a1) % 60 = (effOf a0 a1 - zday (effOf a0 a1) * 86400) % 60 := by unfold absOf zday; omega
  obtain ⟨r, R, hr, hR, hEq⟩ := hsec (absOf (effOf a0 a1) % 60) (by omega) (by omega)
  have HZ := Lib.hid (fun w => ZZepoch_any v fl sb pr q r (effOf a0 a1) (a1 * 1953125) w vf hfl hsb hpr hu hn (by omega) (by omega) u0.1 u0.2 hq hr)
  rw [hm] at hR
  have H1 := fun w => run_float_arith (P := Try.prog) w .quo 22 .f64 _ _ _ hd
  have H2 := fun w => run_float_arith (P := Try.prog) w .add 22 .f64 _ _ _ hv
  have H3 := fun w => run_float_arith (P := Try.prog) w .add 22 .f64 _ _ _ hR
  obtain ⟨l1, l2, l3, l4, l5⟩ := Cal.law (zday (effOf a0 a1)) (dayOf (effOf a0 a1)) (by unfold dayOf zday absOf; omega)
  have l2' : Cal.am (Cal.ga (dayOf (effOf a0 a1))) - Cal.jf (Cal.ga (dayOf (effOf a0 a1))) * 12 - 1 = Cal.mm (zday (effOf a0 a1) + 719468) - 1 := by omega
  have l6 : absOf (effOf a0 a1) % 86400 / 3600 = (effOf a0 a1 - zday (effOf a0 a1) * 86400) / 3600 := by unfold absOf zday; omega
  have l7 : absOf (effOf a0 a1) % 3600 / 60 = (effOf a0 a1 - zday (effOf a0 a1) * 86400) % 3600 / 60 := by unfold absOf zday; omega
  have q1 := beq_iff_eq.2 l1
  have q2 := beq_iff_eq.2 l2'
  have q3 := beq_iff_eq.2 l3
  have q4 := beq_iff_eq.2 l4
  have q5 := beq_iff_eq.2 l5
  have q6 := beq_iff_eq.2 l6
  have q7 := beq_iff_eq.2 l7
  clear hd hv vf hfl hsb hpr hu hn hq hsec hr hR hm l1 l2 l2' l3 l4 l5 l6 l7
  go_enter Try.func4, Try.ntmps4
  go_wp2_with (first
    | (go_at_call 7; refine (eff_any a0 a1 _ (by omega)).mono ?_; rintro x w2 ⟨rfl, rfl⟩)
    | (go_at_call 8; refine (HZ.out _).mono ?_; rintro x w1 ⟨rfl, hb1⟩)
    | (go_at_call 9; refine (fields_any (effOf a0 a1) _ (by omega) (by omega)).mono ?_; rintro x w2 ⟨rfl, rfl⟩))
  go_ret
  exact ⟨rfl, hb1⟩

set_option maxRecDepth 100000 in
theorem lifted (os : Os) (started : os.Started) (H : Type) (enc : TypeId × Value → H) :
    ReturnsInHanded {} Try.checked os 4 .any (Rows.fnEpochToArrayUTCMatchesCivilModelSpec.pre6 enc Try.prog Try.f4 Rows.fnEpochToArrayUTCMatchesCivilModelRow.domain false) (Rows.fnEpochToArrayUTCMatchesCivilModelSpec.post enc Try.prog Try.f4 false true false false) := by
  refine returnsInHanded_of_change (C := Try.checked) own started (by kernel_rfl) Try.func4
    (ChangeSpec.witness6 (enc := enc) (C := Try.checked) false ⟨#[], #[.int .i64 0, .int .i64 0], []⟩ 8 (by kernel_rfl) (by kernel_rfl) (by kernel_rfl) (by kernel_rfl)) ?_
  intro W base args ds gs before hval0 hW hcnd _
  have hval : ∀ (j : Nat) t v, Try.f4.params[j]? = some t → args[j]? = some v → Value.okWide Try.prog W .any base t v := hval0
  have hW' := hW
  obtain ⟨p, q, hA0, hV, rfl, hfz, hnd⟩ := hW
  have hA : DataW.TrodAll enc Try.prog W 0 (fun _ => true) true Try.f4.params.toList args.toList ds p := hA0
  rw [Try.params4] at hA hval
  obtain ⟨v0, vs0, d0, ds0, p0, q0, hargs, rfl, rfl, h0, r0⟩ := trodAll_cons hA
  obtain ⟨v1, vs1, d1, ds1, p1, q1, rfl, rfl, rfl, h1, r1⟩ := trodAll_cons r0
  obtain ⟨rfl, rfl, rfl⟩ := trodAll_nil r1
  obtain rfl : args = #[v0, v1] := by cases args; simp_all
  obtain ⟨rfl, rfl⟩ := trodVars_none hV
  obtain ⟨a0, rfl, rfl, rfl, w0⟩ := open_int Try.underlying2 (hval 0 2 v0 rfl rfl) h0
  obtain ⟨a1, rfl, rfl, rfl, w1⟩ := open_int Try.underlying3 (hval 1 3 v1 rfl rfl) h1
  clear hA0 hval0
  simp only [List.append_nil] at hW'
  refine (walk a0 a1 w0 w1 W).mono fun e W' ⟨he, hg⟩ => ?_
  subst he
  exact ⟨_, rfl, post_below (pa := []) (pv := []) hW' (fun _ _ _ => (trodAll_cons_mk (shut_bool Try.underlying4 _) trodAll_mk0)) (fun sp _ => (trodAll_cons_mk (shut_int Try.underlying2 w0) (trodAll_cons_mk (shut_int Try.underlying3 w1) trodAll_mk0))) (fun _ _ => rfl) rfl hg⟩

theorem over : Rows.fnEpochToArrayUTCMatchesCivilModelRow.holds Try.pinned (OpenSpec.ofChange Rows.fnEpochToArrayUTCMatchesCivilModelSpec) :=
  OpenClaim.holds_of_wide 4 Try.f4 rfl rfl rfl rfl rfl rfl rfl ⟨rfl, rfl, rfl, rfl, rfl⟩ rfl rfl rfl rfl rfl (by kernel_rfl) Try.func4 (by kernel_rfl)
    (of_decide_eq_true (by kernel_rfl)) (by unfold Func.isWrapper; first | (rw [if_pos (by decide +kernel)]; kernel_rfl) | (rw [if_neg (by decide +kernel)]; exact ⟨rfl, rfl⟩))
    (fun os started H enc _ => lifted os started H enc)

theorem proved : Rows.FnEpochToArrayUTCMatchesCivilModelSaid :=
  over
#print axioms proved
end Go.Proofs.Ytiomakknhaiikaa.fnEpochToArrayUTCMatchesCivilModel
