/- For instants (s, n) with s within 2^40 and n a count of nanoseconds below 1e9, timeToEpoch lies in [s, s+1] and never decreases as the instant advances; no further condition. -/
import Derived.Test.YtiomakknhaiikaaRows
import Derived.WalkKit
import Derived.ProofKit
import Derived.OpenShut
import Derived.WalkSpells
import Derived.WalkLawsBesides
import Derived.Outline
import Derived.Lib.Hide
import Derived.Test.YtiomakknhaiikaaW1
import Derived.Test.YtiomakknhaiikaaL1
import Derived.Test.YtiomakknhaiikaaCom
namespace Go.Proofs.Ytiomakknhaiikaa.fnTimeToEpochMonotoneAndBracketed
open Go.ChangeShapes Go.WideShapes Go.ChangeAt Go.RowKit
set_option linter.unusedVariables false      -- a walk need not use every 'w<i>' (that an integer argument fits its kind)

theorem own : ownKnob Try.prog.godebug = none := by kernel_rfl

theorem walk (a0 : Int) (a1 : Int) (a2 : Int) (a3 : Int) (w0 : (Lit.int .i64 a0).wf = true) (w1 : (Lit.int .i64 a1).wf = true) (w2 : (Lit.int .i64 a2).wf = true) (w3 : (Lit.int .i64 a3).wf = true) (w : World) :
    Calls Try.prog 5 #[.int .i64 a0, .int .i64 a1, .int .i64 a2, .int .i64 a3] w fun e w' => e = .returned (.bool true) ∧ Below w.heap.size w w' := by
  by_cases c0 : a0 < -1099511627776
  · have t0 : decide (a0 < -1099511627776) = true := by simp; omega
    go_enter Try.func5, Try.ntmps5
    go_wp2
    go_ret
    exact ⟨rfl, Below.refl _ _⟩
  have t0 : decide (a0 < -1099511627776) = false := by simp; omega
  by_cases c1 : 1099511627776 < a0
  · have t1 : decide (a0 > 1099511627776) = true := by simp; omega
    go_enter Try.func5, Try.ntmps5
    go_wp2
    go_ret
    exact ⟨rfl, Below.refl _ _⟩
  have t1 : decide (a0 > 1099511627776) = false := by simp; omega
  by_cases c2 : a2 < -1099511627776
  · have t2 : decide (a2 < -1099511627776) = true := by simp; omega
    go_enter Try.func5, Try.ntmps5
    go_wp2
    go_ret
    exact ⟨rfl, Below.refl _ _⟩
  have t2 : decide (a2 < -1099511627776) = false := by simp; omega
  by_cases c3 : 1099511627776 < a2
  · have t3 : decide (a2 > 1099511627776) = true := by simp; omega
    go_enter Try.func5, Try.ntmps5
    go_wp2
    go_ret
    exact ⟨rfl, Below.refl _ _⟩
  have t3 : decide (a2 > 1099511627776) = false := by simp; omega
  by_cases c4 : a1 < 0
  · have t4 : decide (a1 < 0) = true := by simp; omega
    go_enter Try.func5, Try.ntmps5
    go_wp2
    go_ret
    exact ⟨rfl, Below.refl _ _⟩
  have t4 : decide (a1 < 0) = false := by simp; omega
  by_cases c5 : 1000000000 ≤ a1
  · have t5 : decide (a1 ≥ 1000000000) = true := by simp; omega
    go_enter Try.func5, Try.ntmps5
    go_wp2
    go_ret
    exact ⟨rfl, Below.refl _ _⟩
  have t5 : decide (a1 ≥ 1000000000) = false := by simp; omega
  by_cases c6 : a3 < 0
  · have t6 : decide (a3 < 0) = true := by simp; omega
    go_enter Try.func5, Try.ntmps5
    go_wp2
    go_ret
    exact ⟨rfl, Below.refl _ _⟩
  have t6 : decide (a3 < 0) = false := by simp; omega
  by_cases c7 : 1000000000 ≤ a3
  · have t7 : decide (a3 ≥ 1000000000) = true := by simp; omega
    go_enter Try.func5, Try.ntmps5
    go_wp2
    go_ret
    exact ⟨rfl, Below.refl _ _⟩
  have t7 : decide (a3 ≥ 1000000000) = false := by simp; omega
  have b1 : -1099511627776 ≤ a0 := by omega
  have b2 : a0 ≤ 1099511627776 := by omega
  have b3 : -1099511627776 ≤ a2 := by omega
  have b4 : a2 ≤ 1099511627776 := by omega
  have d1 : 0 ≤ a1 := by omega
  have d2 : a1 < 1000000000 := by omega
  have d3 : 0 ≤ a3 := by omega
  have d4 : a3 < 1000000000 := by omega
  clear c0 c1 c2 c3 c4 c5 c6 c7
  obtain ⟨q1, r1, hq1, hr1, n1, f1, v1, l1, u1⟩ := value_law b1 b2 d1 d2
  obtain ⟨q2, r2, hq2, hr2, n2, f2, v2, l2, u2⟩ := value_law b3 b4 d3 d4
  obtain ⟨R1, hR1, N1, V1⟩ := succ_law b1 b2
  obtain ⟨R2, hR2, N2, V2⟩ := succ_law b3 b4
  have e1 : (FloatKind.f64.format.order r1 (floatOfInt .f64 a0) == some .lt) = false := by
    have hf := Flt.ofInt_fin (n := a0) (by omega)
    show (Ieee.double.order r1 (Flt.ofInt a0) == some .lt) = false
    rw [Flt.lt_eq n1 (Flt.not_nan_of_fin hf.1), hf.2.1, v1]
    have := low_law b1 b2 l1
    simp; omega
  have e2 : (FloatKind.f64.format.order r2 (floatOfInt .f64 a2) == some .lt) = false := by
    have hf := Flt.ofInt_fin (n := a2) (by omega)
    show (Ieee.double.order r2 (Flt.ofInt a2) == some .lt) = false
    rw [Flt.lt_eq n2 (Flt.not_nan_of_fin hf.1), hf.2.1, v2]
    have := low_law b3 b4 l2
    simp; omega
  have e3 : (FloatKind.f64.format.order r1 R1 == some .gt) = false := by
    show (Ieee.double.order r1 R1 == some .gt) = false
    rw [Flt.gt_eq n1 N1, V1, v1]
    have := high_law b1 b2 u1
    simp; omega
  have e4 : (FloatKind.f64.format.order r2 R2 == some .gt) = false := by
    show (Ieee.double.order r2 R2 == some .gt) = false
    rw [Flt.gt_eq n2 N2, V2, v2]
    have := high_law b3 b4 u2
    simp; omega
  have le_of : ∀ {x y : Nat}, ¬ Flt.nan x → ¬ Flt.nan y → Flt.V x ≤ Flt.V y → (FloatKind.f64.format.order x y == some .lt || FloatKind.f64.format.order x y == some .eq) = true := by
    intro x y hx hy h
    show (Ieee.double.order x y == some .lt || Ieee.double.order x y == some .eq) = true
    rw [Flt.lt_eq hx hy, Flt.eq_eq hx hy]
    simp; omega
  have HA := Lib.hid (fun w => ZZ_any a0 a1 q1 r1 w (by omega) (by omega) (by omega) (by omega) (by rw [show a1 % 1000000000 = a1 by omega]; exact hq1) (by rw [show a0 + a1 / 1000000000 = a0 by omega]; exact hr1))
  have HB := Lib.hid (fun w => ZZ_any a2 a3 q2 r2 w (by omega) (by omega) (by omega) (by omega) (by rw [show a3 % 1000000000 = a3 by omega]; exact hq2) (by rw [show a2 + a3 / 1000000000 = a2 by omega]; exact hr2))
  have H1 := fun w => run_float_arith (P := Try.prog) w .add 22 .f64 _ _ _ hR1
  have H2 := fun w => run_float_arith (P := Try.prog) w .add 22 .f64 _ _ _ hR2
  have key : (a0 < a2 ∨ (a0 = a2 ∧ a1 ≤ a3)) ∨ (a2 < a0 ∨ (a2 = a0 ∧ a3 ≤ a1)) := by omega
  have up : (a0 < a2 ∨ (a0 = a2 ∧ a1 ≤ a3)) → (FloatKind.f64.format.order r1 r2 == some .lt || FloatKind.f64.format.order r1 r2 == some .eq) = true :=
    fun h => le_of n1 n2 (mono_law b1 b2 b3 b4 d1 d2 d3 d4 hq1 hq2 v1 v2 l1 u1 l2 h)
  have dn : (a2 < a0 ∨ (a2 = a0 ∧ a3 ≤ a1)) → (FloatKind.f64.format.order r2 r1 == some .lt || FloatKind.f64.format.order r2 r1 == some .eq) = true :=
    fun h => le_of n2 n1 (mono_law b3 b4 b1 b2 d3 d4 d1 d2 hq2 hq1 v2 v1 l2 u2 l1 h)
  clear le_of v1 v2 V1 V2 N1 N2 n1 n2 f1 f2 l1 l2 u1 u2 hq1 hq2 hr1 hr2 hR1 hR2 key
  by_cases k1 : a0 < a2
  · have g := up (Or.inl k1)
    have s1 : decide (a0 < a2) = true := by simp; omega
    clear up dn
    go_enter Try.func5, Try.ntmps5
    go_wp2_with fail
    refine (HA.out _).mono ?_
    rintro x w1 ⟨rfl, hb1⟩
    go_wp2_with fail
    refine (HB.out _).mono ?_
    rintro x w2 ⟨rfl, hb2⟩
    go_wp2
    go_ret
    exact ⟨rfl, hb1.trans (hb2.mono hb1.size)⟩
  have s1 : decide (a0 < a2) = false := by simp; omega
  by_cases k2 : a0 = a2
  · have s2 : (a0 == a2) = true := by simp; omega
    by_cases k3 : a1 ≤ a3
    · have g := up (Or.inr ⟨k2, k3⟩)
      have s3 : decide (a1 ≤ a3) = true := by simp; omega
      clear up dn
      have K2 := Lib.hid k2
      clear k2
      go_enter Try.func5, Try.ntmps5
      go_wp2_with fail
      refine (HA.out _).mono ?_
      rintro x w1 ⟨rfl, hb1⟩
      go_wp2_with fail
      refine (HB.out _).mono ?_
      rintro x w2 ⟨rfl, hb2⟩
      go_wp2
      go_ret
      exact ⟨rfl, hb1.trans (hb2.mono hb1.size)⟩
    have g := dn (Or.inr ⟨k2.symm, by omega⟩)
    have s3 : decide (a1 ≤ a3) = false := by simp; omega
    clear up dn
    have K2 := Lib.hid k2
    clear k2
    go_enter Try.func5, Try.ntmps5
    go_wp2_with fail
    refine (HA.out _).mono ?_
    rintro x w1 ⟨rfl, hb1⟩
    go_wp2_with fail
    refine (HB.out _).mono ?_
    rintro x w2 ⟨rfl, hb2⟩
    go_wp2
    go_ret
    exact ⟨rfl, hb1.trans (hb2.mono hb1.size)⟩
  have s2 : (a0 == a2) = false := by simp; omega
  have g := dn (Or.inl (by omega))
  clear up dn
  go_enter Try.func5, Try.ntmps5
  go_wp2_with fail
  refine (HA.out _).mono ?_
  rintro x w1 ⟨rfl, hb1⟩
  go_wp2_with fail
  refine (HB.out _).mono ?_
  rintro x w2 ⟨rfl, hb2⟩
  go_wp2
  go_ret
  exact ⟨rfl, hb1.trans (hb2.mono hb1.size)⟩

set_option maxRecDepth 100000 in
theorem lifted (os : Os) (started : os.Started) (H : Type) (enc : TypeId × Value → H) :
    ReturnsInHanded {} Try.checked os 5 .any (Rows.fnTimeToEpochMonotoneAndBracketedSpec.pre6 enc Try.prog Try.f5 Rows.fnTimeToEpochMonotoneAndBracketedRow.domain false) (Rows.fnTimeToEpochMonotoneAndBracketedSpec.post enc Try.prog Try.f5 false true false false) := by
  refine returnsInHanded_of_change (C := Try.checked) own started (by kernel_rfl) Try.func5
    (ChangeSpec.witness6 (enc := enc) (C := Try.checked) false ⟨#[], #[.int .i64 0, .int .i64 0, .int .i64 0, .int .i64 0], []⟩ 8 (by kernel_rfl) (by kernel_rfl) (by kernel_rfl) (by kernel_rfl)) ?_
  intro W base args ds gs before hval0 hW hcnd _
  have hval : ∀ (j : Nat) t v, Try.f5.params[j]? = some t → args[j]? = some v → Value.okWide Try.prog W .any base t v := hval0
  have hW' := hW
  obtain ⟨p, q, hA0, hV, rfl, hfz, hnd⟩ := hW
  have hA : DataW.TrodAll enc Try.prog W 0 (fun _ => true) true Try.f5.params.toList args.toList ds p := hA0
  rw [Try.params5] at hA hval
  obtain ⟨v0, vs0, d0, ds0, p0, q0, hargs, rfl, rfl, h0, r0⟩ := trodAll_cons hA
  obtain ⟨v1, vs1, d1, ds1, p1, q1, rfl, rfl, rfl, h1, r1⟩ := trodAll_cons r0
  obtain ⟨v2, vs2, d2, ds2, p2, q2, rfl, rfl, rfl, h2, r2⟩ := trodAll_cons r1
  obtain ⟨v3, vs3, d3, ds3, p3, q3, rfl, rfl, rfl, h3, r3⟩ := trodAll_cons r2
  obtain ⟨rfl, rfl, rfl⟩ := trodAll_nil r3
  obtain rfl : args = #[v0, v1, v2, v3] := by cases args; simp_all
  obtain ⟨rfl, rfl⟩ := trodVars_none hV
  obtain ⟨a0, rfl, rfl, rfl, w0⟩ := open_int Try.underlying2 (hval 0 2 v0 rfl rfl) h0
  obtain ⟨a1, rfl, rfl, rfl, w1⟩ := open_int Try.underlying2 (hval 1 2 v1 rfl rfl) h1
  obtain ⟨a2, rfl, rfl, rfl, w2⟩ := open_int Try.underlying2 (hval 2 2 v2 rfl rfl) h2
  obtain ⟨a3, rfl, rfl, rfl, w3⟩ := open_int Try.underlying2 (hval 3 2 v3 rfl rfl) h3
  clear hA0 hval0
  simp only [List.append_nil] at hW'
  refine (walk a0 a1 a2 a3 w0 w1 w2 w3 W).mono fun e W' ⟨he, hg⟩ => ?_
  subst he
  exact ⟨_, rfl, post_below (pa := []) (pv := []) hW' (fun _ _ _ => (trodAll_cons_mk (shut_bool Try.underlying4 _) trodAll_mk0)) (fun sp _ => (trodAll_cons_mk (shut_int Try.underlying2 w0) (trodAll_cons_mk (shut_int Try.underlying2 w1) (trodAll_cons_mk (shut_int Try.underlying2 w2) (trodAll_cons_mk (shut_int Try.underlying2 w3) trodAll_mk0))))) (fun _ _ => rfl) rfl hg⟩

theorem over : Rows.fnTimeToEpochMonotoneAndBracketedRow.holds Try.pinned (OpenSpec.ofChange Rows.fnTimeToEpochMonotoneAndBracketedSpec) :=
  OpenClaim.holds_of_wide 5 Try.f5 rfl rfl rfl rfl rfl rfl rfl ⟨rfl, rfl, rfl, rfl, rfl⟩ rfl rfl rfl rfl rfl (by kernel_rfl) Try.func5 (by kernel_rfl)
    (of_decide_eq_true (by kernel_rfl)) (by unfold Func.isWrapper; first | (rw [if_pos (by decide +kernel)]; kernel_rfl) | (rw [if_neg (by decide +kernel)]; exact ⟨rfl, rfl⟩))
    (fun os started H enc _ => lifted os started H enc)

theorem proved : Rows.FnTimeToEpochMonotoneAndBracketedSaid :=
  over
#print axioms proved
end Go.Proofs.Ytiomakknhaiikaa.fnTimeToEpochMonotoneAndBracketed
