/- toIntCeil accepts every int unchanged and every float64 with the least integer not below it, clamped; no further condition. -/
import Derived.Test.YtiljejgchmockaaGreatDoorRows
import Derived.Test.YtiljejgchmockaaGreatDoorTie
import Derived.Test.YtiljejgchmockaaGreatDoorCards
import Derived.WalkKit
import Derived.ProofKit
import Derived.OpenShut
import Derived.WalkSpells
import Derived.WalkLawsBesides
import Derived.Outline
import Derived.Lib.Hide
import Derived.ShutString
import Derived.Laws.Cover2
import Derived.LaidMore
import Derived.Lay
import Derived.SevenTiedAt
import Derived.Stop.Joined
import Derived.OpenVars
import Derived.Test.YtiljejgchmockaaGreatDoorCI
import Derived.Test.YtiljejgchmockaaGreatDoorCom
namespace Go.Proofs.YtiljejgchmockaaGreatDoor.fnToIntCeilCaseTable
open Go.ChangeShapes Go.WideShapes Go.ChangeAt Go.RowKit
open Go.ChangeMaps (open_string shut_string)
set_option linter.unusedVariables false

theorem own : ownKnob Tryz.prog.godebug = none := by kernel_rfl
theorem laidOut : laidOutB Tryz.prog = true := by kernel_rfl

theorem zf (x : Nat) (w : World) : Calls Tryz.prog 6 #[.float .f64 x] w fun r w' => r = .returned (.int .i64 (fti x)) ∧ w = w' := by
  go_enter Tryz.func6, Tryz.ntmps6
  go_wp2_with (go_at_call 11; refine (floatToInt_any x _).mono ?_; rintro r w2 ⟨rfl, rfl⟩)
  go_ret
  exact ⟨rfl, rfl⟩
theorem zcf (x : Nat) (w : World) : Calls Tryz.prog 7 #[.float .f64 x] w fun r w' => r = .returned (.tuple #[.int .i64 (tci x), .bool true]) ∧ Below w.heap.size w w' := by
  go_enter Tryz.func7, Tryz.ntmps7
  go_wp2_with (go_at_call 12; refine (toIntCeil_float x _).mono ?_; rintro r w2 ⟨rfl, hb⟩)
  go_ret2
  exact ⟨rfl, hb⟩
theorem zci (n : Int) (w : World) : Calls Tryz.prog 8 #[.int .i64 n] w fun r w' => r = .returned (.tuple #[.int .i64 n, .bool true]) ∧ w = w' := by
  go_enter Tryz.func8, Tryz.ntmps8
  go_wp2_with (go_at_call 12; refine (toIntCeil_int n _).mono ?_; rintro r w2 ⟨rfl, rfl⟩)
  go_ret2
  exact ⟨rfl, rfl⟩
theorem z64 (w : World) : Calls Tryz.prog 5 #[] w fun r w' => r = .returned (.bool true) ∧ w = w' := by
  go_enter Tryz.func5, Tryz.ntmps5
  go_wp2
  go_ret
  exact ⟨rfl, rfl⟩
theorem zmax (w : World) : Calls Tryz.prog 10 #[] w fun r w' => r = .returned (.int .i64 9223372036854775807) ∧ w = w' := by
  go_enter Tryz.func10, Tryz.ntmps10
  go_wp2
  go_ret
  exact ⟨rfl, rfl⟩
theorem zmin (w : World) : Calls Tryz.prog 9 #[] w fun r w' => r = .returned (.int .i64 (-9223372036854775808)) ∧ w = w' := by
  go_enter Tryz.func9, Tryz.ntmps9
  go_wp2_with (go_at_call 10; refine (zmax _).mono ?_; rintro r w2 ⟨rfl, rfl⟩)
  go_ret
  exact ⟨rfl, rfl⟩

theorem walk (x : Nat) (n : Int) (w0 : (Lit.float .f64 x).wf = true) (w1 : (Lit.int .i64 n).wf = true) (w : World) :
    Calls Tryz.prog 4 #[.float .f64 x, .int .i64 n] w fun e w' => e = .returned (.bool true) ∧ Below w.heap.size w w' := by
  have hp := Flt.one_pos
  have hall := fti_all x
  have hn : (n != n) = false := by simp
  by_cases h : Flt.nan x
  · have t1 := o_self_nan h
    have t2 : (tci x == -9223372036854775808) = true := by rw [tci_nan h]; rfl
    clear h w0
    go_enter Tryz.func4, Tryz.ntmps4
    go_wp2_with (first | (go_at_call 5; refine (z64 _).mono ?_; rintro r w2 ⟨rfl, rfl⟩) | (go_at_call 7; refine (zcf _ _).mono ?_; rintro r w1 ⟨rfl, hb⟩) | (go_at_call 8; refine (zci _ _).mono ?_; rintro r w2 ⟨rfl, rfl⟩) | (go_at_call 9; refine (zmin _).mono ?_; rintro r w2 ⟨rfl, rfl⟩) | (go_at_call 10; refine (zmax _).mono ?_; rintro r w2 ⟨rfl, rfl⟩))
    go_ret
    exact ⟨rfl, hb⟩
  have t0 := o_self h
  by_cases h1 : 9223372036854775808 * (Flt.Uno : Int) ≤ Flt.V x
  · have t1 : (FloatKind.f64.format.order x 4890909195324358656 == some .gt || FloatKind.f64.format.order x 4890909195324358656 == some .eq) = true := by
      rw [o_ge h n63, V_63]; exact decide_eq_true (by omega)
    have t2 : (tci x == 9223372036854775807) = true := by rw [tci_big h (Or.inl (by omega)), fti_high h h1]; rfl
    clear h h1 w0
    go_enter Tryz.func4, Tryz.ntmps4
    go_wp2_with (first | (go_at_call 5; refine (z64 _).mono ?_; rintro r w2 ⟨rfl, rfl⟩) | (go_at_call 7; refine (zcf _ _).mono ?_; rintro r w1 ⟨rfl, hb⟩) | (go_at_call 8; refine (zci _ _).mono ?_; rintro r w2 ⟨rfl, rfl⟩) | (go_at_call 9; refine (zmin _).mono ?_; rintro r w2 ⟨rfl, rfl⟩) | (go_at_call 10; refine (zmax _).mono ?_; rintro r w2 ⟨rfl, rfl⟩))
    go_ret
    exact ⟨rfl, hb⟩
  have t1 : (FloatKind.f64.format.order x 4890909195324358656 == some .gt || FloatKind.f64.format.order x 4890909195324358656 == some .eq) = false := by
    rw [o_ge h n63, V_63]; exact decide_eq_false (by omega)
  by_cases h2 : Flt.V x < -(9223372036854775808 * (Flt.Uno : Int))
  · have t2 : (FloatKind.f64.format.order x 14114281232179134464 == some .lt) = true := by
      rw [o_lt h nm63, V_m63]; exact decide_eq_true (by omega)
    have t3 : (tci x == -9223372036854775808) = true := by rw [tci_big h (Or.inr (by omega)), fti_low h h2]; rfl
    clear h h1 h2 w0
    go_enter Tryz.func4, Tryz.ntmps4
    go_wp2_with (first | (go_at_call 5; refine (z64 _).mono ?_; rintro r w2 ⟨rfl, rfl⟩) | (go_at_call 7; refine (zcf _ _).mono ?_; rintro r w1 ⟨rfl, hb⟩) | (go_at_call 8; refine (zci _ _).mono ?_; rintro r w2 ⟨rfl, rfl⟩) | (go_at_call 9; refine (zmin _).mono ?_; rintro r w2 ⟨rfl, rfl⟩) | (go_at_call 10; refine (zmax _).mono ?_; rintro r w2 ⟨rfl, rfl⟩))
    go_ret
    exact ⟨rfl, hb⟩
  have t2 : (FloatKind.f64.format.order x 14114281232179134464 == some .lt) = false := by
    rw [o_lt h nm63, V_m63]; exact decide_eq_false (by omega)
  by_cases h3 : 4503599627370496 * (Flt.Uno : Int) ≤ Flt.V x
  · have t3 : (FloatKind.f64.format.order x 4841369599423283200 == some .gt || FloatKind.f64.format.order x 4841369599423283200 == some .eq) = true := by
      rw [o_ge h n52, V_52]; exact decide_eq_true (by omega)
    have hb := fti_big h (by omega) (by omega) (Or.inl h3)
    have hbt := fti_bd h (by omega) (by omega)
    rw [← tci_big h (Or.inl h3)] at hb hbt
    have t4 : (FloatKind.f64.format.order (floatOfInt .f64 (tci x)) x == some .eq) = true := by
      show (FloatKind.f64.format.order (Flt.ofInt (tci x)) x == some .eq) = true
      rw [o_eq hb.1 h, hb.2]; exact decide_eq_true rfl
    clear h h1 h2 h3 hb w0
    go_enter Tryz.func4, Tryz.ntmps4
    go_wp2_with (first | (go_at_call 5; refine (z64 _).mono ?_; rintro r w2 ⟨rfl, rfl⟩) | (go_at_call 7; refine (zcf _ _).mono ?_; rintro r w1 ⟨rfl, hb⟩) | (go_at_call 8; refine (zci _ _).mono ?_; rintro r w2 ⟨rfl, rfl⟩) | (go_at_call 9; refine (zmin _).mono ?_; rintro r w2 ⟨rfl, rfl⟩) | (go_at_call 10; refine (zmax _).mono ?_; rintro r w2 ⟨rfl, rfl⟩))
    go_ret
    exact ⟨rfl, hb⟩
  have t3 : (FloatKind.f64.format.order x 4841369599423283200 == some .gt || FloatKind.f64.format.order x 4841369599423283200 == some .eq) = false := by
    rw [o_ge h n52, V_52]; exact decide_eq_false (by omega)
  by_cases h4 : Flt.V x ≤ -(4503599627370496 * (Flt.Uno : Int))
  · have t4 : (FloatKind.f64.format.order x 14064741636278059008 == some .lt || FloatKind.f64.format.order x 14064741636278059008 == some .eq) = true := by
      rw [o_le h nm52, V_m52]; exact decide_eq_true (by omega)
    have hb := fti_big h (by omega) (by omega) (Or.inr h4)
    rw [← tci_big h (Or.inr h4)] at hb
    have t5 : (FloatKind.f64.format.order (floatOfInt .f64 (tci x)) x == some .eq) = true := by
      show (FloatKind.f64.format.order (Flt.ofInt (tci x)) x == some .eq) = true
      rw [o_eq hb.1 h, hb.2]; exact decide_eq_true rfl
    clear h h1 h2 h3 h4 hb w0
    go_enter Tryz.func4, Tryz.ntmps4
    go_wp2_with (first | (go_at_call 5; refine (z64 _).mono ?_; rintro r w2 ⟨rfl, rfl⟩) | (go_at_call 7; refine (zcf _ _).mono ?_; rintro r w1 ⟨rfl, hb⟩) | (go_at_call 8; refine (zci _ _).mono ?_; rintro r w2 ⟨rfl, rfl⟩) | (go_at_call 9; refine (zmin _).mono ?_; rintro r w2 ⟨rfl, rfl⟩) | (go_at_call 10; refine (zmax _).mono ?_; rintro r w2 ⟨rfl, rfl⟩))
    go_ret
    exact ⟨rfl, hb⟩
  have t4 : (FloatKind.f64.format.order x 14064741636278059008 == some .lt || FloatKind.f64.format.order x 14064741636278059008 == some .eq) = false := by
    rw [o_le h nm52, V_m52]; exact decide_eq_false (by omega)
  obtain ⟨sb, sp, sn⟩ := fti_small h (by omega) (by omega)
  have ts := tci_small h (by omega) (by omega)
  have tb : (tci x).natAbs ≤ 4503599627370497 := by
    rcases (show Flt.V x ≤ 0 ∨ 0 < Flt.V x by omega) with c | c
    · rw [ts.1 c]; omega
    · by_cases c2 : fti x * (Flt.Uno : Int) = Flt.V x
      · rw [ts.2.1 c c2]; omega
      · rw [ts.2.2 c c2]; omega
  have f0 := Flt.ofInt_fin (n := tci x) (by omega)
  have f1 := Flt.ofInt_fin (n := 1) (by decide)
  have e1 : Flt.ofInt 1 = 4607182418800017408 := by decide +kernel
  obtain ⟨sw, hsw, swn, swv⟩ := Flt.sub_V f0.1 f1.1
  rw [f0.2.1, f1.2.1, ← Int.sub_mul, Flt.rnd_int (by omega)] at swv
  rw [e1] at hsw
  have HS := fun w => run_float_arith (P := Tryz.prog) w .sub 22 .f64 _ _ _ (show floatBits .sub .f64 (floatOfInt .f64 (tci x)) 4607182418800017408 = some sw from hsw)
  have bb : -9223372036854775800 ≤ tci x ∧ tci x ≤ 9223372036854775800 := by omega
  by_cases h5 : 0 < Flt.V x
  · have t5 : (FloatKind.f64.format.order x 0 == some .gt) = true := by
      rw [o_gt h n0, V_zero]; exact decide_eq_true h5
    obtain ⟨g1, g2, g3⟩ := sp (by omega)
    rw [Int.add_mul, Int.one_mul] at g3
    have key : 1 ≤ tci x ∧ Flt.V x ≤ tci x * (Flt.Uno : Int) ∧ (tci x - 1) * (Flt.Uno : Int) < Flt.V x := by
      by_cases c2 : fti x * (Flt.Uno : Int) = Flt.V x
      · rw [ts.2.1 h5 c2, Int.sub_mul, Int.one_mul]
        refine ⟨?_, by omega, by omega⟩
        refine Decidable.byContradiction fun hle => ?_
        have z : fti x = 0 := by omega
        rw [z, Int.zero_mul] at c2; omega
      · rw [ts.2.2 h5 c2, Int.sub_mul, Int.add_mul, Int.one_mul]
        exact ⟨by omega, by omega, by omega⟩
    have t6 : decide (tci x ≥ 1) = true := decide_eq_true key.1
    have t7 : (FloatKind.f64.format.order (floatOfInt .f64 (tci x)) x == some .gt || FloatKind.f64.format.order (floatOfInt .f64 (tci x)) x == some .eq) = true := by
      show (FloatKind.f64.format.order (Flt.ofInt (tci x)) x == some .gt || FloatKind.f64.format.order (Flt.ofInt (tci x)) x == some .eq) = true
      rw [o_ge (Flt.not_nan_of_fin f0.1) h, f0.2.1]; exact decide_eq_true key.2.1
    have t8 : (FloatKind.f64.format.order sw x == some .lt) = true := by
      rw [o_lt swn h, swv]; exact decide_eq_true key.2.2
    clear h h1 h2 h3 h4 h5 sb sp sn ts tb f0 f1 e1 hsw swn swv g1 g2 g3 key hall w0
    go_enter Tryz.func4, Tryz.ntmps4
    go_wp2_with (first | (go_at_call 5; refine (z64 _).mono ?_; rintro r w2 ⟨rfl, rfl⟩) | (go_at_call 7; refine (zcf _ _).mono ?_; rintro r w1 ⟨rfl, hb⟩) | (go_at_call 8; refine (zci _ _).mono ?_; rintro r w2 ⟨rfl, rfl⟩) | (go_at_call 9; refine (zmin _).mono ?_; rintro r w2 ⟨rfl, rfl⟩) | (go_at_call 10; refine (zmax _).mono ?_; rintro r w2 ⟨rfl, rfl⟩))
    go_ret
    exact ⟨rfl, hb⟩
  have t5 : (FloatKind.f64.format.order x 0 == some .gt) = false := by
    rw [o_gt h n0, V_zero]; exact decide_eq_false (by omega)
  obtain ⟨g1, g2, g3⟩ := sn (by omega)
  rw [← ts.1 (by omega)] at g1 g2 g3
  have t6 : decide (tci x ≤ 0) = true := decide_eq_true g1
  have t7 : (FloatKind.f64.format.order (floatOfInt .f64 (tci x)) x == some .gt || FloatKind.f64.format.order (floatOfInt .f64 (tci x)) x == some .eq) = true := by
    show (FloatKind.f64.format.order (Flt.ofInt (tci x)) x == some .gt || FloatKind.f64.format.order (Flt.ofInt (tci x)) x == some .eq) = true
    rw [o_ge (Flt.not_nan_of_fin f0.1) h, f0.2.1]; exact decide_eq_true g3
  have t8 : (FloatKind.f64.format.order sw x == some .lt) = true := by
    rw [o_lt swn h, swv]; exact decide_eq_true g2
  clear h h1 h2 h3 h4 h5 sb sp sn ts tb f0 f1 e1 hsw swn swv g1 g2 g3 hall w0
  go_enter Tryz.func4, Tryz.ntmps4
  go_wp2_with (first | (go_at_call 5; refine (z64 _).mono ?_; rintro r w2 ⟨rfl, rfl⟩) | (go_at_call 7; refine (zcf _ _).mono ?_; rintro r w1 ⟨rfl, hb⟩) | (go_at_call 8; refine (zci _ _).mono ?_; rintro r w2 ⟨rfl, rfl⟩) | (go_at_call 9; refine (zmin _).mono ?_; rintro r w2 ⟨rfl, rfl⟩) | (go_at_call 10; refine (zmax _).mono ?_; rintro r w2 ⟨rfl, rfl⟩))
  go_ret
  exact ⟨rfl, hb⟩

set_option maxRecDepth 100000 in
theorem lifted (os : Os) (started : os.Started) (H : Type) (enc : TypeId × Value → H) :
    ReturnsInHanded {} Tryz.checked os 4 .any (fun w args => (Rows.fnToIntCeilCaseTableSpec.pre enc Tryz.prog Tryz.f4 Rows.fnToIntCeilCaseTableRow.domain false w args ∧ laidMetH Tryz.prog Rows.fnToIntCeilCaseTableRow.laid w) ∧ sizedMet enc Tryz.prog Tryz.f4 (OpenSpec.ofChange Rows.fnToIntCeilCaseTableSpec) false w args)
      (Rows.fnToIntCeilCaseTableSpec.post enc Tryz.prog Tryz.f4 false true false false) := by
  refine returnsInHanded_of_change_and (C := Tryz.checked) (X := fun w _ => laidMetH Tryz.prog Rows.fnToIntCeilCaseTableRow.laid w) (fun _ _ _ hh h => h.of_heap hh) own started (by kernel_rfl) Tryz.func4
    (ChangeSpec.witness_shaped (enc := enc) (C := Tryz.checked) (os := os) (X := fun w _ => laidMetH Tryz.prog Rows.fnToIntCeilCaseTableRow.laid w) false (World.laidAll Tryz.prog os Rows.fnToIntCeilCaseTableRow.laid) #[.float .f64 0, .int .i64 0] 8 (World.laidAll_os _ _ _)
      (World.shaped_of_ZipB (by kernel_rfl) (by kernel_rfl)) (by kernel_rfl) (by kernel_rfl) (by kernel_rfl)
      (by rw [MakeChecks.laidMetH_plain _ _ _ (by kernel_rfl)]; exact laidMet_laidAll _ (by kernel_rfl) (by kernel_rfl))) ?_
  intro W base args ds gs before hval0 hW hcnd _ hL _
  have hval : ∀ (j : Nat) t v, Tryz.f4.params[j]? = some t → args[j]? = some v → Value.okWide Tryz.prog W .any base t v := hval0
  have hW' := hW
  obtain ⟨p, q, hA0, hV0, rfl, hfz, hnd⟩ := hW
  have hA : DataW.TrodAll enc Tryz.prog W 0 (fun _ => true) true Tryz.f4.params.toList args.toList ds p := hA0
  rw [Tryz.params4] at hA hval
  obtain ⟨v0, vs0, d0, ds0, p0, q0, hargs, rfl, rfl, h0, r0⟩ := trodAll_cons hA
  obtain ⟨v1, vs1, d1, ds1, p1, q1, rfl, rfl, rfl, h1, r1⟩ := trodAll_cons r0
  obtain ⟨rfl, rfl, rfl⟩ := trodAll_nil r1
  obtain rfl : args = #[v0, v1] := by cases args; simp_all
  have hgl := trodVars_len hV0
  obtain ⟨g1, g2, rfl⟩ := len2 gs hgl
  obtain ⟨x, rfl, rfl, rfl, w0⟩ := open_float Tryz.underlying22 (hval 0 22 v0 rfl rfl) h0
  obtain ⟨n, rfl, rfl, rfl, w1⟩ := open_int Tryz.underlying3 (hval 1 3 v1 rfl rfl) h1
  clear hA0 hval0
  simp only [List.append_nil, List.nil_append] at hW'
  refine (walk x n w0 w1 W).mono fun e W' ⟨he, hg⟩ => ?_
  subst he
  exact ⟨_, rfl, post_belowV (pa := []) (pv := q) hW' (fun _ _ _ => (trodAll_cons_mk (shut_bool Tryz.underlying4 _) trodAll_mk0)) (fun sp _ => (trodAll_cons_mk (shut_float Tryz.underlying22 w0) (trodAll_cons_mk (shut_int Tryz.underlying3 w1) trodAll_mk0))) (hg.trodVars laidOut (by kernel_rfl) hV0) rfl hg⟩

theorem holds : Rows.FnToIntCeilCaseTableSaid :=
  OpenClaim.holds_of_wide 4 Tryz.f4 rfl rfl rfl rfl rfl rfl rfl ⟨rfl, rfl, rfl, rfl, rfl⟩ rfl rfl rfl rfl rfl (by kernel_rfl) Tryz.func4 (by kernel_rfl)
    (of_decide_eq_true (by kernel_rfl)) (by unfold Func.isWrapper; first | (rw [if_pos (by decide +kernel)]; kernel_rfl) | (rw [if_neg (by decide +kernel)]; exact ⟨rfl, rfl⟩))
    (fun os started H enc _ => lifted os started H enc)

theorem card_holds : Rows.FnToIntCeilCaseTableCardSaid :=
  Claim7.holds_tied_plain_at .later [] _ _ _ _ holds (fun _ h => by cases h) (by kernel_rfl) (fun _ h => by cases h) fnToIntCeilCaseTable_row_tie rfl ⟨rfl, rfl⟩ (by kernel_rfl) rfl
    (fun f fn hf hfn => by
      obtain rfl : f = 4 := Option.some.inj ((show Tryz.prog.funcNamed "github.com/itchyny/gojq/n001_105.FnToIntCeilCaseTable" = some 4 by kernel_rfl).symm.trans hf) |>.symm
      obtain rfl : fn = Tryz.f4 := (Option.some.inj (Tryz.func4.symm.trans hfn)).symm
      exact ⟨by kernel_rfl, fun j t ht => by
        rw [Tryz.params4] at ht
        have hm : t ∈ [22, 3] := by simpa using Array.mem_of_getElem? ht
        have hall : ([22, 3].all fun u => !Tryz.prog.wantsStandIn u) = true := by kernel_rfl
        exact (show Tryz.prog.wantsStandIn t = false by simpa using List.all_eq_true.1 hall t hm)⟩)
    (by kernel_rfl)
#print axioms card_holds
end Go.Proofs.YtiljejgchmockaaGreatDoor.fnToIntCeilCaseTable
