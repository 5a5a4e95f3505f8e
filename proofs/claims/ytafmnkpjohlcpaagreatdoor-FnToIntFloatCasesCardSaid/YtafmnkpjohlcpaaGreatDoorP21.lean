/- For every float64 x toInt accepts x and gives the clamped truncation that the statement's table tells; no further condition. -/
import Derived.Test.YtafmnkpjohlcpaaGreatDoorRows
import Derived.Test.YtafmnkpjohlcpaaGreatDoorTie
import Derived.Test.YtafmnkpjohlcpaaGreatDoorCards
import Derived.WalkKit
import Derived.ProofKit
import Derived.OpenShut
import Derived.WalkSpells
import Derived.WalkLawsBesides
import Derived.Outline
import Derived.Lib.Hide
import Derived.ShutString
import Derived.Laws.Cover2
import Derived.LaidMore
import Derived.Lay
import Derived.SevenTiedAt
import Derived.Stop.Joined
import Derived.OpenVars
import Derived.Test.YtafmnkpjohlcpaaGreatDoorTI
import Derived.Test.YtafmnkpjohlcpaaGreatDoorTF
import Derived.Test.YtafmnkpjohlcpaaGreatDoorCom
namespace Go.Proofs.YtafmnkpjohlcpaaGreatDoor.fnToIntFloatCases
open Go.ChangeShapes Go.WideShapes Go.ChangeAt Go.RowKit
open Go.ChangeMaps (open_string shut_string)
set_option linter.unusedVariables false

theorem own : ownKnob Tryz.prog.godebug = none := by kernel_rfl
theorem laidOut : laidOutB Tryz.prog = true := by kernel_rfl

theorem ZZ (x : Nat) (w : World) : Calls Tryz.prog 20 #[.float .f64 x] w fun r w' => r = .returned (.tuple #[.int .i64 (fti x), .bool true]) ∧ w = w' := by
  go_enter Tryz.func20, Tryz.ntmps20
  go_wp2_with (go_at_call 26; refine (toInt_float x _).mono ?_; rintro r w2 ⟨rfl, rfl⟩)
  go_ret2
  exact ⟨rfl, rfl⟩

theorem walk (x : Nat) (w0 : (Lit.float .f64 x).wf = true) (w : World) :
    Calls Tryz.prog 6 #[.float .f64 x] w fun e w' => e = .returned (.bool true) ∧ Below w.heap.size w w' := by
  have hp := Flt.one_pos
  have hall := fti_all x
  by_cases h : Flt.nan x
  · have t1 := o_self_nan h
    have t2 : (fti x == -9223372036854775808) = true := by rw [fti_nan h]; rfl
    clear h w0
    go_enter Tryz.func6, Tryz.ntmps6
    go_wp2_with (go_at_call 20; refine (ZZ _ _).mono ?_; rintro r w2 ⟨rfl, rfl⟩)
    go_ret
    exact ⟨rfl, Below.refl _ _⟩
  have t0 := o_self h
  by_cases h1 : 9223372036854775808 * (Flt.Uno : Int) ≤ Flt.V x
  · have t1 : (FloatKind.f64.format.order x 4890909195324358656 == some .gt || FloatKind.f64.format.order x 4890909195324358656 == some .eq) = true := by
      rw [o_ge h n63, V_63]; exact decide_eq_true (by omega)
    have t2 : (fti x == 9223372036854775807) = true := by rw [fti_high h h1]; rfl
    clear h h1 w0
    go_enter Tryz.func6, Tryz.ntmps6
    go_wp2_with (go_at_call 20; refine (ZZ _ _).mono ?_; rintro r w2 ⟨rfl, rfl⟩)
    go_ret
    exact ⟨rfl, Below.refl _ _⟩
  have t1 : (FloatKind.f64.format.order x 4890909195324358656 == some .gt || FloatKind.f64.format.order x 4890909195324358656 == some .eq) = false := by
    rw [o_ge h n63, V_63]; exact decide_eq_false (by omega)
  by_cases h2 : Flt.V x < -(9223372036854775808 * (Flt.Uno : Int))
  · have t2 : (FloatKind.f64.format.order x 14114281232179134464 == some .lt) = true := by
      rw [o_lt h nm63, V_m63]; exact decide_eq_true (by omega)
    have t3 : (fti x == -9223372036854775808) = true := by rw [fti_low h h2]; rfl
    clear h h1 h2 w0
    go_enter Tryz.func6, Tryz.ntmps6
    go_wp2_with (go_at_call 20; refine (ZZ _ _).mono ?_; rintro r w2 ⟨rfl, rfl⟩)
    go_ret
    exact ⟨rfl, Below.refl _ _⟩
  have t2 : (FloatKind.f64.format.order x 14114281232179134464 == some .lt) = false := by
    rw [o_lt h nm63, V_m63]; exact decide_eq_false (by omega)
  by_cases h3 : 4503599627370496 * (Flt.Uno : Int) ≤ Flt.V x
  · have t3 : (FloatKind.f64.format.order x 4841369599423283200 == some .gt || FloatKind.f64.format.order x 4841369599423283200 == some .eq) = true := by
      rw [o_ge h n52, V_52]; exact decide_eq_true (by omega)
    have hb := fti_big h (by omega) (by omega) (Or.inl h3)
    have t4 : (FloatKind.f64.format.order (floatOfInt .f64 (fti x)) x == some .eq) = true := by
      show (FloatKind.f64.format.order (Flt.ofInt (fti x)) x == some .eq) = true
      rw [o_eq hb.1 h, hb.2]; exact decide_eq_true rfl
    clear h h1 h2 h3 hb w0
    go_enter Tryz.func6, Tryz.ntmps6
    go_wp2_with (go_at_call 20; refine (ZZ _ _).mono ?_; rintro r w2 ⟨rfl, rfl⟩)
    go_ret
    exact ⟨rfl, Below.refl _ _⟩
  have t3 : (FloatKind.f64.format.order x 4841369599423283200 == some .gt || FloatKind.f64.format.order x 4841369599423283200 == some .eq) = false := by
    rw [o_ge h n52, V_52]; exact decide_eq_false (by omega)
  by_cases h4 : Flt.V x ≤ -(4503599627370496 * (Flt.Uno : Int))
  · have t4 : (FloatKind.f64.format.order x 14064741636278059008 == some .lt || FloatKind.f64.format.order x 14064741636278059008 == some .eq) = true := by
      rw [o_le h nm52, V_m52]; exact decide_eq_true (by omega)
    have hb := fti_big h (by omega) (by omega) (Or.inr h4)
    have t5 : (FloatKind.f64.format.order (floatOfInt .f64 (fti x)) x == some .eq) = true := by
      show (FloatKind.f64.format.order (Flt.ofInt (fti x)) x == some .eq) = true
      rw [o_eq hb.1 h, hb.2]; exact decide_eq_true rfl
    clear h h1 h2 h3 h4 hb w0
    go_enter Tryz.func6, Tryz.ntmps6
    go_wp2_with (go_at_call 20; refine (ZZ _ _).mono ?_; rintro r w2 ⟨rfl, rfl⟩)
    go_ret
    exact ⟨rfl, Below.refl _ _⟩
  have t4 : (FloatKind.f64.format.order x 14064741636278059008 == some .lt || FloatKind.f64.format.order x 14064741636278059008 == some .eq) = false := by
    rw [o_le h nm52, V_m52]; exact decide_eq_false (by omega)
  obtain ⟨sb, sp, sn⟩ := fti_small h (by omega) (by omega)
  have f0 := Flt.ofInt_fin (n := fti x) (by omega)
  have fp := Flt.ofInt_fin (n := fti x + 1) (by omega)
  have fm := Flt.ofInt_fin (n := fti x - 1) (by omega)
  have bb : -9223372036854775800 ≤ fti x ∧ fti x ≤ 9223372036854775800 := by omega
  by_cases h5 : 0 ≤ Flt.V x
  · have t5 : (FloatKind.f64.format.order x 0 == some .gt || FloatKind.f64.format.order x 0 == some .eq) = true := by
      rw [o_ge h n0, V_zero]; exact decide_eq_true (by omega)
    obtain ⟨g1, g2, g3⟩ := sp h5
    have t6 : decide (fti x ≥ 0) = true := decide_eq_true (by omega)
    have t7 : (FloatKind.f64.format.order (floatOfInt .f64 (fti x)) x == some .lt || FloatKind.f64.format.order (floatOfInt .f64 (fti x)) x == some .eq) = true := by
      show (FloatKind.f64.format.order (Flt.ofInt (fti x)) x == some .lt || FloatKind.f64.format.order (Flt.ofInt (fti x)) x == some .eq) = true
      rw [o_le (Flt.not_nan_of_fin f0.1) h, f0.2.1]; exact decide_eq_true (by omega)
    have t8 : (FloatKind.f64.format.order x (floatOfInt .f64 (fti x + 1)) == some .lt) = true := by
      show (FloatKind.f64.format.order x (Flt.ofInt (fti x + 1)) == some .lt) = true
      rw [o_lt h (Flt.not_nan_of_fin fp.1), fp.2.1]; exact decide_eq_true (by omega)
    clear h h1 h2 h3 h4 h5 sb sp sn f0 fp fm g1 g2 g3 hall w0
    go_enter Tryz.func6, Tryz.ntmps6
    go_wp2_with (go_at_call 20; refine (ZZ _ _).mono ?_; rintro r w2 ⟨rfl, rfl⟩)
    go_ret
    exact ⟨rfl, Below.refl _ _⟩
  have t5 : (FloatKind.f64.format.order x 0 == some .gt || FloatKind.f64.format.order x 0 == some .eq) = false := by
    rw [o_ge h n0, V_zero]; exact decide_eq_false (by omega)
  obtain ⟨g1, g2, g3⟩ := sn (by omega)
  have t6 : decide (fti x ≤ 0) = true := decide_eq_true (by omega)
  have t7 : (FloatKind.f64.format.order (floatOfInt .f64 (fti x - 1)) x == some .lt) = true := by
    show (FloatKind.f64.format.order (Flt.ofInt (fti x - 1)) x == some .lt) = true
    rw [o_lt (Flt.not_nan_of_fin fm.1) h, fm.2.1]; exact decide_eq_true (by omega)
  have t8 : (FloatKind.f64.format.order x (floatOfInt .f64 (fti x)) == some .lt || FloatKind.f64.format.order x (floatOfInt .f64 (fti x)) == some .eq) = true := by
    show (FloatKind.f64.format.order x (Flt.ofInt (fti x)) == some .lt || FloatKind.f64.format.order x (Flt.ofInt (fti x)) == some .eq) = true
    rw [o_le h (Flt.not_nan_of_fin f0.1), f0.2.1]; exact decide_eq_true (by omega)
  clear h h1 h2 h3 h4 h5 sb sp sn f0 fp fm g1 g2 g3 hall w0
  go_enter Tryz.func6, Tryz.ntmps6
  go_wp2_with (go_at_call 20; refine (ZZ _ _).mono ?_; rintro r w2 ⟨rfl, rfl⟩)
  go_ret
  exact ⟨rfl, Below.refl _ _⟩

set_option maxRecDepth 100000 in
theorem lifted (os : Os) (started : os.Started) (H : Type) (enc : TypeId × Value → H) :
    ReturnsInHanded {} Tryz.checked os 6 .any (fun w args => (Rows.fnToIntFloatCasesSpec.pre enc Tryz.prog Tryz.f6 Rows.fnToIntFloatCasesRow.domain false w args ∧ laidMetH Tryz.prog Rows.fnToIntFloatCasesRow.laid w) ∧ sizedMet enc Tryz.prog Tryz.f6 (OpenSpec.ofChange Rows.fnToIntFloatCasesSpec) false w args)
      (Rows.fnToIntFloatCasesSpec.post enc Tryz.prog Tryz.f6 false true false false) := by
  refine returnsInHanded_of_change_and (C := Tryz.checked) (X := fun w _ => laidMetH Tryz.prog Rows.fnToIntFloatCasesRow.laid w) (fun _ _ _ hh h => h.of_heap hh) own started (by kernel_rfl) Tryz.func6
    (ChangeSpec.witness_shaped (enc := enc) (C := Tryz.checked) (os := os) (X := fun w _ => laidMetH Tryz.prog Rows.fnToIntFloatCasesRow.laid w) false (World.laidAll Tryz.prog os Rows.fnToIntFloatCasesRow.laid) #[.float .f64 0] 8 (World.laidAll_os _ _ _)
      (World.shaped_of_ZipB (by kernel_rfl) (by kernel_rfl)) (by kernel_rfl) (by kernel_rfl) (by kernel_rfl)
      (by rw [MakeChecks.laidMetH_plain _ _ _ (by kernel_rfl)]; exact laidMet_laidAll _ (by kernel_rfl) (by kernel_rfl))) ?_
  intro W base args ds gs before hval0 hW hcnd _ hL _
  have hval : ∀ (j : Nat) t v, Tryz.f6.params[j]? = some t → args[j]? = some v → Value.okWide Tryz.prog W .any base t v := hval0
  have hW' := hW
  obtain ⟨p, q, hA0, hV0, rfl, hfz, hnd⟩ := hW
  have hA : DataW.TrodAll enc Tryz.prog W 0 (fun _ => true) true Tryz.f6.params.toList args.toList ds p := hA0
  rw [Tryz.params6] at hA hval
  obtain ⟨v0, vs0, d0, ds0, p0, q0, hargs, rfl, rfl, h0, r0⟩ := trodAll_cons hA
  obtain ⟨rfl, rfl, rfl⟩ := trodAll_nil r0
  obtain rfl : args = #[v0] := by cases args; simp_all
  have hgl := trodVars_len hV0
  obtain ⟨g1, g2, rfl⟩ := len2 gs hgl
  obtain ⟨x, rfl, rfl, rfl, w0⟩ := open_float Tryz.underlying26 (hval 0 26 v0 rfl rfl) h0
  clear hA0 hval0
  simp only [List.append_nil, List.nil_append] at hW'
  refine (walk x w0 W).mono fun e W' ⟨he, hg⟩ => ?_
  subst he
  exact ⟨_, rfl, post_belowV (pa := []) (pv := q) hW' (fun _ _ _ => (trodAll_cons_mk (shut_bool Tryz.underlying4 _) trodAll_mk0)) (fun sp _ => (trodAll_cons_mk (shut_float Tryz.underlying26 w0) trodAll_mk0)) (hg.trodVars laidOut (by kernel_rfl) hV0) rfl hg⟩

theorem holds : Rows.FnToIntFloatCasesSaid :=
  OpenClaim.holds_of_wide 6 Tryz.f6 rfl rfl rfl rfl rfl rfl rfl ⟨rfl, rfl, rfl, rfl, rfl⟩ rfl rfl rfl rfl rfl (by kernel_rfl) Tryz.func6 (by kernel_rfl)
    (of_decide_eq_true (by kernel_rfl)) (by unfold Func.isWrapper; first | (rw [if_pos (by decide +kernel)]; kernel_rfl) | (rw [if_neg (by decide +kernel)]; exact ⟨rfl, rfl⟩))
    (fun os started H enc _ => lifted os started H enc)

theorem card_holds : Rows.FnToIntFloatCasesCardSaid :=
  Claim7.holds_tied_plain_at .later [] _ _ _ _ holds (fun _ h => by cases h) (by kernel_rfl) (fun _ h => by cases h) fnToIntFloatCases_row_tie rfl ⟨rfl, rfl⟩ (by kernel_rfl) rfl
    (fun f fn hf hfn => by
      obtain rfl : f = 6 := Option.some.inj ((show Tryz.prog.funcNamed "github.com/itchyny/gojq/n001_21.FnToIntFloatCases" = some 6 by kernel_rfl).symm.trans hf) |>.symm
      obtain rfl : fn = Tryz.f6 := (Option.some.inj (Tryz.func6.symm.trans hfn)).symm
      exact ⟨by kernel_rfl, fun j t ht => by
        rw [Tryz.params6] at ht
        have hm : t ∈ [26] := by simpa using Array.mem_of_getElem? ht
        have hall : ([26].all fun u => !Tryz.prog.wantsStandIn u) = true := by kernel_rfl
        exact (show Tryz.prog.wantsStandIn t = false by simpa using List.all_eq_true.1 hall t hm)⟩)
    (by kernel_rfl)
#print axioms card_holds
end Go.Proofs.YtafmnkpjohlcpaaGreatDoor.fnToIntFloatCases
