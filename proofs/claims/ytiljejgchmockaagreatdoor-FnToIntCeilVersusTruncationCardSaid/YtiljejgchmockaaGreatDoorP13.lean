/- For every float64 x toIntCeil gives what floatToInt gives, and one more at a positive number with a fraction; no further condition. -/
import Derived.Test.YtiljejgchmockaaGreatDoorRows
import Derived.Test.YtiljejgchmockaaGreatDoorTie
import Derived.Test.YtiljejgchmockaaGreatDoorCards
import Derived.WalkKit
import Derived.ProofKit
import Derived.OpenShut
import Derived.WalkSpells
import Derived.WalkLawsBesides
import Derived.Outline
import Derived.Lib.Hide
import Derived.ShutString
import Derived.Laws.Cover2
import Derived.LaidMore
import Derived.Lay
import Derived.SevenTiedAt
import Derived.Stop.Joined
import Derived.OpenVars
import Derived.Test.YtiljejgchmockaaGreatDoorCI
import Derived.Test.YtiljejgchmockaaGreatDoorCom
namespace Go.Proofs.YtiljejgchmockaaGreatDoor.fnToIntCeilVersusTruncation
open Go.ChangeShapes Go.WideShapes Go.ChangeAt Go.RowKit
open Go.ChangeMaps (open_string shut_string)
set_option linter.unusedVariables false

theorem own : ownKnob Tryz.prog.godebug = none := by kernel_rfl
theorem laidOut : laidOutB Tryz.prog = true := by kernel_rfl

theorem zf (x : Nat) (w : World) : Calls Tryz.prog 6 #[.float .f64 x] w fun r w' => r = .returned (.int .i64 (fti x)) ∧ w = w' := by
  go_enter Tryz.func6, Tryz.ntmps6
  go_wp2_with (go_at_call 11; refine (floatToInt_any x _).mono ?_; rintro r w2 ⟨rfl, rfl⟩)
  go_ret
  exact ⟨rfl, rfl⟩
theorem zcf (x : Nat) (w : World) : Calls Tryz.prog 7 #[.float .f64 x] w fun r w' => r = .returned (.tuple #[.int .i64 (tci x), .bool true]) ∧ Below w.heap.size w w' := by
  go_enter Tryz.func7, Tryz.ntmps7
  go_wp2_with (go_at_call 12; refine (toIntCeil_float x _).mono ?_; rintro r w2 ⟨rfl, hb⟩)
  go_ret2
  exact ⟨rfl, hb⟩
theorem zci (n : Int) (w : World) : Calls Tryz.prog 8 #[.int .i64 n] w fun r w' => r = .returned (.tuple #[.int .i64 n, .bool true]) ∧ w = w' := by
  go_enter Tryz.func8, Tryz.ntmps8
  go_wp2_with (go_at_call 12; refine (toIntCeil_int n _).mono ?_; rintro r w2 ⟨rfl, rfl⟩)
  go_ret2
  exact ⟨rfl, rfl⟩
theorem z64 (w : World) : Calls Tryz.prog 5 #[] w fun r w' => r = .returned (.bool true) ∧ w = w' := by
  go_enter Tryz.func5, Tryz.ntmps5
  go_wp2
  go_ret
  exact ⟨rfl, rfl⟩
theorem zmax (w : World) : Calls Tryz.prog 10 #[] w fun r w' => r = .returned (.int .i64 9223372036854775807) ∧ w = w' := by
  go_enter Tryz.func10, Tryz.ntmps10
  go_wp2
  go_ret
  exact ⟨rfl, rfl⟩
theorem zmin (w : World) : Calls Tryz.prog 9 #[] w fun r w' => r = .returned (.int .i64 (-9223372036854775808)) ∧ w = w' := by
  go_enter Tryz.func9, Tryz.ntmps9
  go_wp2_with (go_at_call 10; refine (zmax _).mono ?_; rintro r w2 ⟨rfl, rfl⟩)
  go_ret
  exact ⟨rfl, rfl⟩

theorem walk (x : Nat) (w0 : (Lit.float .f64 x).wf = true) (w : World) :
    Calls Tryz.prog 3 #[.float .f64 x] w fun e w' => e = .returned (.bool true) ∧ Below w.heap.size w w' := by
  have hp := Flt.one_pos
  have hall := fti_all x
  by_cases h : Flt.nan x
  · have t1 := o_self_nan h
    have t2 : (tci x == fti x) = true := by rw [fti_nan h, tci_nan h]; rfl
    clear h w0
    go_enter Tryz.func3, Tryz.ntmps3
    go_wp2_with (first | (go_at_call 5; refine (z64 _).mono ?_; rintro r w2 ⟨rfl, rfl⟩) | (go_at_call 7; refine (zcf _ _).mono ?_; rintro r w1 ⟨rfl, hb⟩) | (go_at_call 6; refine (zf _ _).mono ?_; rintro r w2 ⟨rfl, rfl⟩))
    go_ret
    exact ⟨rfl, hb⟩
  have t0 := o_self h
  by_cases h1 : Flt.V x ≤ 0
  · have t1 : (FloatKind.f64.format.order x 0 == some .lt || FloatKind.f64.format.order x 0 == some .eq) = true := by
      rw [o_le h n0, V_zero]; exact decide_eq_true h1
    have t2 : (tci x == fti x) = true := by
      by_cases hb : Flt.V x ≤ -(4503599627370496 * (Flt.Uno : Int))
      · rw [tci_big h (Or.inr hb)]; exact beq_self_eq_true _
      · rw [(tci_small h (by omega) (by omega)).1 h1]; exact beq_self_eq_true _
    clear h h1 w0
    go_enter Tryz.func3, Tryz.ntmps3
    go_wp2_with (first | (go_at_call 5; refine (z64 _).mono ?_; rintro r w2 ⟨rfl, rfl⟩) | (go_at_call 7; refine (zcf _ _).mono ?_; rintro r w1 ⟨rfl, hb⟩) | (go_at_call 6; refine (zf _ _).mono ?_; rintro r w2 ⟨rfl, rfl⟩))
    go_ret
    exact ⟨rfl, hb⟩
  have t1 : (FloatKind.f64.format.order x 0 == some .lt || FloatKind.f64.format.order x 0 == some .eq) = false := by
    rw [o_le h n0, V_zero]; exact decide_eq_false (by omega)
  by_cases h2 : 4503599627370496 * (Flt.Uno : Int) ≤ Flt.V x
  · have t2 : (FloatKind.f64.format.order x 4841369599423283200 == some .gt || FloatKind.f64.format.order x 4841369599423283200 == some .eq) = true := by
      rw [o_ge h n52, V_52]; exact decide_eq_true (by omega)
    have t3 : (tci x == fti x) = true := by rw [tci_big h (Or.inl h2)]; exact beq_self_eq_true _
    clear h h1 h2 w0
    go_enter Tryz.func3, Tryz.ntmps3
    go_wp2_with (first | (go_at_call 5; refine (z64 _).mono ?_; rintro r w2 ⟨rfl, rfl⟩) | (go_at_call 7; refine (zcf _ _).mono ?_; rintro r w1 ⟨rfl, hb⟩) | (go_at_call 6; refine (zf _ _).mono ?_; rintro r w2 ⟨rfl, rfl⟩))
    go_ret
    exact ⟨rfl, hb⟩
  have t2 : (FloatKind.f64.format.order x 4841369599423283200 == some .gt || FloatKind.f64.format.order x 4841369599423283200 == some .eq) = false := by
    rw [o_ge h n52, V_52]; exact decide_eq_false (by omega)
  obtain ⟨sb, sp, sn⟩ := fti_small h (by omega) (by omega)
  have f0 := Flt.ofInt_fin (n := fti x) (by omega)
  have bb : -9223372036854775800 ≤ fti x ∧ fti x ≤ 9223372036854775800 := by omega
  have ts := tci_small h (by omega) (by omega)
  by_cases h3 : fti x * (Flt.Uno : Int) = Flt.V x
  · have t3 : (FloatKind.f64.format.order (floatOfInt .f64 (fti x)) x == some .eq) = true := by
      show (FloatKind.f64.format.order (Flt.ofInt (fti x)) x == some .eq) = true
      rw [o_eq (Flt.not_nan_of_fin f0.1) h, f0.2.1]; exact decide_eq_true h3
    have t4 : (tci x == fti x) = true := by rw [ts.2.1 (by omega) h3]; exact beq_self_eq_true _
    clear h h1 h2 h3 sb sp sn f0 ts hall w0
    go_enter Tryz.func3, Tryz.ntmps3
    go_wp2_with (first | (go_at_call 5; refine (z64 _).mono ?_; rintro r w2 ⟨rfl, rfl⟩) | (go_at_call 7; refine (zcf _ _).mono ?_; rintro r w1 ⟨rfl, hb⟩) | (go_at_call 6; refine (zf _ _).mono ?_; rintro r w2 ⟨rfl, rfl⟩))
    go_ret
    exact ⟨rfl, hb⟩
  have t3 : (FloatKind.f64.format.order (floatOfInt .f64 (fti x)) x == some .eq) = false := by
    show (FloatKind.f64.format.order (Flt.ofInt (fti x)) x == some .eq) = false
    rw [o_eq (Flt.not_nan_of_fin f0.1) h, f0.2.1]; exact decide_eq_false h3
  have t4 : (tci x == fti x + 1) = true := by rw [ts.2.2 (by omega) h3]; exact beq_self_eq_true _
  clear h h1 h2 h3 sb sp sn f0 ts hall w0
  go_enter Tryz.func3, Tryz.ntmps3
  go_wp2_with (first | (go_at_call 5; refine (z64 _).mono ?_; rintro r w2 ⟨rfl, rfl⟩) | (go_at_call 7; refine (zcf _ _).mono ?_; rintro r w1 ⟨rfl, hb⟩) | (go_at_call 6; refine (zf _ _).mono ?_; rintro r w2 ⟨rfl, rfl⟩))
  go_ret
  exact ⟨rfl, hb⟩

set_option maxRecDepth 100000 in
theorem lifted (os : Os) (started : os.Started) (H : Type) (enc : TypeId × Value → H) :
    ReturnsInHanded {} Tryz.checked os 3 .any (fun w args => (Rows.fnToIntCeilVersusTruncationSpec.pre enc Tryz.prog Tryz.f3 Rows.fnToIntCeilVersusTruncationRow.domain false w args ∧ laidMetH Tryz.prog Rows.fnToIntCeilVersusTruncationRow.laid w) ∧ sizedMet enc Tryz.prog Tryz.f3 (OpenSpec.ofChange Rows.fnToIntCeilVersusTruncationSpec) false w args)
      (Rows.fnToIntCeilVersusTruncationSpec.post enc Tryz.prog Tryz.f3 false true false false) := by
  refine returnsInHanded_of_change_and (C := Tryz.checked) (X := fun w _ => laidMetH Tryz.prog Rows.fnToIntCeilVersusTruncationRow.laid w) (fun _ _ _ hh h => h.of_heap hh) own started (by kernel_rfl) Tryz.func3
    (ChangeSpec.witness_shaped (enc := enc) (C := Tryz.checked) (os := os) (X := fun w _ => laidMetH Tryz.prog Rows.fnToIntCeilVersusTruncationRow.laid w) false (World.laidAll Tryz.prog os Rows.fnToIntCeilVersusTruncationRow.laid) #[.float .f64 0] 8 (World.laidAll_os _ _ _)
      (World.shaped_of_ZipB (by kernel_rfl) (by kernel_rfl)) (by kernel_rfl) (by kernel_rfl) (by kernel_rfl)
      (by rw [MakeChecks.laidMetH_plain _ _ _ (by kernel_rfl)]; exact laidMet_laidAll _ (by kernel_rfl) (by kernel_rfl))) ?_
  intro W base args ds gs before hval0 hW hcnd _ hL _
  have hval : ∀ (j : Nat) t v, Tryz.f3.params[j]? = some t → args[j]? = some v → Value.okWide Tryz.prog W .any base t v := hval0
  have hW' := hW
  obtain ⟨p, q, hA0, hV0, rfl, hfz, hnd⟩ := hW
  have hA : DataW.TrodAll enc Tryz.prog W 0 (fun _ => true) true Tryz.f3.params.toList args.toList ds p := hA0
  rw [Tryz.params3] at hA hval
  obtain ⟨v0, vs0, d0, ds0, p0, q0, hargs, rfl, rfl, h0, r0⟩ := trodAll_cons hA
  obtain ⟨rfl, rfl, rfl⟩ := trodAll_nil r0
  obtain rfl : args = #[v0] := by cases args; simp_all
  have hgl := trodVars_len hV0
  obtain ⟨g1, g2, rfl⟩ := len2 gs hgl
  obtain ⟨x, rfl, rfl, rfl, w0⟩ := open_float Tryz.underlying22 (hval 0 22 v0 rfl rfl) h0
  clear hA0 hval0
  simp only [List.append_nil, List.nil_append] at hW'
  refine (walk x w0 W).mono fun e W' ⟨he, hg⟩ => ?_
  subst he
  exact ⟨_, rfl, post_belowV (pa := []) (pv := q) hW' (fun _ _ _ => (trodAll_cons_mk (shut_bool Tryz.underlying4 _) trodAll_mk0)) (fun sp _ => (trodAll_cons_mk (shut_float Tryz.underlying22 w0) trodAll_mk0)) (hg.trodVars laidOut (by kernel_rfl) hV0) rfl hg⟩

theorem holds : Rows.FnToIntCeilVersusTruncationSaid :=
  OpenClaim.holds_of_wide 3 Tryz.f3 rfl rfl rfl rfl rfl rfl rfl ⟨rfl, rfl, rfl, rfl, rfl⟩ rfl rfl rfl rfl rfl (by kernel_rfl) Tryz.func3 (by kernel_rfl)
    (of_decide_eq_true (by kernel_rfl)) (by unfold Func.isWrapper; first | (rw [if_pos (by decide +kernel)]; kernel_rfl) | (rw [if_neg (by decide +kernel)]; exact ⟨rfl, rfl⟩))
    (fun os started H enc _ => lifted os started H enc)

theorem card_holds : Rows.FnToIntCeilVersusTruncationCardSaid :=
  Claim7.holds_tied_plain_at .later [] _ _ _ _ holds (fun _ h => by cases h) (by kernel_rfl) (fun _ h => by cases h) fnToIntCeilVersusTruncation_row_tie rfl ⟨rfl, rfl⟩ (by kernel_rfl) rfl
    (fun f fn hf hfn => by
      obtain rfl : f = 3 := Option.some.inj ((show Tryz.prog.funcNamed "github.com/itchyny/gojq/n001_105.FnToIntCeilVersusTruncation" = some 3 by kernel_rfl).symm.trans hf) |>.symm
      obtain rfl : fn = Tryz.f3 := (Option.some.inj (Tryz.func3.symm.trans hfn)).symm
      exact ⟨by kernel_rfl, fun j t ht => by
        rw [Tryz.params3] at ht
        have hm : t ∈ [22] := by simpa using Array.mem_of_getElem? ht
        have hall : ([22].all fun u => !Tryz.prog.wantsStandIn u) = true := by kernel_rfl
        exact (show Tryz.prog.wantsStandIn t = false by simpa using List.all_eq_true.1 hall t hm)⟩)
    (by kernel_rfl)
#print axioms card_holds
end Go.Proofs.YtiljejgchmockaaGreatDoor.fnToIntCeilVersusTruncation
