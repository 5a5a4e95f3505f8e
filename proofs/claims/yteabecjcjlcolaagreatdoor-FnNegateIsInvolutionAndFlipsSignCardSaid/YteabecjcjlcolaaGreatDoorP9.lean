/- For every int other than the least, negate flips the sign and undoes itself; at the least int it gives a positive big integer. Condition: the laid variables hold what the program's text lays. -/
import Derived.Test.YteabecjcjlcolaaGreatDoorRows
import Derived.Test.YteabecjcjlcolaaGreatDoorTie
import Derived.Test.YteabecjcjlcolaaGreatDoorCards
import Derived.WalkKit
import Derived.ProofKit
import Derived.OpenShut
import Derived.WalkSpells
import Derived.WalkLawsBesides
import Derived.Outline
import Derived.Lib.Hide
import Derived.ShutString
import Derived.Laws.Cover2
import Derived.LaidMore
import Derived.Lay
import Derived.SevenTiedAt
import Derived.Stop.Joined
import Derived.OpenVars
import Derived.Test.YteabecjcjlcolaaGreatDoorNM
import Derived.Test.YteabecjcjlcolaaGreatDoorLS
namespace Go.Proofs.YteabecjcjlcolaaGreatDoor.fnNegateIsInvolutionAndFlipsSign
open Go.ChangeShapes Go.WideShapes Go.ChangeAt Go.RowKit
open Go.ChangeMaps (open_string shut_string)
set_option linter.unusedVariables false

theorem own : ownKnob Tryz.prog.godebug = none := by kernel_rfl
theorem laidOut : laidOutB Tryz.prog = true := by kernel_rfl

theorem walk (v : Int) (w0 : (Lit.int .i64 v).wf = true) (w : World) (hL : laidMetH Tryz.prog Rows.fnNegateIsInvolutionAndFlipsSignRow.laid w) :
    Calls Tryz.prog 5 #[.int .i64 v] w fun e w' => e = .returned (.bool true) ∧ Below w.heap.size w w' := by
  have hl := leaf_of w Rows.fnNegateIsInvolutionAndFlipsSignRow.laid (by kernel_rfl) (.tail _ (.tail _ (.head _))) hL
  clear hL
  simp [Lit.wf] at w0
  have hmin : IntKind.i64.min = -9223372036854775808 := rfl
  rw [hmin] at w0
  by_cases hm : v = -9223372036854775808
  · subst hm
    have HB := Lib.hid (znegB_min w hl)
    have e1 : itoaB 9223372036854775808 = ⟨#[57, 50, 50, 51, 51, 55, 50, 48, 51, 54, 56, 53, 52, 55, 55, 53, 56, 48, 56]⟩ := by decide +kernel
    rw [e1] at HB
    clear hl
    go_enter Tryz.func5, Tryz.ntmps5
    go_wp2_with (first | (go_at_call 10; refine (isMin_yes _).mono ?_; rintro r w2 ⟨rfl, rfl⟩) | (go_at_call 9; refine HB.out.mono ?_; rintro r w3 ⟨rfl, B3⟩; have HB3 := Lib.hid B3; clear B3))
    go_ret
    exact ⟨rfl, HB3.out⟩
  · have e1 : (decide (-v < 0) != decide (v > 0)) = false := by
      by_cases c : v > 0
      · rw [decide_eq_true c, decide_eq_true (show -v < 0 by omega)]; rfl
      · rw [decide_eq_false c, decide_eq_false (show ¬ -v < 0 by omega)]; rfl
    have e2 : (decide (-v = 0) != decide (v = 0)) = false := by
      by_cases c : v = 0
      · rw [decide_eq_true c, decide_eq_true (show -v = 0 by omega)]; rfl
      · rw [decide_eq_false c, decide_eq_false (show ¬ -v = 0 by omega)]; rfl
    clear hl
    rcases Int.lt_trichotomy v 0 with c | c | c
    · have t1 : decide (-v < 0) = false := decide_eq_false (by omega)
      have t2 : decide (v > 0) = false := decide_eq_false (by omega)
      have t3 : decide (-v = 0) = false := decide_eq_false (by omega)
      have t4 : decide (v = 0) = false := decide_eq_false (by omega)
      have t5 : (-v == 0) = false := by simp; omega
      have t6 : (v == 0) = false := by simp; omega
      go_enter Tryz.func5, Tryz.ntmps5
      go_wp2_with (first | (go_at_call 10; refine (isMin_not v _ (by omega) (by omega)).mono ?_; rintro r w2 ⟨rfl, rfl⟩) | (go_at_call 8; with_reducible (refine (zneg_not v _ (by omega) (by omega)).mono ?_); rintro r w3 ⟨rfl, rfl⟩) | (go_at_call 8; refine (zneg_not (-v) _ (by omega) (by omega)).mono ?_; rintro r w3 ⟨rfl, rfl⟩))
      go_ret
      exact ⟨by simp, Below.refl _ _⟩
    · subst c
      go_enter Tryz.func5, Tryz.ntmps5
      go_wp2_with (first | (go_at_call 10; refine (isMin_not 0 _ (by omega) (by omega)).mono ?_; rintro r w2 ⟨rfl, rfl⟩) | (go_at_call 8; refine (zneg_not 0 _ (by omega) (by omega)).mono ?_; rintro r w3 ⟨rfl, rfl⟩))
      go_ret
      exact ⟨by simp, Below.refl _ _⟩
    · have t1 : decide (-v < 0) = true := decide_eq_true (by omega)
      have t2 : decide (v > 0) = true := decide_eq_true (by omega)
      have t3 : decide (-v = 0) = false := decide_eq_false (by omega)
      have t4 : decide (v = 0) = false := decide_eq_false (by omega)
      have t5 : (-v == 0) = false := by simp; omega
      have t6 : (v == 0) = false := by simp; omega
      go_enter Tryz.func5, Tryz.ntmps5
      go_wp2_with (first | (go_at_call 10; refine (isMin_not v _ (by omega) (by omega)).mono ?_; rintro r w2 ⟨rfl, rfl⟩) | (go_at_call 8; with_reducible (refine (zneg_not v _ (by omega) (by omega)).mono ?_); rintro r w3 ⟨rfl, rfl⟩) | (go_at_call 8; refine (zneg_not (-v) _ (by omega) (by omega)).mono ?_; rintro r w3 ⟨rfl, rfl⟩))
      go_ret
      exact ⟨by simp, Below.refl _ _⟩

set_option maxRecDepth 100000 in
theorem lifted (os : Os) (started : os.Started) (H : Type) (enc : TypeId × Value → H) :
    ReturnsInHanded {} Tryz.checked os 5 .any (fun w args => (Rows.fnNegateIsInvolutionAndFlipsSignSpec.pre enc Tryz.prog Tryz.f5 Rows.fnNegateIsInvolutionAndFlipsSignRow.domain false w args ∧ laidMetH Tryz.prog Rows.fnNegateIsInvolutionAndFlipsSignRow.laid w) ∧ sizedMet enc Tryz.prog Tryz.f5 (OpenSpec.ofChange Rows.fnNegateIsInvolutionAndFlipsSignSpec) false w args)
      (Rows.fnNegateIsInvolutionAndFlipsSignSpec.post enc Tryz.prog Tryz.f5 false true false false) := by
  refine returnsInHanded_of_change_and (C := Tryz.checked) (X := fun w _ => laidMetH Tryz.prog Rows.fnNegateIsInvolutionAndFlipsSignRow.laid w) (fun _ _ _ hh h => h.of_heap hh) own started (by kernel_rfl) Tryz.func5
    (ChangeSpec.witness_shaped (enc := enc) (C := Tryz.checked) (os := os) (X := fun w _ => laidMetH Tryz.prog Rows.fnNegateIsInvolutionAndFlipsSignRow.laid w) false (World.laidAll Tryz.prog os Rows.fnNegateIsInvolutionAndFlipsSignRow.laid) #[.int .i64 0] 8 (World.laidAll_os _ _ _)
      (World.shaped_of_ZipB (by kernel_rfl) (by kernel_rfl)) (by kernel_rfl) (by kernel_rfl) (by kernel_rfl)
      (by rw [MakeChecks.laidMetH_plain _ _ _ (by kernel_rfl)]; exact laidMet_laidAll _ (by kernel_rfl) (by kernel_rfl))) ?_
  intro W base args ds gs before hval0 hW hcnd _ hL _
  have hval : ∀ (j : Nat) t v, Tryz.f5.params[j]? = some t → args[j]? = some v → Value.okWide Tryz.prog W .any base t v := hval0
  have hW' := hW
  obtain ⟨p, q, hA0, hV0, rfl, hfz, hnd⟩ := hW
  have hA : DataW.TrodAll enc Tryz.prog W 0 (fun _ => true) true Tryz.f5.params.toList args.toList ds p := hA0
  rw [Tryz.params5] at hA hval
  obtain ⟨v0, vs0, d0, ds0, p0, q0, hargs, rfl, rfl, h0, r0⟩ := trodAll_cons hA
  obtain ⟨rfl, rfl, rfl⟩ := trodAll_nil r0
  obtain rfl : args = #[v0] := by cases args; simp_all
  have hgl := trodVars_len hV0
  obtain ⟨g1, g2, g3, g4, g5, rfl⟩ := len5 gs hgl
  obtain ⟨v, rfl, rfl, rfl, w0⟩ := open_int Tryz.underlying3 (hval 0 3 v0 rfl rfl) h0
  clear hA0 hval0
  simp only [List.append_nil, List.nil_append] at hW'
  refine (walk v w0 W hL).mono fun e W' ⟨he, hg⟩ => ?_
  subst he
  exact ⟨_, rfl, post_belowV (pa := []) (pv := q) hW' (fun _ _ _ => (trodAll_cons_mk (shut_bool Tryz.underlying4 _) trodAll_mk0)) (fun sp _ => (trodAll_cons_mk (shut_int Tryz.underlying3 w0) trodAll_mk0)) (hg.trodVars laidOut (by kernel_rfl) hV0) rfl hg⟩

theorem holds : Rows.FnNegateIsInvolutionAndFlipsSignSaid :=
  OpenClaim.holds_of_wide 5 Tryz.f5 rfl rfl rfl rfl rfl rfl rfl ⟨rfl, rfl, rfl, rfl, rfl⟩ rfl rfl rfl rfl rfl (by kernel_rfl) Tryz.func5 (by kernel_rfl)
    (of_decide_eq_true (by kernel_rfl)) (by unfold Func.isWrapper; first | (rw [if_pos (by decide +kernel)]; kernel_rfl) | (rw [if_neg (by decide +kernel)]; exact ⟨rfl, rfl⟩))
    (fun os started H enc _ => lifted os started H enc)

theorem card_holds : Rows.FnNegateIsInvolutionAndFlipsSignCardSaid :=
  Claim7.holds_tied_plain_at .later [] _ _ _ _ holds (fun _ h => by cases h) (by kernel_rfl) (fun _ h => by cases h) fnNegateIsInvolutionAndFlipsSign_row_tie rfl ⟨rfl, rfl⟩ (by kernel_rfl) rfl
    (fun f fn hf hfn => by
      obtain rfl : f = 5 := Option.some.inj ((show Tryz.prog.funcNamed "github.com/itchyny/gojq/n001_74.FnNegateIsInvolutionAndFlipsSign" = some 5 by kernel_rfl).symm.trans hf) |>.symm
      obtain rfl : fn = Tryz.f5 := (Option.some.inj (Tryz.func5.symm.trans hfn)).symm
      exact ⟨by kernel_rfl, fun j t ht => by
        rw [Tryz.params5] at ht
        have hm : t ∈ [3] := by simpa using Array.mem_of_getElem? ht
        have hall : ([3].all fun u => !Tryz.prog.wantsStandIn u) = true := by kernel_rfl
        exact (show Tryz.prog.wantsStandIn t = false by simpa using List.all_eq_true.1 hall t hm)⟩)
    (by kernel_rfl)
#print axioms card_holds
end Go.Proofs.YteabecjcjlcolaaGreatDoor.fnNegateIsInvolutionAndFlipsSign
