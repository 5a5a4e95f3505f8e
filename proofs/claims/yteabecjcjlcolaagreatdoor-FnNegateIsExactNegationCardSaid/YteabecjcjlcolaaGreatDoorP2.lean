/- For every int, negate gives exactly the negation: as an int, or, at the least int, as a big integer whose text is the flipped text. Condition: the laid variables hold what the program's text lays. -/
import Derived.Test.YteabecjcjlcolaaGreatDoorRows
import Derived.Test.YteabecjcjlcolaaGreatDoorTie
import Derived.Test.YteabecjcjlcolaaGreatDoorCards
import Derived.WalkKit
import Derived.ProofKit
import Derived.OpenShut
import Derived.WalkSpells
import Derived.WalkLawsBesides
import Derived.Outline
import Derived.Lib.Hide
import Derived.ShutString
import Derived.Laws.Cover2
import Derived.LaidMore
import Derived.Lay
import Derived.SevenTiedAt
import Derived.Stop.Joined
import Derived.OpenVars
import Derived.Test.YteabecjcjlcolaaGreatDoorNM
import Derived.Test.YteabecjcjlcolaaGreatDoorLS
import Derived.Test.YteabecjcjlcolaaGreatDoorIZ
namespace Go.Proofs.YteabecjcjlcolaaGreatDoor.fnNegateIsExactNegation
open Go.ChangeShapes Go.WideShapes Go.ChangeAt Go.RowKit
open Go.ChangeMaps (open_string shut_string)
set_option linter.unusedVariables false

theorem own : ownKnob Tryz.prog.godebug = none := by kernel_rfl
theorem laidOut : laidOutB Tryz.prog = true := by kernel_rfl

theorem walk (v : Int) (w0 : (Lit.int .i64 v).wf = true) (w : World) (hL : laidMetH Tryz.prog Rows.fnNegateIsExactNegationRow.laid w) :
    Calls Tryz.prog 3 #[.int .i64 v] w fun e w' => e = .returned (.bool true) ∧ Below w.heap.size w w' := by
  have hl := leaf_of w Rows.fnNegateIsExactNegationRow.laid (by kernel_rfl) (.tail _ (.tail _ (.head _))) hL
  clear hL
  simp [Lit.wf] at w0
  have hmin : IntKind.i64.min = -9223372036854775808 := rfl
  rw [hmin] at w0
  have l1 : 1 < w.heap.size := World.block_lt_of_cell? w _ hl
  have HL := Lib.hid hl
  clear hl
  by_cases hm : v = -9223372036854775808
  · subst hm
    have e1 : (- -9223372036854775808 : Int) = 9223372036854775808 := by omega
    have HF := Lib.hid (fun w => e1 ▸ flip_any (-9223372036854775808) w (by omega) (by omega))
    have HI := Lib.hid (fun w => itoa_any (-9223372036854775808) w (by omega) (by omega))
    generalize itoaB (-9223372036854775808) = S at HF HI
    have HG := Lib.hid znegB_min
    generalize itoaB 9223372036854775808 = T at HF HG
    have eT : (T.toList == T.toList) = true := by simp
    go_enter Tryz.func3, Tryz.ntmps3
    go_wp2_with (first | (go_at_call 7; refine (HI.out _).mono ?_; rintro r w1 ⟨rfl, B1⟩; have HB1 := Lib.hid B1; clear B1) | (go_at_call 6; refine (HF.out _).mono ?_; rintro r w2 ⟨rfl, rfl⟩) | (go_at_call 8; refine (zneg_min _).mono ?_; rintro r w3 ⟨rfl, B3⟩; have HB3 := Lib.hid B3; have HL3 := Lib.hid ((World.cell?_of_block ((HB1.out.trans (B3.mono HB1.out.size)).block _ l1)).trans HL.out); clear B3) | (go_at_call 9; refine (HG.out _ HL3.out).mono ?_; rintro r w4 ⟨rfl, B4⟩; have HB4 := Lib.hid B4; clear B4) | (go_at_call 10; refine (isMin_yes _).mono ?_; rintro r w5 ⟨rfl, rfl⟩))
    go_ret
    exact ⟨by first | rfl | simp, HB1.out.trans ((HB3.out.mono HB1.out.size).trans (HB4.out.mono (by have := HB1.out.size; have := HB3.out.size; omega)))⟩
  · have HF := Lib.hid (fun w => flip_any v w (by omega) (by omega))
    have HI := Lib.hid (fun w => itoa_any v w (by omega) (by omega))
    have HJ := Lib.hid (fun w => itoa_any (-v) w (by omega) (by omega))
    generalize itoaB v = S at HF HI
    generalize itoaB (-v) = T at HF HJ
    have eT : (T.toList == T.toList) = true := by simp
    go_enter Tryz.func3, Tryz.ntmps3
    go_wp2_with (first | (go_at_call 7; with_reducible (refine (HI.out _).mono ?_); rintro r w1 ⟨rfl, B1⟩; have HB1 := Lib.hid B1; clear B1) | (go_at_call 6; refine (HF.out _).mono ?_; rintro r w2 ⟨rfl, rfl⟩) | (go_at_call 8; refine (zneg_not v _ (by omega) (by omega)).mono ?_; rintro r w3 ⟨rfl, rfl⟩) | (go_at_call 9; refine (znegB_not v _ (by omega) (by omega)).mono ?_; rintro r w4 ⟨rfl, rfl⟩) | (go_at_call 10; refine (isMin_not v _ (by omega) (by omega)).mono ?_; rintro r w5 ⟨rfl, rfl⟩) | (go_at_call 7; refine (HJ.out _).mono ?_; rintro r w6 ⟨rfl, B6⟩; have HB6 := Lib.hid B6; clear B6))
    go_ret
    exact ⟨by first | rfl | simp, HB1.out.trans (HB6.out.mono HB1.out.size)⟩

set_option maxRecDepth 100000 in
theorem lifted (os : Os) (started : os.Started) (H : Type) (enc : TypeId × Value → H) :
    ReturnsInHanded {} Tryz.checked os 3 .any (fun w args => (Rows.fnNegateIsExactNegationSpec.pre enc Tryz.prog Tryz.f3 Rows.fnNegateIsExactNegationRow.domain false w args ∧ laidMetH Tryz.prog Rows.fnNegateIsExactNegationRow.laid w) ∧ sizedMet enc Tryz.prog Tryz.f3 (OpenSpec.ofChange Rows.fnNegateIsExactNegationSpec) false w args)
      (Rows.fnNegateIsExactNegationSpec.post enc Tryz.prog Tryz.f3 false true false false) := by
  refine returnsInHanded_of_change_and (C := Tryz.checked) (X := fun w _ => laidMetH Tryz.prog Rows.fnNegateIsExactNegationRow.laid w) (fun _ _ _ hh h => h.of_heap hh) own started (by kernel_rfl) Tryz.func3
    (ChangeSpec.witness_shaped (enc := enc) (C := Tryz.checked) (os := os) (X := fun w _ => laidMetH Tryz.prog Rows.fnNegateIsExactNegationRow.laid w) false (World.laidAll Tryz.prog os Rows.fnNegateIsExactNegationRow.laid) #[.int .i64 0] 8 (World.laidAll_os _ _ _)
      (World.shaped_of_ZipB (by kernel_rfl) (by kernel_rfl)) (by kernel_rfl) (by kernel_rfl) (by kernel_rfl)
      (by rw [MakeChecks.laidMetH_plain _ _ _ (by kernel_rfl)]; exact laidMet_laidAll _ (by kernel_rfl) (by kernel_rfl))) ?_
  intro W base args ds gs before hval0 hW hcnd _ hL _
  have hval : ∀ (j : Nat) t v, Tryz.f3.params[j]? = some t → args[j]? = some v → Value.okWide Tryz.prog W .any base t v := hval0
  have hW' := hW
  obtain ⟨p, q, hA0, hV0, rfl, hfz, hnd⟩ := hW
  have hA : DataW.TrodAll enc Tryz.prog W 0 (fun _ => true) true Tryz.f3.params.toList args.toList ds p := hA0
  rw [Tryz.params3] at hA hval
  obtain ⟨v0, vs0, d0, ds0, p0, q0, hargs, rfl, rfl, h0, r0⟩ := trodAll_cons hA
  obtain ⟨rfl, rfl, rfl⟩ := trodAll_nil r0
  obtain rfl : args = #[v0] := by cases args; simp_all
  have hgl := trodVars_len hV0
  obtain ⟨g1, g2, g3, g4, g5, rfl⟩ := len5 gs hgl
  obtain ⟨v, rfl, rfl, rfl, w0⟩ := open_int Tryz.underlying3 (hval 0 3 v0 rfl rfl) h0
  clear hA0 hval0
  simp only [List.append_nil, List.nil_append] at hW'
  refine (walk v w0 W hL).mono fun e W' ⟨he, hg⟩ => ?_
  subst he
  exact ⟨_, rfl, post_belowV (pa := []) (pv := q) hW' (fun _ _ _ => (trodAll_cons_mk (shut_bool Tryz.underlying4 _) trodAll_mk0)) (fun sp _ => (trodAll_cons_mk (shut_int Tryz.underlying3 w0) trodAll_mk0)) (hg.trodVars laidOut (by kernel_rfl) hV0) rfl hg⟩

theorem holds : Rows.FnNegateIsExactNegationSaid :=
  OpenClaim.holds_of_wide 3 Tryz.f3 rfl rfl rfl rfl rfl rfl rfl ⟨rfl, rfl, rfl, rfl, rfl⟩ rfl rfl rfl rfl rfl (by kernel_rfl) Tryz.func3 (by kernel_rfl)
    (of_decide_eq_true (by kernel_rfl)) (by unfold Func.isWrapper; first | (rw [if_pos (by decide +kernel)]; kernel_rfl) | (rw [if_neg (by decide +kernel)]; exact ⟨rfl, rfl⟩))
    (fun os started H enc _ => lifted os started H enc)

theorem card_holds : Rows.FnNegateIsExactNegationCardSaid :=
  Claim7.holds_tied_plain_at .later [] _ _ _ _ holds (fun _ h => by cases h) (by kernel_rfl) (fun _ h => by cases h) fnNegateIsExactNegation_row_tie rfl ⟨rfl, rfl⟩ (by kernel_rfl) rfl
    (fun f fn hf hfn => by
      obtain rfl : f = 3 := Option.some.inj ((show Tryz.prog.funcNamed "github.com/itchyny/gojq/n001_74.FnNegateIsExactNegation" = some 3 by kernel_rfl).symm.trans hf) |>.symm
      obtain rfl : fn = Tryz.f3 := (Option.some.inj (Tryz.func3.symm.trans hfn)).symm
      exact ⟨by kernel_rfl, fun j t ht => by
        rw [Tryz.params3] at ht
        have hm : t ∈ [3] := by simpa using Array.mem_of_getElem? ht
        have hall : ([3].all fun u => !Tryz.prog.wantsStandIn u) = true := by kernel_rfl
        exact (show Tryz.prog.wantsStandIn t = false by simpa using List.all_eq_true.1 hall t hm)⟩)
    (by kernel_rfl)
#print axioms card_holds
end Go.Proofs.YteabecjcjlcolaaGreatDoor.fnNegateIsExactNegation
