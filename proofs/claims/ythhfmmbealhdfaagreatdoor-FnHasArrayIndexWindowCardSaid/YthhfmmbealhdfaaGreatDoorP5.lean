/- has on an array of n elements: the index window. -/
import Derived.Test.YthhfmmbealhdfaaGreatDoorRows
import Derived.Test.YthhfmmbealhdfaaGreatDoorTie
import Derived.Test.YthhfmmbealhdfaaGreatDoorCards
import Derived.WalkKit
import Derived.ProofKit
import Derived.OpenShut
import Derived.WalkSpells
import Derived.WalkLawsBesides
import Derived.Outline
import Derived.Lib.Hide
import Derived.ShutString
import Derived.Laws.Cover2
import Derived.LaidMore
import Derived.Lay
import Derived.SevenTiedAt
import Derived.Stop.Joined
import Derived.OpenVars
import Derived.Test.YthhfmmbealhdfaaGreatDoorCom
import Derived.Test.YthhfmmbealhdfaaGreatDoorTI
import Derived.Test.YthhfmmbealhdfaaGreatDoorHA
namespace Go.Proofs.YthhfmmbealhdfaaGreatDoor.fnHasArrayIndexWindow
open Go.ChangeShapes Go.WideShapes Go.ChangeAt Go.RowKit
open Go.ChangeMaps (open_string shut_string)
set_option linter.unusedVariables false

theorem own : ownKnob Tryz.prog.godebug = none := by kernel_rfl
theorem laidOut : laidOutB Tryz.prog = true := by kernel_rfl

theorem walk (n x : Int) (f : Nat) (w0 : (Lit.int .i64 n).wf = true) (w1 : (Lit.int .i64 x).wf = true) (w2 : (Lit.float .f64 f).wf = true) (w : World) :
    Calls Tryz.prog 3 #[.int .i64 n, .int .i64 x, .float .f64 f] w fun e w' => e = .returned (.bool true) ∧ Below w.heap.size w w' := by
  by_cases h0 : n < 0
  · have t1 : decide (n < 0) = true := decide_eq_true h0
    go_enter Tryz.func3, Tryz.ntmps3
    go_wp2_with fail
    go_ret
    exact ⟨rfl, Below.refl _ _⟩
  have t1 : decide (n < 0) = false := decide_eq_false h0
  by_cases h1 : n > 65536
  · have t2 : decide (n > 65536) = true := decide_eq_true h1
    go_enter Tryz.func3, Tryz.ntmps3
    go_wp2_with fail
    go_ret
    exact ⟨rfl, Below.refl _ _⟩
  have t2 : decide (n > 65536) = false := decide_eq_false h1
  by_cases h2 : n > 0
  rotate_left
  · have t3 : decide (n > 0) = false := decide_eq_false h2
    have e1 : inw x n = false := by
      unfold inw
      by_cases c : 0 ≤ x
      · rw [decide_eq_false (show ¬ x < n by omega)]; simp
      · rw [decide_eq_false c]; rfl
    have e2 : inw (fti f) n = false := by
      unfold inw
      by_cases c : 0 ≤ fti f
      · rw [decide_eq_false (show ¬ fti f < n by omega)]; simp
      · rw [decide_eq_false c]; rfl
    have X := inw_cases x n
    rw [e1] at X
    rcases X with ⟨x1, x2, -⟩ | ⟨x1, x2, x3, -⟩ | ⟨x1, x2, x3, x4⟩
    rotate_right
    · exact absurd x4 (by simp)
    all_goals
      clear w0 w1 w2
      go_enter Tryz.func3, Tryz.ntmps3
      go_wp2_with (first | (go_at_call 5; refine (zhas_int n x _ (by omega) (by omega)).mono ?_; rintro r w1 ⟨rfl, hb1⟩) | (go_at_call 6; refine (zhas_float n f _ (by omega) (by omega)).mono ?_; rintro r w2 ⟨rfl, hb2⟩))
      go_ret
      exact ⟨rfl, hb1.trans (hb2.mono hb1.size)⟩
  have t3 : decide (n > 0) = true := decide_eq_true h2
  rcases inw_cases x n with ⟨-, x2, x4⟩ | ⟨-, x2, x3, x4⟩ | ⟨-, x2, x3, x4⟩
  all_goals
    rcases has_law f n h2 (by omega) with ⟨f1, f4⟩ | ⟨f1, f3, f4⟩ | ⟨f1, f3, f4⟩
  all_goals
    clear w0 w1 w2
    go_enter Tryz.func3, Tryz.ntmps3
    go_wp2_with (first | (go_at_call 5; refine (zhas_int n x _ (by omega) (by omega)).mono ?_; rintro r w1 ⟨rfl, hb1⟩) | (go_at_call 6; refine (zhas_float n f _ (by omega) (by omega)).mono ?_; rintro r w2 ⟨rfl, hb2⟩))
    go_ret
    exact ⟨rfl, hb1.trans (hb2.mono hb1.size)⟩

set_option maxRecDepth 100000 in
theorem lifted (os : Os) (started : os.Started) (H : Type) (enc : TypeId × Value → H) :
    ReturnsInHanded {} Tryz.checked os 3 .any (fun w args => (Rows.fnHasArrayIndexWindowSpec.pre enc Tryz.prog Tryz.f3 Rows.fnHasArrayIndexWindowRow.domain false w args ∧ laidMetH Tryz.prog Rows.fnHasArrayIndexWindowRow.laid w) ∧ sizedMet enc Tryz.prog Tryz.f3 (OpenSpec.ofChange Rows.fnHasArrayIndexWindowSpec) false w args)
      (Rows.fnHasArrayIndexWindowSpec.post enc Tryz.prog Tryz.f3 false true false false) := by
  refine returnsInHanded_of_change_and (C := Tryz.checked) (X := fun w _ => laidMetH Tryz.prog Rows.fnHasArrayIndexWindowRow.laid w) (fun _ _ _ hh h => h.of_heap hh) own started (by kernel_rfl) Tryz.func3
    (ChangeSpec.witness_shaped (enc := enc) (C := Tryz.checked) (os := os) (X := fun w _ => laidMetH Tryz.prog Rows.fnHasArrayIndexWindowRow.laid w) false (World.laidAll Tryz.prog os Rows.fnHasArrayIndexWindowRow.laid) #[.int .i64 0, .int .i64 0, .float .f64 0] 8 (World.laidAll_os _ _ _)
      (World.shaped_of_ZipB (by kernel_rfl) (by kernel_rfl)) (by kernel_rfl) (by kernel_rfl) (by kernel_rfl)
      (by rw [MakeChecks.laidMetH_plain _ _ _ (by kernel_rfl)]; exact laidMet_laidAll _ (by kernel_rfl) (by kernel_rfl))) ?_
  intro W base args ds gs before hval0 hW hcnd _ hL _
  have hval : ∀ (j : Nat) t v, Tryz.f3.params[j]? = some t → args[j]? = some v → Value.okWide Tryz.prog W .any base t v := hval0
  have hW' := hW
  obtain ⟨p, q, hA0, hV0, rfl, hfz, hnd⟩ := hW
  have hA : DataW.TrodAll enc Tryz.prog W 0 (fun _ => true) true Tryz.f3.params.toList args.toList ds p := hA0
  rw [Tryz.params3] at hA hval
  obtain ⟨v0, vs0, d0, ds0, p0, q0, hargs, rfl, rfl, h0, r0⟩ := trodAll_cons hA
  obtain ⟨v1, vs1, d1, ds1, p1, q1, rfl, rfl, rfl, h1, r1⟩ := trodAll_cons r0
  obtain ⟨v2, vs2, d2, ds2, p2, q2, rfl, rfl, rfl, h2, r2⟩ := trodAll_cons r1
  obtain ⟨rfl, rfl, rfl⟩ := trodAll_nil r2
  obtain rfl : args = #[v0, v1, v2] := by cases args; simp_all
  have hgl := trodVars_len hV0
  obtain ⟨g1, g2, rfl⟩ := len2 gs hgl
  obtain ⟨n, rfl, rfl, rfl, w0⟩ := open_int Tryz.underlying3 (hval 0 3 v0 rfl rfl) h0
  obtain ⟨x, rfl, rfl, rfl, w1⟩ := open_int Tryz.underlying3 (hval 1 3 v1 rfl rfl) h1
  obtain ⟨f, rfl, rfl, rfl, w2⟩ := open_float Tryz.underlying22 (hval 2 22 v2 rfl rfl) h2
  clear hA0 hval0
  simp only [List.append_nil, List.nil_append] at hW'
  refine (walk n x f w0 w1 w2 W).mono fun e W' ⟨he, hg⟩ => ?_
  subst he
  exact ⟨_, rfl, post_belowV (pa := []) (pv := q) hW' (fun _ _ _ => (trodAll_cons_mk (shut_bool Tryz.underlying4 _) trodAll_mk0)) (fun sp _ => (trodAll_cons_mk (shut_int Tryz.underlying3 w0) (trodAll_cons_mk (shut_int Tryz.underlying3 w1) (trodAll_cons_mk (shut_float Tryz.underlying22 w2) trodAll_mk0)))) (hg.trodVars laidOut (by kernel_rfl) hV0) rfl hg⟩

theorem holds : Rows.FnHasArrayIndexWindowSaid :=
  OpenClaim.holds_of_wide 3 Tryz.f3 rfl rfl rfl rfl rfl rfl rfl ⟨rfl, rfl, rfl, rfl, rfl⟩ rfl rfl rfl rfl rfl (by kernel_rfl) Tryz.func3 (by kernel_rfl)
    (of_decide_eq_true (by kernel_rfl)) (by unfold Func.isWrapper; first | (rw [if_pos (by decide +kernel)]; kernel_rfl) | (rw [if_neg (by decide +kernel)]; exact ⟨rfl, rfl⟩))
    (fun os started H enc _ => lifted os started H enc)

theorem card_holds : Rows.FnHasArrayIndexWindowCardSaid :=
  Claim7.holds_tied_plain_at .later [] _ _ _ _ holds (fun _ h => by cases h) (by kernel_rfl) (fun _ h => by cases h) fnHasArrayIndexWindow_row_tie rfl ⟨rfl, rfl⟩ (by kernel_rfl) rfl
    (fun f fn hf hfn => by
      obtain rfl : f = 3 := Option.some.inj ((show Tryz.prog.funcNamed "github.com/itchyny/gojq/n001_17.FnHasArrayIndexWindow" = some 3 by kernel_rfl).symm.trans hf) |>.symm
      obtain rfl : fn = Tryz.f3 := (Option.some.inj (Tryz.func3.symm.trans hfn)).symm
      exact ⟨by kernel_rfl, fun j t ht => by
        rw [Tryz.params3] at ht
        have hm : t ∈ [3, 3, 22] := by simpa using Array.mem_of_getElem? ht
        have hall : ([3, 3, 22].all fun u => !Tryz.prog.wantsStandIn u) = true := by kernel_rfl
        exact (show Tryz.prog.wantsStandIn t = false by simpa using List.all_eq_true.1 hall t hm)⟩)
    (by kernel_rfl)
#print axioms card_holds
end Go.Proofs.YthhfmmbealhdfaaGreatDoor.fnHasArrayIndexWindow
