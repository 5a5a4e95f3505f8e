/- a term's toNumber: the case table. -/
import Derived.Test.YthcjepmdejljiaaGreatDoorRows
import Derived.Test.YthcjepmdejljiaaGreatDoorTie
import Derived.Test.YthcjepmdejljiaaGreatDoorCards
import Derived.WalkKit
import Derived.ProofKit
import Derived.OpenShut
import Derived.WalkSpells
import Derived.WalkLawsBesides
import Derived.Outline
import Derived.Lib.Hide
import Derived.ShutString
import Derived.Laws.Cover2
import Derived.LaidMore
import Derived.Lay
import Derived.SevenTiedAt
import Derived.Stop.Joined
import Derived.OpenVars
import Derived.Test.YthcjepmdejljiaaGreatDoorCom
import Derived.Test.YthcjepmdejljiaaGreatDoorPN
import Derived.Test.YthcjepmdejljiaaGreatDoorDE
import Derived.Test.YthcjepmdejljiaaGreatDoorJP
import Derived.Test.YthcjepmdejljiaaGreatDoorDW
import Derived.Test.YthcjepmdejljiaaGreatDoorTN
namespace Go.Proofs.YthcjepmdejljiaaGreatDoor.fnTermToNumberCaseTable
open Go.ChangeShapes Go.WideShapes Go.ChangeAt Go.RowKit
open Go.ChangeMaps (open_string shut_string)
set_option linter.unusedVariables false

theorem own : ownKnob Tryz.prog.godebug = none := by kernel_rfl
theorem laidOut : laidOutB Tryz.prog = true := by kernel_rfl

theorem zb (k : Int) (s : ByteArray) (w : World) (hs : s.size ≤ 1048576) :
    Calls Tryz.prog 4 #[.int .i64 k, .string s] w fun r w' => r = .returned (.bool true) ∧ w = w' := by
  have t1 : decide ((s.size : Int) > 1048576) = false := by simp; omega
  go_enter Tryz.func4, Tryz.ntmps4
  go_wp2
  go_ret
  exact ⟨rfl, rfl⟩
theorem zbn (k : Int) (s : ByteArray) (w : World) (hs : ¬ s.size ≤ 1048576) :
    Calls Tryz.prog 4 #[.int .i64 k, .string s] w fun r w' => r = .returned (.bool false) ∧ w = w' := by
  have t1 : decide ((s.size : Int) > 1048576) = true := by simp; omega
  go_enter Tryz.func4, Tryz.ntmps4
  go_wp2
  go_ret
  exact ⟨rfl, rfl⟩

theorem walk (ty : Int) (num : ByteArray) (w0 : (Lit.int .i64 ty).wf = true) (w1 : num.size ≤ maxLen) (w : World) :
    Calls Tryz.prog 3 #[.int .i64 ty, .string num] w fun e w' => e = .returned (.bool true) ∧ Below w.heap.size w w' := by
  by_cases hs : num.size ≤ 1048576
  rotate_left
  · go_enter Tryz.func3, Tryz.ntmps3
    go_wp2_with (go_at_call 4; refine (zbn ty num _ hs).mono ?_; rintro r w1 ⟨rfl, rfl⟩)
    go_ret
    exact ⟨rfl, Below.refl _ _⟩
  have t1 : decide ((num.size : Int) > 1048576) = false := by simp; omega
  by_cases h10 : ty = 10
  · subst h10
    go_enter Tryz.func3, Tryz.ntmps3
    go_wp2_with (first | (go_at_call 4; refine (zb 10 num _ hs).mono ?_; rintro r w1 ⟨rfl, rfl⟩) | (go_at_call 5; refine (decimal2 num _ hs).mono ?_; rintro r w2 ⟨n, ok, rfl, hok, rfl⟩; replace hok := Lib.hid hok) | (go_at_call 6; refine (z_number num n w.heap.size _ (by go_simp) (by go_simp) hs (hok.out (by simpa using (show (!ok) = false by assumption)))).mono ?_; rintro r w3 ⟨rfl, hb⟩))
    all_goals go_ret
    all_goals first | exact ⟨rfl, Below.refl _ _⟩ | exact ⟨rfl, ((Below.refl _ _).alloc (Nat.le_refl _) _).trans (hb.mono (by simp))⟩
  · have t2 : (ty == 10) = false := by simpa using h10
    go_enter Tryz.func3, Tryz.ntmps3
    go_wp2_with (first | (go_at_call 4; refine (zb ty num _ hs).mono ?_; rintro r w1 ⟨rfl, rfl⟩) | (go_at_call 5; refine (decimal2 num _ hs).mono ?_; rintro r w2 ⟨n, ok, rfl, hok, rfl⟩; replace hok := Lib.hid hok) | (go_at_call 6; refine (z_other ty w.heap.size _ (by go_simp) t2).mono ?_; rintro r w3 ⟨rfl, hb⟩))
    all_goals go_ret
    all_goals exact ⟨rfl, ((Below.refl _ _).alloc (Nat.le_refl _) _).trans (hb.mono (by simp))⟩

set_option maxRecDepth 100000 in
theorem lifted (os : Os) (started : os.Started) (H : Type) (enc : TypeId × Value → H) :
    ReturnsInHanded {} Tryz.checked os 3 .any (fun w args => (Rows.fnTermToNumberCaseTableSpec.pre enc Tryz.prog Tryz.f3 Rows.fnTermToNumberCaseTableRow.domain false w args ∧ laidMetH Tryz.prog Rows.fnTermToNumberCaseTableRow.laid w) ∧ sizedMet enc Tryz.prog Tryz.f3 (OpenSpec.ofChange Rows.fnTermToNumberCaseTableSpec) false w args)
      (Rows.fnTermToNumberCaseTableSpec.post enc Tryz.prog Tryz.f3 false true false false) := by
  refine returnsInHanded_of_change_and (C := Tryz.checked) (X := fun w _ => laidMetH Tryz.prog Rows.fnTermToNumberCaseTableRow.laid w) (fun _ _ _ hh h => h.of_heap hh) own started (by kernel_rfl) Tryz.func3
    (ChangeSpec.witness_shaped (enc := enc) (C := Tryz.checked) (os := os) (X := fun w _ => laidMetH Tryz.prog Rows.fnTermToNumberCaseTableRow.laid w) false (World.laidAll Tryz.prog os Rows.fnTermToNumberCaseTableRow.laid) #[.int .i64 0, .string ByteArray.empty] 8 (World.laidAll_os _ _ _)
      (World.shaped_of_ZipB (by kernel_rfl) (by kernel_rfl)) (by kernel_rfl) (by kernel_rfl) (by kernel_rfl)
      (by rw [MakeChecks.laidMetH_plain _ _ _ (by kernel_rfl)]; exact laidMet_laidAll _ (by kernel_rfl) (by kernel_rfl))) ?_
  intro W base args ds gs before hval0 hW hcnd _ hL _
  have hval : ∀ (j : Nat) t v, Tryz.f3.params[j]? = some t → args[j]? = some v → Value.okWide Tryz.prog W .any base t v := hval0
  have hW' := hW
  obtain ⟨p, q, hA0, hV0, rfl, hfz, hnd⟩ := hW
  have hA : DataW.TrodAll enc Tryz.prog W 0 (fun _ => true) true Tryz.f3.params.toList args.toList ds p := hA0
  rw [Tryz.params3] at hA hval
  obtain ⟨v0, vs0, d0, ds0, p0, q0, hargs, rfl, rfl, h0, r0⟩ := trodAll_cons hA
  obtain ⟨v1, vs1, d1, ds1, p1, q1, rfl, rfl, rfl, h1, r1⟩ := trodAll_cons r0
  obtain ⟨rfl, rfl, rfl⟩ := trodAll_nil r1
  obtain rfl : args = #[v0, v1] := by cases args; simp_all
  have hgl := trodVars_len hV0
  obtain ⟨g1, g2, rfl⟩ := len2 gs hgl
  obtain ⟨ty, rfl, rfl, rfl, w0⟩ := open_int Tryz.underlying3 (hval 0 3 v0 rfl rfl) h0
  obtain ⟨num, rfl, rfl, rfl, w1⟩ := open_string Tryz.underlying9 (hval 1 9 v1 rfl rfl) h1
  clear hA0 hval0
  simp only [List.append_nil, List.nil_append] at hW'
  refine (walk ty num w0 w1 W).mono fun e W' ⟨he, hg⟩ => ?_
  subst he
  exact ⟨_, rfl, post_belowV (pa := []) (pv := q) hW' (fun _ _ _ => (trodAll_cons_mk (shut_bool Tryz.underlying4 _) trodAll_mk0)) (fun sp _ => (trodAll_cons_mk (shut_int Tryz.underlying3 w0) (trodAll_cons_mk (shut_string Tryz.underlying9 w1) trodAll_mk0))) (hg.trodVars laidOut (by kernel_rfl) hV0) rfl hg⟩

theorem holds : Rows.FnTermToNumberCaseTableSaid :=
  OpenClaim.holds_of_wide 3 Tryz.f3 rfl rfl rfl rfl rfl rfl rfl ⟨rfl, rfl, rfl, rfl, rfl⟩ rfl rfl rfl rfl rfl (by kernel_rfl) Tryz.func3 (by kernel_rfl)
    (of_decide_eq_true (by kernel_rfl)) (by unfold Func.isWrapper; first | (rw [if_pos (by decide +kernel)]; kernel_rfl) | (rw [if_neg (by decide +kernel)]; exact ⟨rfl, rfl⟩))
    (fun os started H enc _ => lifted os started H enc)

theorem card_holds : Rows.FnTermToNumberCaseTableCardSaid :=
  Claim7.holds_tied_plain_at .later [] _ _ _ _ holds (fun _ h => by cases h) (by kernel_rfl) (fun _ h => by cases h) fnTermToNumberCaseTable_row_tie rfl ⟨rfl, rfl⟩ (by kernel_rfl) rfl
    (fun f fn hf hfn => by
      obtain rfl : f = 3 := Option.some.inj ((show Tryz.prog.funcNamed "github.com/itchyny/gojq/n001_38.FnTermToNumberCaseTable" = some 3 by kernel_rfl).symm.trans hf) |>.symm
      obtain rfl : fn = Tryz.f3 := (Option.some.inj (Tryz.func3.symm.trans hfn)).symm
      exact ⟨by kernel_rfl, fun j t ht => by
        rw [Tryz.params3] at ht
        have hm : t ∈ [3, 9] := by simpa using Array.mem_of_getElem? ht
        have hall : ([3, 9].all fun u => !Tryz.prog.wantsStandIn u) = true := by kernel_rfl
        exact (show Tryz.prog.wantsStandIn t = false by simpa using List.all_eq_true.1 hall t hm)⟩)
    (by kernel_rfl)
#print axioms card_holds
end Go.Proofs.YthcjepmdejljiaaGreatDoor.fnTermToNumberCaseTable
