/- halt is halt_error(null; 0). -/
import Derived.Test.YtafmnkpjohlcpaaGreatDoorRows
import Derived.Test.YtafmnkpjohlcpaaGreatDoorTie
import Derived.Test.YtafmnkpjohlcpaaGreatDoorCards
import Derived.WalkKit
import Derived.ProofKit
import Derived.OpenShut
import Derived.WalkSpells
import Derived.WalkLawsBesides
import Derived.Outline
import Derived.Lib.Hide
import Derived.ShutString
import Derived.Laws.Cover2
import Derived.LaidMore
import Derived.Lay
import Derived.SevenTiedAt
import Derived.Stop.Joined
import Derived.OpenVars
import Derived.Test.YtafmnkpjohlcpaaGreatDoorCom
import Derived.Test.YtafmnkpjohlcpaaGreatDoorTI
import Derived.Test.YtafmnkpjohlcpaaGreatDoorHE
namespace Go.Proofs.YtafmnkpjohlcpaaGreatDoor.fnFuncHaltIsHaltErrorNullZero
open Go.ChangeShapes Go.WideShapes Go.ChangeAt Go.RowKit
open Go.ChangeMaps (open_string shut_string)
set_option linter.unusedVariables false

theorem own : ownKnob Tryz.prog.godebug = none := by kernel_rfl
theorem laidOut : laidOutB Tryz.prog = true := by kernel_rfl

theorem zb (k i : Int) (s : ByteArray) (w : World) (hs : s.size ≤ 1048576) :
    Calls Tryz.prog 10 #[.int .i64 k, .int .i64 i, .string s] w fun r w' => r = .returned (.bool true) ∧ w = w' := by
  have t1 : decide ((s.size : Int) > 1048576) = false := by simp; omega
  go_enter Tryz.func10, Tryz.ntmps10
  go_wp2
  go_ret
  exact ⟨rfl, rfl⟩
theorem zbn (k i : Int) (s : ByteArray) (w : World) (hs : ¬ s.size ≤ 1048576) :
    Calls Tryz.prog 10 #[.int .i64 k, .int .i64 i, .string s] w fun r w' => r = .returned (.bool false) ∧ w = w' := by
  have t1 : decide ((s.size : Int) > 1048576) = true := by simp; omega
  go_enter Tryz.func10, Tryz.ntmps10
  go_wp2
  go_ret
  exact ⟨rfl, rfl⟩

theorem zz9_x (x : Int) (w : World) (hx : x = 1 ∨ x = 3) :
    Calls Tryz.prog 9 #[.int .i64 0, .int .i64 0, .string ⟨#[]⟩, .bool true, .int .i64 x, .int .i64 0, .string ⟨#[]⟩, .float .f64 0] w fun r w' =>
      r = .returned (.tuple #[.bool false, .bool true, .bool false, .int .i64 0, .int .i64 0, .string ⟨#[]⟩, .int .i64 0]) ∧ Below w.heap.size w w' := by
  rcases hx with rfl | rfl
  · exact zz9_int w
  · exact zz9_float w

theorem walk (vKind vInt : Int) (vStr : ByteArray) (w0 : (Lit.int .i64 vKind).wf = true) (w1 : (Lit.int .i64 vInt).wf = true) (w2 : vStr.size ≤ maxLen) (w : World) :
    Calls Tryz.prog 4 #[.int .i64 vKind, .int .i64 vInt, .string vStr] w fun e w' => e = .returned (.bool true) ∧ Below w.heap.size w w' := by
  by_cases hs : vStr.size ≤ 1048576
  rotate_left
  · go_enter Tryz.func4, Tryz.ntmps4
    go_wp2_with (first | (go_at_call 10; refine (zbn vKind vInt vStr _ hs).mono ?_; rintro r w1 ⟨rfl, rfl⟩))
    go_ret
    exact ⟨rfl, Below.refl _ _⟩
  have t1 : decide ((vStr.size : Int) > 1048576) = false := by simp; omega
  by_cases h0 : 0 ≤ vKind
  rotate_left
  · have t2 : decide (vKind < 0) = true := by simp; omega
    go_enter Tryz.func4, Tryz.ntmps4
    go_wp2_with (first | (go_at_call 10; refine (zb vKind vInt vStr _ hs).mono ?_; rintro r w1 ⟨rfl, rfl⟩))
    go_ret
    exact ⟨rfl, Below.refl _ _⟩
  have t2 : decide (vKind < 0) = false := by simp; omega
  by_cases h2 : vKind ≤ 2
  rotate_left
  · have t3 : decide (vKind > 2) = true := by simp; omega
    go_enter Tryz.func4, Tryz.ntmps4
    go_wp2_with (first | (go_at_call 10; refine (zb vKind vInt vStr _ hs).mono ?_; rintro r w1 ⟨rfl, rfl⟩))
    go_ret
    exact ⟨rfl, Below.refl _ _⟩
  have t3 : decide (vKind > 2) = false := by simp; omega
  go_enter Tryz.func4, Tryz.ntmps4
  go_wp2_with (first | (go_at_call 10; refine (zb vKind vInt vStr _ hs).mono ?_; rintro r w1 ⟨rfl, rfl⟩) | (go_at_call 11; refine (zz11 vKind vInt vStr _ h0 h2).mono ?_; rintro r w3 ⟨rfl, hb3⟩) | (go_at_call 9; refine (zz9_x _ _ (by decide)).mono ?_; rintro r w4 ⟨rfl, hb4⟩))
  go_ret
  rename_i wz hbz
  exact ⟨rfl, (hb3.trans (hbz.mono hb3.size)).trans (hb4.mono (Nat.le_trans hb3.size hbz.size))⟩

set_option maxRecDepth 100000 in
theorem lifted (os : Os) (started : os.Started) (H : Type) (enc : TypeId × Value → H) :
    ReturnsInHanded {} Tryz.checked os 4 .any (fun w args => (Rows.fnFuncHaltIsHaltErrorNullZeroSpec.pre enc Tryz.prog Tryz.f4 Rows.fnFuncHaltIsHaltErrorNullZeroRow.domain false w args ∧ laidMetH Tryz.prog Rows.fnFuncHaltIsHaltErrorNullZeroRow.laid w) ∧ sizedMet enc Tryz.prog Tryz.f4 (OpenSpec.ofChange Rows.fnFuncHaltIsHaltErrorNullZeroSpec) false w args)
      (Rows.fnFuncHaltIsHaltErrorNullZeroSpec.post enc Tryz.prog Tryz.f4 false true false false) := by
  refine returnsInHanded_of_change_and (C := Tryz.checked) (X := fun w _ => laidMetH Tryz.prog Rows.fnFuncHaltIsHaltErrorNullZeroRow.laid w) (fun _ _ _ hh h => h.of_heap hh) own started (by kernel_rfl) Tryz.func4
    (ChangeSpec.witness_shaped (enc := enc) (C := Tryz.checked) (os := os) (X := fun w _ => laidMetH Tryz.prog Rows.fnFuncHaltIsHaltErrorNullZeroRow.laid w) false (World.laidAll Tryz.prog os Rows.fnFuncHaltIsHaltErrorNullZeroRow.laid) #[.int .i64 0, .int .i64 0, .string ByteArray.empty] 8 (World.laidAll_os _ _ _)
      (World.shaped_of_ZipB (by kernel_rfl) (by kernel_rfl)) (by kernel_rfl) (by kernel_rfl) (by kernel_rfl)
      (by rw [MakeChecks.laidMetH_plain _ _ _ (by kernel_rfl)]; exact laidMet_laidAll _ (by kernel_rfl) (by kernel_rfl))) ?_
  intro W base args ds gs before hval0 hW hcnd _ hL _
  have hval : ∀ (j : Nat) t v, Tryz.f4.params[j]? = some t → args[j]? = some v → Value.okWide Tryz.prog W .any base t v := hval0
  have hW' := hW
  obtain ⟨p, q, hA0, hV0, rfl, hfz, hnd⟩ := hW
  have hA : DataW.TrodAll enc Tryz.prog W 0 (fun _ => true) true Tryz.f4.params.toList args.toList ds p := hA0
  rw [Tryz.params4] at hA hval
  obtain ⟨v0, vs0, d0, ds0, p0, q0, hargs, rfl, rfl, h0, r0⟩ := trodAll_cons hA
  obtain ⟨v1, vs1, d1, ds1, p1, q1, rfl, rfl, rfl, h1, r1⟩ := trodAll_cons r0
  obtain ⟨v2, vs2, d2, ds2, p2, q2, rfl, rfl, rfl, h2, r2⟩ := trodAll_cons r1
  obtain ⟨rfl, rfl, rfl⟩ := trodAll_nil r2
  obtain rfl : args = #[v0, v1, v2] := by cases args; simp_all
  have hgl := trodVars_len hV0
  obtain ⟨g1, g2, rfl⟩ := len2 gs hgl
  obtain ⟨vKind, rfl, rfl, rfl, w0⟩ := open_int Tryz.underlying3 (hval 0 3 v0 rfl rfl) h0
  obtain ⟨vInt, rfl, rfl, rfl, w1⟩ := open_int Tryz.underlying3 (hval 1 3 v1 rfl rfl) h1
  obtain ⟨vStr, rfl, rfl, rfl, w2⟩ := open_string Tryz.underlying9 (hval 2 9 v2 rfl rfl) h2
  clear hA0 hval0
  simp only [List.append_nil, List.nil_append] at hW'
  refine (walk vKind vInt vStr w0 w1 w2 W).mono fun e W' ⟨he, hg⟩ => ?_
  subst he
  exact ⟨_, rfl, post_belowV (pa := []) (pv := q) hW' (fun _ _ _ => (trodAll_cons_mk (shut_bool Tryz.underlying4 _) trodAll_mk0)) (fun sp _ => (trodAll_cons_mk (shut_int Tryz.underlying3 w0) (trodAll_cons_mk (shut_int Tryz.underlying3 w1) (trodAll_cons_mk (shut_string Tryz.underlying9 w2) trodAll_mk0)))) (hg.trodVars laidOut (by kernel_rfl) hV0) rfl hg⟩

theorem holds : Rows.FnFuncHaltIsHaltErrorNullZeroSaid :=
  OpenClaim.holds_of_wide 4 Tryz.f4 rfl rfl rfl rfl rfl rfl rfl ⟨rfl, rfl, rfl, rfl, rfl⟩ rfl rfl rfl rfl rfl (by kernel_rfl) Tryz.func4 (by kernel_rfl)
    (of_decide_eq_true (by kernel_rfl)) (by unfold Func.isWrapper; first | (rw [if_pos (by decide +kernel)]; kernel_rfl) | (rw [if_neg (by decide +kernel)]; exact ⟨rfl, rfl⟩))
    (fun os started H enc _ => lifted os started H enc)

theorem card_holds : Rows.FnFuncHaltIsHaltErrorNullZeroCardSaid :=
  Claim7.holds_tied_plain_at .later [] _ _ _ _ holds (fun _ h => by cases h) (by kernel_rfl) (fun _ h => by cases h) fnFuncHaltIsHaltErrorNullZero_row_tie rfl ⟨rfl, rfl⟩ (by kernel_rfl) rfl
    (fun f fn hf hfn => by
      obtain rfl : f = 4 := Option.some.inj ((show Tryz.prog.funcNamed "github.com/itchyny/gojq/n001_21.FnFuncHaltIsHaltErrorNullZero" = some 4 by kernel_rfl).symm.trans hf) |>.symm
      obtain rfl : fn = Tryz.f4 := (Option.some.inj (Tryz.func4.symm.trans hfn)).symm
      exact ⟨by kernel_rfl, fun j t ht => by
        rw [Tryz.params4] at ht
        have hm : t ∈ [3, 3, 9] := by simpa using Array.mem_of_getElem? ht
        have hall : ([3, 3, 9].all fun u => !Tryz.prog.wantsStandIn u) = true := by kernel_rfl
        exact (show Tryz.prog.wantsStandIn t = false by simpa using List.all_eq_true.1 hall t hm)⟩)
    (by kernel_rfl)
#print axioms card_holds
end Go.Proofs.YtafmnkpjohlcpaaGreatDoor.fnFuncHaltIsHaltErrorNullZero
