/- toInt on the kinds of numbers. -/
import Derived.Test.YtafmnkpjohlcpaaGreatDoorRows
import Derived.Test.YtafmnkpjohlcpaaGreatDoorTie
import Derived.Test.YtafmnkpjohlcpaaGreatDoorCards
import Derived.WalkKit
import Derived.ProofKit
import Derived.OpenShut
import Derived.WalkSpells
import Derived.WalkLawsBesides
import Derived.Outline
import Derived.Lib.Hide
import Derived.ShutString
import Derived.Laws.Cover2
import Derived.LaidMore
import Derived.Lay
import Derived.SevenTiedAt
import Derived.Stop.Joined
import Derived.OpenVars
import Derived.Test.YtafmnkpjohlcpaaGreatDoorCom
import Derived.Test.YtafmnkpjohlcpaaGreatDoorTI
import Derived.Test.YtafmnkpjohlcpaaGreatDoorBI
import Derived.Test.YtafmnkpjohlcpaaGreatDoorJN
import Derived.Test.YtafmnkpjohlcpaaGreatDoorPN
import Derived.Test.YtafmnkpjohlcpaaGreatDoorIA
import Derived.Test.YtafmnkpjohlcpaaGreatDoorIW
import Derived.Test.YtafmnkpjohlcpaaGreatDoorNK
namespace Go.Proofs.YtafmnkpjohlcpaaGreatDoor.fnToIntNumberKindsAgree
open Go.ChangeShapes Go.WideShapes Go.ChangeAt Go.RowKit
open Go.ChangeMaps (open_string shut_string)
set_option linter.unusedVariables false

theorem own : ownKnob Tryz.prog.godebug = none := by kernel_rfl
theorem laidOut : laidOutB Tryz.prog = true := by kernel_rfl

theorem zb (n : Int) (s : ByteArray) (b : Bool) (w : World) (hs : s.size ≤ 1048576) :
    Calls Tryz.prog 12 #[.int .i64 n, .string s, .bool b] w fun r w' => r = .returned (.bool true) ∧ w = w' := by
  have t1 : decide ((s.size : Int) > 1048576) = false := by simp; omega
  go_enter Tryz.func12, Tryz.ntmps12
  go_wp2
  go_ret
  exact ⟨rfl, rfl⟩
theorem zbn (n : Int) (s : ByteArray) (b : Bool) (w : World) (hs : ¬ s.size ≤ 1048576) :
    Calls Tryz.prog 12 #[.int .i64 n, .string s, .bool b] w fun r w' => r = .returned (.bool false) ∧ w = w' := by
  have t1 : decide ((s.size : Int) > 1048576) = true := by simp; omega
  go_enter Tryz.func12, Tryz.ntmps12
  go_wp2
  go_ret
  exact ⟨rfl, rfl⟩

theorem walk (n : Int) (s : ByteArray) (b : Bool) (w0 : (Lit.int .i64 n).wf = true) (w1 : s.size ≤ maxLen) (w : World) :
    Calls Tryz.prog 5 #[.int .i64 n, .string s, .bool b] w fun e w' => e = .returned (.bool true) ∧ Below w.heap.size w w' := by
  by_cases hs : s.size ≤ 1048576
  rotate_left
  · go_enter Tryz.func5, Tryz.ntmps5
    go_wp2_with (go_at_call 12; refine (zbn n s b _ hs).mono ?_; rintro r w1 ⟨rfl, rfl⟩)
    go_ret
    exact ⟨rfl, Below.refl _ _⟩
  have t1 : decide ((s.size : Int) > 1048576) = false := by simp; omega
  have hr : -9223372036854775808 ≤ n ∧ n ≤ 9223372036854775807 := by
    have e1 : IntKind.i64.min = -9223372036854775808 := by decide
    simp [Lit.wf] at w0
    rw [e1] at w0
    exact w0
  obtain ⟨h0, h1⟩ := hr
  clear w0
  go_enter Tryz.func5, Tryz.ntmps5
  go_wp2_with (first | (go_at_call 12; refine (zb n s b _ hs).mono ?_; rintro r w1 ⟨rfl, rfl⟩) | (go_at_call 13; refine (z13 n _).mono ?_; rintro r w2 ⟨rfl, rfl⟩) | (go_at_call 15; refine (itoa64_any n _ h0 h1).mono ?_; rintro r w3 ⟨t, rfl, ts, tp, hb3⟩; replace tp := Lib.hid tp) | (go_at_call 14; refine (z14 t n _ h0 h1 ts tp.out).mono ?_; rintro r w4 ⟨rfl, hb4⟩) | (go_at_call 16; refine (z16 n _ h0 h1).mono ?_; rintro r w5 ⟨rfl, hb5⟩) | (go_at_call 17; refine (z17 s _).mono ?_; rintro r w6 ⟨rfl, rfl⟩) | (go_at_call 18; refine (z18 b _).mono ?_; rintro r w7 ⟨rfl, rfl⟩) | (go_at_call 19; refine (z19 _).mono ?_; rintro r w8 ⟨rfl, rfl⟩))
  go_ret
  exact ⟨rfl, (hb3.trans (hb4.mono hb3.size)).trans (hb5.mono (Nat.le_trans hb3.size hb4.size))⟩

set_option maxRecDepth 100000 in
theorem lifted (os : Os) (started : os.Started) (H : Type) (enc : TypeId × Value → H) :
    ReturnsInHanded {} Tryz.checked os 5 .any (fun w args => (Rows.fnToIntNumberKindsAgreeSpec.pre enc Tryz.prog Tryz.f5 Rows.fnToIntNumberKindsAgreeRow.domain false w args ∧ laidMetH Tryz.prog Rows.fnToIntNumberKindsAgreeRow.laid w) ∧ sizedMet enc Tryz.prog Tryz.f5 (OpenSpec.ofChange Rows.fnToIntNumberKindsAgreeSpec) false w args)
      (Rows.fnToIntNumberKindsAgreeSpec.post enc Tryz.prog Tryz.f5 false true false false) := by
  refine returnsInHanded_of_change_and (C := Tryz.checked) (X := fun w _ => laidMetH Tryz.prog Rows.fnToIntNumberKindsAgreeRow.laid w) (fun _ _ _ hh h => h.of_heap hh) own started (by kernel_rfl) Tryz.func5
    (ChangeSpec.witness_shaped (enc := enc) (C := Tryz.checked) (os := os) (X := fun w _ => laidMetH Tryz.prog Rows.fnToIntNumberKindsAgreeRow.laid w) false (World.laidAll Tryz.prog os Rows.fnToIntNumberKindsAgreeRow.laid) #[.int .i64 0, .string ByteArray.empty, .bool false] 8 (World.laidAll_os _ _ _)
      (World.shaped_of_ZipB (by kernel_rfl) (by kernel_rfl)) (by kernel_rfl) (by kernel_rfl) (by kernel_rfl)
      (by rw [MakeChecks.laidMetH_plain _ _ _ (by kernel_rfl)]; exact laidMet_laidAll _ (by kernel_rfl) (by kernel_rfl))) ?_
  intro W base args ds gs before hval0 hW hcnd _ hL _
  have hval : ∀ (j : Nat) t v, Tryz.f5.params[j]? = some t → args[j]? = some v → Value.okWide Tryz.prog W .any base t v := hval0
  have hW' := hW
  obtain ⟨p, q, hA0, hV0, rfl, hfz, hnd⟩ := hW
  have hA : DataW.TrodAll enc Tryz.prog W 0 (fun _ => true) true Tryz.f5.params.toList args.toList ds p := hA0
  rw [Tryz.params5] at hA hval
  obtain ⟨v0, vs0, d0, ds0, p0, q0, hargs, rfl, rfl, h0, r0⟩ := trodAll_cons hA
  obtain ⟨v1, vs1, d1, ds1, p1, q1, rfl, rfl, rfl, h1, r1⟩ := trodAll_cons r0
  obtain ⟨v2, vs2, d2, ds2, p2, q2, rfl, rfl, rfl, h2, r2⟩ := trodAll_cons r1
  obtain ⟨rfl, rfl, rfl⟩ := trodAll_nil r2
  obtain rfl : args = #[v0, v1, v2] := by cases args; simp_all
  have hgl := trodVars_len hV0
  obtain ⟨g1, g2, rfl⟩ := len2 gs hgl
  obtain ⟨n, rfl, rfl, rfl, w0⟩ := open_int Tryz.underlying2 (hval 0 2 v0 rfl rfl) h0
  obtain ⟨s, rfl, rfl, rfl, w1⟩ := open_string Tryz.underlying9 (hval 1 9 v1 rfl rfl) h1
  obtain ⟨b, rfl, rfl, rfl⟩ := open_bool Tryz.underlying4 (hval 2 4 v2 rfl rfl) h2
  clear hA0 hval0
  simp only [List.append_nil, List.nil_append] at hW'
  refine (walk n s b w0 w1 W).mono fun e W' ⟨he, hg⟩ => ?_
  subst he
  exact ⟨_, rfl, post_belowV (pa := []) (pv := q) hW' (fun _ _ _ => (trodAll_cons_mk (shut_bool Tryz.underlying4 _) trodAll_mk0)) (fun sp _ => (trodAll_cons_mk (shut_int Tryz.underlying2 w0) (trodAll_cons_mk (shut_string Tryz.underlying9 w1) (trodAll_cons_mk (shut_bool Tryz.underlying4 _) trodAll_mk0)))) (hg.trodVars laidOut (by kernel_rfl) hV0) rfl hg⟩

theorem holds : Rows.FnToIntNumberKindsAgreeSaid :=
  OpenClaim.holds_of_wide 5 Tryz.f5 rfl rfl rfl rfl rfl rfl rfl ⟨rfl, rfl, rfl, rfl, rfl⟩ rfl rfl rfl rfl rfl (by kernel_rfl) Tryz.func5 (by kernel_rfl)
    (of_decide_eq_true (by kernel_rfl)) (by unfold Func.isWrapper; first | (rw [if_pos (by decide +kernel)]; kernel_rfl) | (rw [if_neg (by decide +kernel)]; exact ⟨rfl, rfl⟩))
    (fun os started H enc _ => lifted os started H enc)

theorem card_holds : Rows.FnToIntNumberKindsAgreeCardSaid :=
  Claim7.holds_tied_plain_at .later [] _ _ _ _ holds (fun _ h => by cases h) (by kernel_rfl) (fun _ h => by cases h) fnToIntNumberKindsAgree_row_tie rfl ⟨rfl, rfl⟩ (by kernel_rfl) rfl
    (fun f fn hf hfn => by
      obtain rfl : f = 5 := Option.some.inj ((show Tryz.prog.funcNamed "github.com/itchyny/gojq/n001_21.FnToIntNumberKindsAgree" = some 5 by kernel_rfl).symm.trans hf) |>.symm
      obtain rfl : fn = Tryz.f5 := (Option.some.inj (Tryz.func5.symm.trans hfn)).symm
      exact ⟨by kernel_rfl, fun j t ht => by
        rw [Tryz.params5] at ht
        have hm : t ∈ [2, 9, 4] := by simpa using Array.mem_of_getElem? ht
        have hall : ([2, 9, 4].all fun u => !Tryz.prog.wantsStandIn u) = true := by kernel_rfl
        exact (show Tryz.prog.wantsStandIn t = false by simpa using List.all_eq_true.1 hall t hm)⟩)
    (by kernel_rfl)
#print axioms card_holds
end Go.Proofs.YtafmnkpjohlcpaaGreatDoor.fnToIntNumberKindsAgree
