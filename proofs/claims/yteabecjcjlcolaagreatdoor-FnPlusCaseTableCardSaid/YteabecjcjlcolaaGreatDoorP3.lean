/- For every int, float, string and bool: plus gives a number of any kind back as it is, and refuses a string, a bool, null, an array and an object with the plus error, which holds the value. A string over 1048576 bytes is passed over. Condition: the laid variables hold what the program's text lays. -/
import Derived.Test.YteabecjcjlcolaaGreatDoorRows
import Derived.Test.YteabecjcjlcolaaGreatDoorTie
import Derived.Test.YteabecjcjlcolaaGreatDoorCards
import Derived.WalkKit
import Derived.ProofKit
import Derived.OpenShut
import Derived.WalkSpells
import Derived.WalkLawsBesides
import Derived.Outline
import Derived.Lib.Hide
import Derived.ShutString
import Derived.Laws.Cover2
import Derived.LaidMore
import Derived.Lay
import Derived.SevenTiedAt
import Derived.Stop.Joined
import Derived.OpenVars
import Derived.Test.YteabecjcjlcolaaGreatDoorSF
import Derived.Test.YteabecjcjlcolaaGreatDoorLS
namespace Go.Proofs.YteabecjcjlcolaaGreatDoor.fnPlusCaseTable
open Go.ChangeShapes Go.WideShapes Go.ChangeAt Go.RowKit
open Go.ChangeMaps (open_string shut_string)
set_option linter.unusedVariables false

theorem own : ownKnob Tryz.prog.godebug = none := by kernel_rfl
theorem laidOut : laidOutB Tryz.prog = true := by kernel_rfl

theorem walk (i : Int) (f : Nat) (s : ByteArray) (b : Bool) (w0 : (Lit.int .i64 i).wf = true) (w1 : (Lit.float .f64 f).wf = true) (w2 : s.size ≤ maxLen) (w : World) (hL : laidMetH Tryz.prog Rows.fnPlusCaseTableRow.laid w) :
    Calls Tryz.prog 4 #[.int .i64 i, .float .f64 f, .string s, .bool b] w fun e w' => e = .returned (.bool true) ∧ Below w.heap.size w w' := by
  have hl := leaf_of w Rows.fnPlusCaseTableRow.laid (by kernel_rfl) (.tail _ (.tail _ (.head _))) hL
  clear hL
  simp [Lit.wf] at w0
  have hmin : IntKind.i64.min = -9223372036854775808 := rfl
  rw [hmin] at w0
  have hf : f < 18446744073709551616 := by
    simp [Lit.wf] at w1
    exact w1
  have l1 : 1 < w.heap.size := World.block_lt_of_cell? w _ hl
  have HL := Lib.hid hl
  clear hl
  by_cases hs : s.size ≤ 1048576
  rotate_left
  · go_enter Tryz.func4, Tryz.ntmps4
    go_wp2_with (go_at_call 11; refine (zb_no i f s b _ hs).mono ?_; rintro r w2 ⟨rfl, rfl⟩)
    go_ret
    exact ⟨rfl, Below.refl _ _⟩
  have hs1 : decide ((s.size : Int) > 1048576) = false := by simp; omega
  have HI := Lib.hid (fun w => itoa_any i w (by omega) (by omega))
  have HG := Lib.hid (fun w hl => zplus_big i w (by omega) (by omega) hl)
  generalize itoaB i = T at HI HG
  have e1 : (T.toList != T.toList) = false := by simp
  have e2 : (s.toList != s.toList) = false := by simp
  have e3 : (b != b) = false := by simp
  go_enter Tryz.func4, Tryz.ntmps4
  go_wp2_with (first | (go_at_call 11; refine (zb_yes i f s b _ hs).mono ?_; rintro r w2 ⟨rfl, rfl⟩) | (go_at_call 12; refine (zplus_int i _).mono ?_; rintro r w2 ⟨rfl, rfl⟩) | (go_at_call 13; refine (zplus_float f _).mono ?_; rintro r w2 ⟨rfl, rfl⟩) | (go_at_call 14; refine (same_self f hf _).mono ?_; rintro r wa ⟨rfl, B⟩; have HB1 := Lib.hid B; clear B) | (go_at_call 15; refine (zplus_number s _).mono ?_; rintro r w2 ⟨rfl, rfl⟩) | (go_at_call 16; refine (HG.out _ ((World.cell?_of_block (HB1.out.block _ l1)).trans HL.out)).mono ?_; rintro r wb ⟨rfl, B⟩; have HB2 := Lib.hid (HB1.out.trans (B.mono HB1.out.size)); clear B) | (go_at_call 7; refine (HI.out _).mono ?_; rintro r wc ⟨rfl, B⟩; have HB3 := Lib.hid (HB2.out.trans (B.mono HB2.out.size)); clear B) | (go_at_call 17; refine (zplus_string s _).mono ?_; rintro r wd ⟨rfl, B⟩; have HB4 := Lib.hid (HB3.out.trans (B.mono HB3.out.size)); clear B) | (go_at_call 18; refine (zplus_bool b _).mono ?_; rintro r we ⟨rfl, B⟩; have HB5 := Lib.hid (HB4.out.trans (B.mono HB4.out.size)); clear B) | (go_at_call 19; refine (zplus_nil _).mono ?_; rintro r wf ⟨rfl, B⟩; have HB6 := Lib.hid (HB5.out.trans (B.mono HB5.out.size)); clear B) | (go_at_call 20; refine (zplus_array _).mono ?_; rintro r wg ⟨rfl, B⟩; have HB7 := Lib.hid (HB6.out.trans (B.mono HB6.out.size)); clear B) | (go_at_call 21; refine (zplus_map _).mono ?_; rintro r wh ⟨rfl, B⟩; have HB8 := Lib.hid (HB7.out.trans (B.mono HB7.out.size)); clear B))
  go_ret
  exact ⟨rfl, HB8.out⟩

set_option maxRecDepth 100000 in
theorem lifted (os : Os) (started : os.Started) (H : Type) (enc : TypeId × Value → H) :
    ReturnsInHanded {} Tryz.checked os 4 .any (fun w args => (Rows.fnPlusCaseTableSpec.pre enc Tryz.prog Tryz.f4 Rows.fnPlusCaseTableRow.domain false w args ∧ laidMetH Tryz.prog Rows.fnPlusCaseTableRow.laid w) ∧ sizedMet enc Tryz.prog Tryz.f4 (OpenSpec.ofChange Rows.fnPlusCaseTableSpec) false w args)
      (Rows.fnPlusCaseTableSpec.post enc Tryz.prog Tryz.f4 false true false false) := by
  refine returnsInHanded_of_change_and (C := Tryz.checked) (X := fun w _ => laidMetH Tryz.prog Rows.fnPlusCaseTableRow.laid w) (fun _ _ _ hh h => h.of_heap hh) own started (by kernel_rfl) Tryz.func4
    (ChangeSpec.witness_shaped (enc := enc) (C := Tryz.checked) (os := os) (X := fun w _ => laidMetH Tryz.prog Rows.fnPlusCaseTableRow.laid w) false (World.laidAll Tryz.prog os Rows.fnPlusCaseTableRow.laid) #[.int .i64 0, .float .f64 0, .string ByteArray.empty, .bool false] 8 (World.laidAll_os _ _ _)
      (World.shaped_of_ZipB (by kernel_rfl) (by kernel_rfl)) (by kernel_rfl) (by kernel_rfl) (by kernel_rfl)
      (by rw [MakeChecks.laidMetH_plain _ _ _ (by kernel_rfl)]; exact laidMet_laidAll _ (by kernel_rfl) (by kernel_rfl))) ?_
  intro W base args ds gs before hval0 hW hcnd _ hL _
  have hval : ∀ (j : Nat) t v, Tryz.f4.params[j]? = some t → args[j]? = some v → Value.okWide Tryz.prog W .any base t v := hval0
  have hW' := hW
  obtain ⟨p, q, hA0, hV0, rfl, hfz, hnd⟩ := hW
  have hA : DataW.TrodAll enc Tryz.prog W 0 (fun _ => true) true Tryz.f4.params.toList args.toList ds p := hA0
  rw [Tryz.params4] at hA hval
  obtain ⟨v0, vs0, d0, ds0, p0, q0, hargs, rfl, rfl, h0, r0⟩ := trodAll_cons hA
  obtain ⟨v1, vs1, d1, ds1, p1, q1, rfl, rfl, rfl, h1, r1⟩ := trodAll_cons r0
  obtain ⟨v2, vs2, d2, ds2, p2, q2, rfl, rfl, rfl, h2, r2⟩ := trodAll_cons r1
  obtain ⟨v3, vs3, d3, ds3, p3, q3, rfl, rfl, rfl, h3, r3⟩ := trodAll_cons r2
  obtain ⟨rfl, rfl, rfl⟩ := trodAll_nil r3
  obtain rfl : args = #[v0, v1, v2, v3] := by cases args; simp_all
  have hgl := trodVars_len hV0
  obtain ⟨g1, g2, g3, g4, g5, rfl⟩ := len5 gs hgl
  obtain ⟨i, rfl, rfl, rfl, w0⟩ := open_int Tryz.underlying3 (hval 0 3 v0 rfl rfl) h0
  obtain ⟨f, rfl, rfl, rfl, w1⟩ := open_float Tryz.underlying29 (hval 1 29 v1 rfl rfl) h1
  obtain ⟨s, rfl, rfl, rfl, w2⟩ := open_string Tryz.underlying9 (hval 2 9 v2 rfl rfl) h2
  obtain ⟨b, rfl, rfl, rfl⟩ := open_bool Tryz.underlying4 (hval 3 4 v3 rfl rfl) h3
  clear hA0 hval0
  simp only [List.append_nil, List.nil_append] at hW'
  refine (walk i f s b w0 w1 w2 W hL).mono fun e W' ⟨he, hg⟩ => ?_
  subst he
  exact ⟨_, rfl, post_belowV (pa := []) (pv := q) hW' (fun _ _ _ => (trodAll_cons_mk (shut_bool Tryz.underlying4 _) trodAll_mk0)) (fun sp _ => (trodAll_cons_mk (shut_int Tryz.underlying3 w0) (trodAll_cons_mk (shut_float Tryz.underlying29 w1) (trodAll_cons_mk (shut_string Tryz.underlying9 w2) (trodAll_cons_mk (shut_bool Tryz.underlying4 _) trodAll_mk0))))) (hg.trodVars laidOut (by kernel_rfl) hV0) rfl hg⟩

theorem holds : Rows.FnPlusCaseTableSaid :=
  OpenClaim.holds_of_wide 4 Tryz.f4 rfl rfl rfl rfl rfl rfl rfl ⟨rfl, rfl, rfl, rfl, rfl⟩ rfl rfl rfl rfl rfl (by kernel_rfl) Tryz.func4 (by kernel_rfl)
    (of_decide_eq_true (by kernel_rfl)) (by unfold Func.isWrapper; first | (rw [if_pos (by decide +kernel)]; kernel_rfl) | (rw [if_neg (by decide +kernel)]; exact ⟨rfl, rfl⟩))
    (fun os started H enc _ => lifted os started H enc)

theorem card_holds : Rows.FnPlusCaseTableCardSaid :=
  Claim7.holds_tied_plain_at .later [] _ _ _ _ holds (fun _ h => by cases h) (by kernel_rfl) (fun _ h => by cases h) fnPlusCaseTable_row_tie rfl ⟨rfl, rfl⟩ (by kernel_rfl) rfl
    (fun f fn hf hfn => by
      obtain rfl : f = 4 := Option.some.inj ((show Tryz.prog.funcNamed "github.com/itchyny/gojq/n001_74.FnPlusCaseTable" = some 4 by kernel_rfl).symm.trans hf) |>.symm
      obtain rfl : fn = Tryz.f4 := (Option.some.inj (Tryz.func4.symm.trans hfn)).symm
      exact ⟨by kernel_rfl, fun j t ht => by
        rw [Tryz.params4] at ht
        have hm : t ∈ [3, 29, 9, 4] := by simpa using Array.mem_of_getElem? ht
        have hall : ([3, 29, 9, 4].all fun u => !Tryz.prog.wantsStandIn u) = true := by kernel_rfl
        exact (show Tryz.prog.wantsStandIn t = false by simpa using List.all_eq_true.1 hall t hm)⟩)
    (by kernel_rfl)
#print axioms card_holds
end Go.Proofs.YteabecjcjlcolaaGreatDoor.fnPlusCaseTable
