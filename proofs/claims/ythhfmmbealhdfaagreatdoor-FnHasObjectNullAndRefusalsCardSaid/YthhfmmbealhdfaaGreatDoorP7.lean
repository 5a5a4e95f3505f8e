/- has on an object built from the keys ks answers whether the string x is among them, has on null answers false, and the other calls of has that the law makes are refused with an error; no condition (an int is 64 bits wide). -/
import Derived.Test.YthhfmmbealhdfaaGreatDoorRows
import Derived.Test.YthhfmmbealhdfaaGreatDoorTie
import Derived.Test.YthhfmmbealhdfaaGreatDoorCards
import Derived.WalkKit
import Derived.ProofKit
import Derived.OpenShut
import Derived.WalkSpells
import Derived.WalkLawsBesides
import Derived.Outline
import Derived.Lib.Hide
import Derived.ShutString
import Derived.Laws.Cover2
import Derived.LaidMore
import Derived.Lay
import Derived.SevenTiedAt
import Derived.Stop.Joined
import Derived.OpenVars
import Derived.Test.YthhfmmbealhdfaaGreatDoorH7
import Derived.Test.YthhfmmbealhdfaaGreatDoorST
import Derived.Test.YthhfmmbealhdfaaGreatDoorSL
import Derived.Test.YthhfmmbealhdfaaGreatDoorCom
namespace Go.Proofs.YthhfmmbealhdfaaGreatDoor.fnHasObjectNullAndRefusals
open Go.ChangeShapes Go.WideShapes Go.ChangeAt Go.RowKit
open Go.ChangeMaps (open_string shut_string)
set_option linter.unusedVariables false

theorem own : ownKnob Tryz.prog.godebug = none := by kernel_rfl
theorem laidOut : laidOutB Tryz.prog = true := by kernel_rfl

set_option maxRecDepth 100000 in
theorem walk (ks : Value) (kss : List ByteArray) (x : ByteArray) (i : Int) (f : Nat) (w1 : x.size ≤ maxLen) (w2 : (Lit.int .i64 i).wf = true) (w3 : (Lit.float .f64 f).wf = true) (w : World) (hks : StrsAt w ks kss) :
    Calls Tryz.prog 4 #[ks, .string x, .int .i64 i, .float .f64 f] w fun e w' => e = .returned (.bool true) ∧ Below w.heap.size w w' := by
  have HKS := Lib.hid hks
  obtain ⟨a0, cap0, rfl, hsl, -, hml, hmz⟩ := hks.parts
  have HZB := Lib.hid (fun w h => zb_any a0 cap0 kss x i f w h hml hmz w1)
  have HSL := Lib.hid hsl
  have w1' := w1
  have hmx : maxLen = 9223372036854775807 := rfl
  rw [hmx] at w1' hml
  clear hks hsl w1 w2 w3 hmx
  by_cases q0 : kss.length + sumTo kss kss.length + x.size ≤ 1048576
  rotate_left
  · rw [decide_eq_false q0] at HZB
    clear q0
    go_enter Tryz.func4, Tryz.ntmps4
    go_wp2_with (go_at_call 7; refine (HZB.out _ HSL.out).mono ?_; rintro r w2 ⟨rfl, rfl⟩)
    go_ret
    exact ⟨rfl, Below.refl _ _⟩
  rw [decide_eq_true q0] at HZB
  have HZ1 : Hid (∀ j, j < kss.length → (kss.getD j ByteArray.empty).size ≤ 1048576) := Lib.hid (fun j hj => by
    have h1 := sumTo_le kss (show j + 1 ≤ kss.length from hj)
    have h2 : sumTo kss (j + 1) = sumTo kss j + (kss.getD j ByteArray.empty).size := rfl
    omega)
  have q1 : kss.length ≤ 1048576 := by omega
  have q2 : x.size ≤ 1048576 := by omega
  clear q0 hmz
  by_cases p1 : kss.length ≤ 65536
  rotate_left
  · have t1 : decide ((kss.length : Int) > 65536) = true := decide_eq_true (by omega)
    go_enter Tryz.func4, Tryz.ntmps4
    go_wp2_with (go_at_call 7; refine (HZB.out _ HSL.out).mono ?_; rintro r w2 ⟨rfl, rfl⟩)
    go_ret
    exact ⟨rfl, Below.refl _ _⟩
  have t1 : decide ((kss.length : Int) > 65536) = false := decide_eq_false (by omega)
  by_cases p2 : x.size ≤ 65536
  rotate_left
  · have t2 : decide ((x.size : Int) > 65536) = true := decide_eq_true (by omega)
    go_enter Tryz.func4, Tryz.ntmps4
    go_wp2_with (go_at_call 7; refine (HZB.out _ HSL.out).mono ?_; rintro r w2 ⟨rfl, rfl⟩)
    go_ret
    exact ⟨rfl, Below.refl _ _⟩
  have t2 : decide ((x.size : Int) > 65536) = false := decide_eq_false (by omega)
  obtain ⟨t, HSB, ht⟩ : ∃ t : Nat, Hid (∀ w, SlotsAt w a0 (kss.map Value.string) → Calls Tryz.prog 8 #[.slice a0 kss.length cap0] w fun r w' => r = .returned (.int .i64 t) ∧ w = w') ∧ t ≤ 4194304 := sb_det a0 cap0 kss p1 HZ1.out
  by_cases p3 : t + x.size ≤ 1048576
  rotate_left
  · have t3 : decide ((t : Int) + (x.size : Int) > 1048576) = true := decide_eq_true (by omega)
    go_enter Tryz.func4, Tryz.ntmps4
    go_wp2_with (first | (go_at_call 7; refine (HZB.out _ HSL.out).mono ?_; rintro r w2 ⟨rfl, rfl⟩) | (go_at_call 8; refine (HSB.out _ HSL.out).mono ?_; rintro r w2 ⟨rfl, rfl⟩))
    go_ret
    exact ⟨rfl, Below.refl _ _⟩
  have t3 : decide ((t : Int) + (x.size : Int) > 1048576) = false := decide_eq_false (by omega)
  have HCL := Lib.hid (fun w h => cloneS_any (.slice a0 kss.length cap0) kss w h (by omega))
  have HIN := Lib.hid (fun a c w h => in_any a c kss x w h p1)
  have HO1 := Lib.hid (fun a c w h => zhas_Object a c kss x w h p1 HZ1.out q2)
  have HO2 := Lib.hid (fun a c w h => zhas_ObjectInt a c kss i w h p1 HZ1.out)
  have HO3 := Lib.hid (fun a c w h => zhas_ObjectFloat a c kss f w h p1 HZ1.out)
  obtain ⟨m, hm⟩ : ∃ m, m = memB kss x := ⟨_, rfl⟩
  rw [← hm] at HIN HO1
  clear hm HZ1
  go_enter Tryz.func4, Tryz.ntmps4
  have e1 : (m != m) = false := by simp
  go_wp2_with (first | (go_at_call 7; refine (HZB.out _ HSL.out).mono ?_; rintro r w2 ⟨rfl, rfl⟩) | (go_at_call 8; refine (HSB.out _ HSL.out).mono ?_; rintro r w2 ⟨rfl, rfl⟩) | (go_at_call 9; refine (HCL.out _ HKS.out).mono ?_; rintro r wa ⟨a1, c1, rfl, h1, B1⟩; have H1 := Lib.hid h1; have HB1 := Lib.hid B1; clear h1 B1) | (go_at_call 10; refine (HIN.out _ _ _ H1.out).mono ?_; rintro r w2 ⟨rfl, rfl⟩) | (go_at_call 11; refine (HO1.out _ _ _ H1.out).mono ?_; rintro r wb ⟨rfl, B⟩; have H2 := Lib.hid (H1.out.below B); have HB2 := Lib.hid (HB1.out.trans (B.mono HB1.out.size)); clear B) | (go_at_call 12; refine (zhas_Null x _).mono ?_; rintro r w2 ⟨rfl, rfl⟩) | (go_at_call 13; refine (HO2.out _ _ _ H2.out).mono ?_; rintro r wc ⟨rfl, B⟩; have H3 := Lib.hid (H2.out.below B); have HB3 := Lib.hid (HB2.out.trans (B.mono HB2.out.size)); clear B) | (go_at_call 14; refine (HO3.out _ _ _ H3.out).mono ?_; rintro r wd ⟨rfl, B⟩; have HB4 := Lib.hid (HB3.out.trans (B.mono HB3.out.size)); clear B) | (go_at_call 15; refine (zhas_ArrayString kss.length x _ p1).mono ?_; rintro r we ⟨rfl, B⟩; have HB5 := Lib.hid (HB4.out.trans (B.mono HB4.out.size)); clear B) | (go_at_call 16; refine (zhas_Number i i _).mono ?_; rintro r wf ⟨rfl, B⟩; have HB6 := Lib.hid (HB5.out.trans (B.mono HB5.out.size)); clear B) | (go_at_call 17; refine (zhas_NumberString i x _).mono ?_; rintro r wg ⟨rfl, B⟩; have HB7 := Lib.hid (HB6.out.trans (B.mono HB6.out.size)); clear B) | (go_at_call 18; refine (zhas_FloatFloat f f _).mono ?_; rintro r wh ⟨rfl, B⟩; have HB8 := Lib.hid (HB7.out.trans (B.mono HB7.out.size)); clear B))
  go_ret
  exact ⟨rfl, HB8.out⟩

set_option maxRecDepth 100000 in
theorem lifted (os : Os) (started : os.Started) (H : Type) (enc : TypeId × Value → H) :
    ReturnsInHanded {} Tryz.checked os 4 .any (fun w args => (Rows.fnHasObjectNullAndRefusalsSpec.pre enc Tryz.prog Tryz.f4 Rows.fnHasObjectNullAndRefusalsRow.domain false w args ∧ laidMetH Tryz.prog Rows.fnHasObjectNullAndRefusalsRow.laid w) ∧ sizedMet enc Tryz.prog Tryz.f4 (OpenSpec.ofChange Rows.fnHasObjectNullAndRefusalsSpec) false w args)
      (Rows.fnHasObjectNullAndRefusalsSpec.post enc Tryz.prog Tryz.f4 false true false false) := by
  refine returnsInHanded_of_change_and (C := Tryz.checked) (X := fun w _ => laidMetH Tryz.prog Rows.fnHasObjectNullAndRefusalsRow.laid w) (fun _ _ _ hh h => h.of_heap hh) own started (by kernel_rfl) Tryz.func4
    (ChangeSpec.witness_shaped (enc := enc) (C := Tryz.checked) (os := os) (X := fun w _ => laidMetH Tryz.prog Rows.fnHasObjectNullAndRefusalsRow.laid w) false (World.laidAll Tryz.prog os Rows.fnHasObjectNullAndRefusalsRow.laid) #[.slice none 0 0, .string ByteArray.empty, .int .i64 0, .float .f64 0] 8 (World.laidAll_os _ _ _)
      (World.shaped_of_ZipB (by kernel_rfl) (by kernel_rfl)) (by kernel_rfl) (by kernel_rfl) (by kernel_rfl)
      (by rw [MakeChecks.laidMetH_plain _ _ _ (by kernel_rfl)]; exact laidMet_laidAll _ (by kernel_rfl) (by kernel_rfl))) ?_
  intro W base args ds gs before hval0 hW hcnd _ hL _
  have hval : ∀ (j : Nat) t v, Tryz.f4.params[j]? = some t → args[j]? = some v → Value.okWide Tryz.prog W .any base t v := hval0
  have hW' := hW
  obtain ⟨p, q, hA0, hV0, rfl, hfz, hnd⟩ := hW
  have hA : DataW.TrodAll enc Tryz.prog W 0 (fun _ => true) true Tryz.f4.params.toList args.toList ds p := hA0
  rw [Tryz.params4] at hA hval
  obtain ⟨v0, vs0, d0, ds0, p0, q0, hargs, rfl, rfl, h0, r0⟩ := trodAll_cons hA
  obtain ⟨v1, vs1, d1, ds1, p1, q1, rfl, rfl, rfl, h1, r1⟩ := trodAll_cons r0
  obtain ⟨v2, vs2, d2, ds2, p2, q2, rfl, rfl, rfl, h2, r2⟩ := trodAll_cons r1
  obtain ⟨v3, vs3, d3, ds3, p3, q3, rfl, rfl, rfl, h3, r3⟩ := trodAll_cons r2
  obtain ⟨rfl, rfl, rfl⟩ := trodAll_nil r3
  obtain rfl : args = #[v0, v1, v2, v3] := by cases args; simp_all
  have hgl := trodVars_len hV0
  obtain ⟨g1, g2, rfl⟩ := len2 gs hgl
  obtain ⟨kss, hz0⟩ := strs_at Tryz.underlying27 Tryz.underlying9 (by kernel_rfl) (hval 0 27 v0 rfl rfl) h0
  obtain ⟨x, rfl, rfl, rfl, w1⟩ := open_string Tryz.underlying9 (hval 1 9 v1 rfl rfl) h1
  obtain ⟨i, rfl, rfl, rfl, w2⟩ := open_int Tryz.underlying3 (hval 2 3 v2 rfl rfl) h2
  obtain ⟨f, rfl, rfl, rfl, w3⟩ := open_float Tryz.underlying22 (hval 3 22 v3 rfl rfl) h3
  clear hA0 hval0
  simp only [List.append_nil] at hW'
  refine (walk v0 kss x i f w1 w2 w3 W hz0).mono fun e W' ⟨he, hg⟩ => ?_
  subst he
  exact ⟨_, rfl, post_belowAll hW' (fun _ _ _ => (trodAll_cons_mk (shut_bool Tryz.underlying4 _) trodAll_mk0)) (trodAll_cons_mk (Below.trod laidOut (by kernel_rfl) (of_decide_eq_true (by kernel_rfl)) h0 hg (fun x hx => hW'.lt x (by simp [hx]))) (trodAll_cons_mk (shut_string Tryz.underlying9 w1) (trodAll_cons_mk (shut_int Tryz.underlying3 w2) (trodAll_cons_mk (shut_float Tryz.underlying22 w3) trodAll_mk0)))) (hg.trodVars laidOut (by kernel_rfl) hV0) (by simp) hg⟩

theorem holds : Rows.FnHasObjectNullAndRefusalsSaid :=
  OpenClaim.holds_of_wide 4 Tryz.f4 rfl rfl rfl rfl rfl rfl rfl ⟨rfl, rfl, rfl, rfl, rfl⟩ rfl rfl rfl rfl rfl (by kernel_rfl) Tryz.func4 (by kernel_rfl)
    (of_decide_eq_true (by kernel_rfl)) (by unfold Func.isWrapper; first | (rw [if_pos (by decide +kernel)]; kernel_rfl) | (rw [if_neg (by decide +kernel)]; exact ⟨rfl, rfl⟩))
    (fun os started H enc _ => lifted os started H enc)

theorem card_holds : Rows.FnHasObjectNullAndRefusalsCardSaid :=
  Claim7.holds_tied_plain_at .later [] _ _ _ _ holds (fun _ h => by cases h) (by kernel_rfl) (fun _ h => by cases h) fnHasObjectNullAndRefusals_row_tie rfl ⟨rfl, rfl⟩ (by kernel_rfl) rfl
    (fun f fn hf hfn => by
      obtain rfl : f = 4 := Option.some.inj ((show Tryz.prog.funcNamed "github.com/itchyny/gojq/n001_17.FnHasObjectNullAndRefusals" = some 4 by kernel_rfl).symm.trans hf) |>.symm
      obtain rfl : fn = Tryz.f4 := (Option.some.inj (Tryz.func4.symm.trans hfn)).symm
      exact ⟨by kernel_rfl, fun j t ht => by
        rw [Tryz.params4] at ht
        have hm : t ∈ [27, 9, 3, 22] := by simpa using Array.mem_of_getElem? ht
        have hall : ([27, 9, 3, 22].all fun u => !Tryz.prog.wantsStandIn u) = true := by kernel_rfl
        exact (show Tryz.prog.wantsStandIn t = false by simpa using List.all_eq_true.1 hall t hm)⟩)
    (by kernel_rfl)
#print axioms card_holds
end Go.Proofs.YthhfmmbealhdfaaGreatDoor.fnHasObjectNullAndRefusals
