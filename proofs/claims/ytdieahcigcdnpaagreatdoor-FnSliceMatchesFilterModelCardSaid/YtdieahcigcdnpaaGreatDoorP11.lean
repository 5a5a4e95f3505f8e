/- For every slice of ints and every two ends that may be unset, slice keeps exactly the elements that lie at or after the start and before the end. Condition: an int is 64 bits wide. -/
import Derived.Test.YtdieahcigcdnpaaGreatDoorRows
import Derived.Test.YtdieahcigcdnpaaGreatDoorTie
import Derived.Test.YtdieahcigcdnpaaGreatDoorCards
import Derived.WalkKit
import Derived.ProofKit
import Derived.OpenShut
import Derived.WalkSpells
import Derived.WalkLawsBesides
import Derived.Outline
import Derived.Lib.Hide
import Derived.ShutString
import Derived.Laws.Cover2
import Derived.LaidMore
import Derived.Lay
import Derived.SevenTiedAt
import Derived.Stop.Joined
import Derived.OpenVars
import Derived.Test.YtdieahcigcdnpaaGreatDoorSL
import Derived.Test.YtdieahcigcdnpaaGreatDoorCom
import Derived.Test.YtdieahcigcdnpaaGreatDoorPI
namespace Go.Proofs.YtdieahcigcdnpaaGreatDoor.fnSliceMatchesFilterModel
open Go.ChangeShapes Go.WideShapes Go.ChangeAt Go.RowKit
open Go.ChangeMaps (open_string shut_string)
set_option linter.unusedVariables false

theorem own : ownKnob Tryz.prog.godebug = none := by kernel_rfl
theorem laidOut : laidOutB Tryz.prog = true := by kernel_rfl

theorem walk (vs : Value) (vss : List Int) (eb : Bool) (e : Int) (sb : Bool) (s : Int) (w2 : (Lit.int .i64 e).wf = true) (w4 : (Lit.int .i64 s).wf = true) (w : World) (hvs : IntsAt w .i64 vs vss) :
    Calls Tryz.prog 4 #[vs, .bool eb, .int .i64 e, .bool sb, .int .i64 s] w fun e w' => e = .returned (.bool true) ∧ Below w.heap.size w w' := by
  have e0 := (bounds_i64 w2).1
  have e1 := (bounds_i64 w2).2
  have s0 := (bounds_i64 w4).1
  have s1 := (bounds_i64 w4).2
  clear w2 w4
  obtain ⟨a0, cap0, rfl⟩ := hvs.shape
  by_cases hm : vss.length ≤ 131072
  · obtain ⟨st, hst⟩ : ∃ st : Nat, (st : Int) = stOf sb s vss.length := ⟨(stOf sb s vss.length).toNat, by have := st_bounds sb s vss.length (by omega); omega⟩
    have b1 := st_bounds sb s vss.length (by omega)
    rw [← hst] at b1
    obtain ⟨en, hen⟩ : ∃ en : Nat, (en : Int) = enOf eb e st vss.length := ⟨(enOf eb e st vss.length).toNat, by have := en_bounds eb e st vss.length (by omega) (by omega); omega⟩
    have b2 := en_bounds eb e st vss.length (by omega) (by omega)
    rw [← hen] at b2
    have HL := Lib.hid (win_len vss st en (by omega))
    have hd : en - st ≤ 131072 := by omega
    have HST := Lib.hid hst
    have HEN := Lib.hid hen
    have HV := Lib.hid hvs
    clear b1 b2 hst hen hvs
    go_enter Tryz.func4, Tryz.ntmps4
    go_wp2_with (first | (go_at_call 12; refine (clone_any _ vss _ HV.out hm).mono ?_; rintro r w1 ⟨v1, rfl, h1, B1⟩; obtain ⟨a1, c1, rfl⟩ := h1.shape (List.length_map ..); have H1 := Lib.hid h1; have HB1 := Lib.hid B1; clear h1 B1) | (go_at_call 13; refine (zslice_any _ vss sb eb s e st en HST.out HEN.out _ H1.out hm s0 e0).mono ?_; rintro r w2 ⟨a2, c2, rfl, h2, B2⟩; have H2 := Lib.hid h2; have HB2 := Lib.hid B2; clear h2 B2) | (go_at_call 15; refine (pick_any _ vss sb eb s e st en HST.out HEN.out _ (H1.out.below HB2.out) hm s0 e0).mono ?_; rintro r w3 ⟨a3, c3, rfl, h3, B3⟩; have H3 := Lib.hid h3; have HB3 := Lib.hid B3; clear h3 B3) | (go_at_call 14; refine (eqInts_same _ _ (en - st) _ _ (win vss st en) HL.out hd _ (H2.out.below HB3.out) H3.out).mono ?_; rintro r w4 ⟨rfl, B4⟩; have HB4 := Lib.hid B4; clear B4) | go_in)
    go_ret
    exact ⟨rfl, ((HB1.out.trans (HB2.out.mono HB1.out.size)).trans (HB3.out.mono (Nat.le_trans HB1.out.size HB2.out.size))).trans (HB4.out.mono (Nat.le_trans HB1.out.size (Nat.le_trans HB2.out.size HB3.out.size)))⟩
  · clear hvs
    go_enter Tryz.func4, Tryz.ntmps4
    go_wp2
    all_goals
      go_ret
      exact ⟨rfl, Below.refl _ _⟩

set_option maxRecDepth 100000 in
theorem lifted (os : Os) (started : os.Started) (H : Type) (enc : TypeId × Value → H) :
    ReturnsInHanded {} Tryz.checked os 4 .any (fun w args => (Rows.fnSliceMatchesFilterModelSpec.pre enc Tryz.prog Tryz.f4 Rows.fnSliceMatchesFilterModelRow.domain false w args ∧ laidMetH Tryz.prog Rows.fnSliceMatchesFilterModelRow.laid w) ∧ sizedMet enc Tryz.prog Tryz.f4 (OpenSpec.ofChange Rows.fnSliceMatchesFilterModelSpec) false w args)
      (Rows.fnSliceMatchesFilterModelSpec.post enc Tryz.prog Tryz.f4 false true false false) := by
  refine returnsInHanded_of_change_and (C := Tryz.checked) (X := fun w _ => laidMetH Tryz.prog Rows.fnSliceMatchesFilterModelRow.laid w) (fun _ _ _ hh h => h.of_heap hh) own started (by kernel_rfl) Tryz.func4
    (ChangeSpec.witness_shaped (enc := enc) (C := Tryz.checked) (os := os) (X := fun w _ => laidMetH Tryz.prog Rows.fnSliceMatchesFilterModelRow.laid w) false (World.laidAll Tryz.prog os Rows.fnSliceMatchesFilterModelRow.laid) #[.slice none 0 0, .bool false, .int .i64 0, .bool false, .int .i64 0] 8 (World.laidAll_os _ _ _)
      (World.shaped_of_ZipB (by kernel_rfl) (by kernel_rfl)) (by kernel_rfl) (by kernel_rfl) (by kernel_rfl)
      (by rw [MakeChecks.laidMetH_plain _ _ _ (by kernel_rfl)]; exact laidMet_laidAll _ (by kernel_rfl) (by kernel_rfl))) ?_
  intro W base args ds gs before hval0 hW hcnd _ hL _
  have hval : ∀ (j : Nat) t v, Tryz.f4.params[j]? = some t → args[j]? = some v → Value.okWide Tryz.prog W .any base t v := hval0
  have hW' := hW
  obtain ⟨p, q, hA0, hV0, rfl, hfz, hnd⟩ := hW
  have hA : DataW.TrodAll enc Tryz.prog W 0 (fun _ => true) true Tryz.f4.params.toList args.toList ds p := hA0
  rw [Tryz.params4] at hA hval
  obtain ⟨v0, vs0, d0, ds0, p0, q0, hargs, rfl, rfl, h0, r0⟩ := trodAll_cons hA
  obtain ⟨v1, vs1, d1, ds1, p1, q1, rfl, rfl, rfl, h1, r1⟩ := trodAll_cons r0
  obtain ⟨v2, vs2, d2, ds2, p2, q2, rfl, rfl, rfl, h2, r2⟩ := trodAll_cons r1
  obtain ⟨v3, vs3, d3, ds3, p3, q3, rfl, rfl, rfl, h3, r3⟩ := trodAll_cons r2
  obtain ⟨v4, vs4, d4, ds4, p4, q4, rfl, rfl, rfl, h4, r4⟩ := trodAll_cons r3
  obtain ⟨rfl, rfl, rfl⟩ := trodAll_nil r4
  obtain rfl : args = #[v0, v1, v2, v3, v4] := by cases args; simp_all
  have hgl := trodVars_len hV0
  obtain ⟨g1, g2, rfl⟩ := len2 gs hgl
  obtain ⟨vss, hz0⟩ := ints_at (k := .i64) Tryz.underlying28 Tryz.underlying3 (by kernel_rfl) (hval 0 28 v0 rfl rfl) h0
  obtain ⟨eb, rfl, rfl, rfl⟩ := open_bool Tryz.underlying4 (hval 1 4 v1 rfl rfl) h1
  obtain ⟨e, rfl, rfl, rfl, w2⟩ := open_int Tryz.underlying3 (hval 2 3 v2 rfl rfl) h2
  obtain ⟨sb, rfl, rfl, rfl⟩ := open_bool Tryz.underlying4 (hval 3 4 v3 rfl rfl) h3
  obtain ⟨s, rfl, rfl, rfl, w4⟩ := open_int Tryz.underlying3 (hval 4 3 v4 rfl rfl) h4
  clear hA0 hval0
  simp only [List.append_nil] at hW'
  refine (walk v0 vss eb e sb s w2 w4 W hz0).mono fun e W' ⟨he, hg⟩ => ?_
  subst he
  exact ⟨_, rfl, post_belowAll hW' (fun _ _ _ => (trodAll_cons_mk (shut_bool Tryz.underlying4 _) trodAll_mk0)) (trodAll_cons_mk (Below.trod laidOut (by kernel_rfl) (of_decide_eq_true (by kernel_rfl)) h0 hg (fun x hx => hW'.lt x (by simp [hx]))) (trodAll_cons_mk (shut_bool Tryz.underlying4 _) (trodAll_cons_mk (shut_int Tryz.underlying3 w2) (trodAll_cons_mk (shut_bool Tryz.underlying4 _) (trodAll_cons_mk (shut_int Tryz.underlying3 w4) trodAll_mk0))))) (hg.trodVars laidOut (by kernel_rfl) hV0) (by simp) hg⟩

theorem holds : Rows.FnSliceMatchesFilterModelSaid :=
  OpenClaim.holds_of_wide 4 Tryz.f4 rfl rfl rfl rfl rfl rfl rfl ⟨rfl, rfl, rfl, rfl, rfl⟩ rfl rfl rfl rfl rfl (by kernel_rfl) Tryz.func4 (by kernel_rfl)
    (of_decide_eq_true (by kernel_rfl)) (by unfold Func.isWrapper; first | (rw [if_pos (by decide +kernel)]; kernel_rfl) | (rw [if_neg (by decide +kernel)]; exact ⟨rfl, rfl⟩))
    (fun os started H enc _ => lifted os started H enc)

theorem card_holds : Rows.FnSliceMatchesFilterModelCardSaid :=
  Claim7.holds_tied_plain_at .later [] _ _ _ _ holds (fun _ h => by cases h) (by kernel_rfl) (fun _ h => by cases h) fnSliceMatchesFilterModel_row_tie rfl ⟨rfl, rfl⟩ (by kernel_rfl) rfl
    (fun f fn hf hfn => by
      obtain rfl : f = 4 := Option.some.inj ((show Tryz.prog.funcNamed "github.com/itchyny/gojq/n001_97.FnSliceMatchesFilterModel" = some 4 by kernel_rfl).symm.trans hf) |>.symm
      obtain rfl : fn = Tryz.f4 := (Option.some.inj (Tryz.func4.symm.trans hfn)).symm
      exact ⟨by kernel_rfl, fun j t ht => by
        rw [Tryz.params4] at ht
        have hm : t ∈ [28, 4, 3, 4, 3] := by simpa using Array.mem_of_getElem? ht
        have hall : ([28, 4, 3, 4, 3].all fun u => !Tryz.prog.wantsStandIn u) = true := by kernel_rfl
        exact (show Tryz.prog.wantsStandIn t = false by simpa using List.all_eq_true.1 hall t hm)⟩)
    (by kernel_rfl)
#print axioms card_holds
end Go.Proofs.YtdieahcigcdnpaaGreatDoor.fnSliceMatchesFilterModel
