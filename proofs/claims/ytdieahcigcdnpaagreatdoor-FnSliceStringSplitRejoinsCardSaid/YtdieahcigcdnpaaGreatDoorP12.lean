/- For every string and every int k, the code points before k followed by those from k on are the whole string. Condition: an int is 64 bits wide. -/
import Derived.Test.YtdieahcigcdnpaaGreatDoorRows
import Derived.Test.YtdieahcigcdnpaaGreatDoorTie
import Derived.Test.YtdieahcigcdnpaaGreatDoorCards
import Derived.WalkKit
import Derived.ProofKit
import Derived.OpenShut
import Derived.WalkSpells
import Derived.WalkLawsBesides
import Derived.Outline
import Derived.Lib.Hide
import Derived.ShutString
import Derived.Laws.Cover2
import Derived.LaidMore
import Derived.Lay
import Derived.SevenTiedAt
import Derived.Stop.Joined
import Derived.OpenVars
import Derived.Test.YtdieahcigcdnpaaGreatDoorCom
import Derived.Test.YtdieahcigcdnpaaGreatDoorZS
namespace Go.Proofs.YtdieahcigcdnpaaGreatDoor.fnSliceStringSplitRejoins
open Go.ChangeShapes Go.WideShapes Go.ChangeAt Go.RowKit
open Go.ChangeMaps (open_string shut_string)
set_option linter.unusedVariables false

theorem own : ownKnob Tryz.prog.godebug = none := by kernel_rfl
theorem laidOut : laidOutB Tryz.prog = true := by kernel_rfl

theorem walk (v : ByteArray) (k : Int) (w0 : v.size ≤ maxLen) (w1 : (Lit.int .i64 k).wf = true) (w : World) :
    Calls Tryz.prog 5 #[.string v, .int .i64 k] w fun e w' => e = .returned (.bool true) ∧ Below w.heap.size w w' := by
  have k0 := (bounds_i64 w1).1
  have k1 := (bounds_i64 w1).2
  clear w1
  by_cases hm : v.size ≤ 1048576
  · have b1 := st_bounds true k (runeLen v) (by omega)
    simp only [stOf, if_true] at b1
    obtain ⟨c, hc⟩ : ∃ c : Nat, (c : Int) = clampI k 0 (runeLen v) := ⟨(clampI k 0 (runeLen v)).toNat, by omega⟩
    rw [← hc] at b1
    have sp := runeLen_spec v
    obtain ⟨H, hH⟩ : ∃ H, H = v.extract (runeAt v 0) (runeAt v c) := ⟨_, rfl⟩
    obtain ⟨T, hT⟩ : ∃ T, T = v.extract (runeAt v c) (runeAt v (runeLen v)) := ⟨_, rfl⟩
    have hcat : H ++ T = v := by
      rw [hH, hT, sp.2.1]
      have h0 : runeAt v 0 = 0 := rfl
      rw [h0]
      have := runeAt_le v c
      have e1 : (v.extract 0 (runeAt v c) ++ v.extract (runeAt v c) v.size).data = v.data := by
        rw [ByteArray.data_append, ByteArray.data_extract, ByteArray.data_extract]
        have : v.size = v.data.size := rfl
        rw [this, Array.extract_append_extract]
        simp; omega
      have : ∀ a b : ByteArray, a.data = b.data → a = b := fun a b h => by cases a; cases b; congr 1
      exact this _ _ e1
    have z1 : H.size + T.size ≤ 1048576 := by rw [← ByteArray.size_append, hcat]; exact hm
    have KH := Lib.hid (fun w => zss_any v H false true 0 k 0 c hH rfl (by simp [enOf, hc]) w hm (by omega) k0)
    have KT := Lib.hid (fun w => zss_any v T true false k 0 c (runeLen v) hT (by simp [stOf, hc]) (by simp [enOf]) w hm k0 (by omega))
    clear b1 hc sp hH hT
    go_enter Tryz.func5, Tryz.ntmps5
    go_wp2_with (first | (go_at_call 8; (with_reducible refine (KH.out _).mono ?_); rintro r w2 ⟨rfl, B2⟩; have HB2 := Lib.hid B2; clear B2) | (go_at_call 8; (with_reducible refine (KT.out _).mono ?_); rintro r w3 ⟨rfl, B3⟩; have HB3 := Lib.hid B3; clear B3) | go_in)
    go_ret
    exact ⟨by simp, HB2.out.trans (HB3.out.mono HB2.out.size)⟩
  · go_enter Tryz.func5, Tryz.ntmps5
    go_wp2
    all_goals
      go_ret
      exact ⟨rfl, Below.refl _ _⟩

set_option maxRecDepth 100000 in
theorem lifted (os : Os) (started : os.Started) (H : Type) (enc : TypeId × Value → H) :
    ReturnsInHanded {} Tryz.checked os 5 .any (fun w args => (Rows.fnSliceStringSplitRejoinsSpec.pre enc Tryz.prog Tryz.f5 Rows.fnSliceStringSplitRejoinsRow.domain false w args ∧ laidMetH Tryz.prog Rows.fnSliceStringSplitRejoinsRow.laid w) ∧ sizedMet enc Tryz.prog Tryz.f5 (OpenSpec.ofChange Rows.fnSliceStringSplitRejoinsSpec) false w args)
      (Rows.fnSliceStringSplitRejoinsSpec.post enc Tryz.prog Tryz.f5 false true false false) := by
  refine returnsInHanded_of_change_and (C := Tryz.checked) (X := fun w _ => laidMetH Tryz.prog Rows.fnSliceStringSplitRejoinsRow.laid w) (fun _ _ _ hh h => h.of_heap hh) own started (by kernel_rfl) Tryz.func5
    (ChangeSpec.witness_shaped (enc := enc) (C := Tryz.checked) (os := os) (X := fun w _ => laidMetH Tryz.prog Rows.fnSliceStringSplitRejoinsRow.laid w) false (World.laidAll Tryz.prog os Rows.fnSliceStringSplitRejoinsRow.laid) #[.string ByteArray.empty, .int .i64 0] 8 (World.laidAll_os _ _ _)
      (World.shaped_of_ZipB (by kernel_rfl) (by kernel_rfl)) (by kernel_rfl) (by kernel_rfl) (by kernel_rfl)
      (by rw [MakeChecks.laidMetH_plain _ _ _ (by kernel_rfl)]; exact laidMet_laidAll _ (by kernel_rfl) (by kernel_rfl))) ?_
  intro W base args ds gs before hval0 hW hcnd _ hL _
  have hval : ∀ (j : Nat) t v, Tryz.f5.params[j]? = some t → args[j]? = some v → Value.okWide Tryz.prog W .any base t v := hval0
  have hW' := hW
  obtain ⟨p, q, hA0, hV0, rfl, hfz, hnd⟩ := hW
  have hA : DataW.TrodAll enc Tryz.prog W 0 (fun _ => true) true Tryz.f5.params.toList args.toList ds p := hA0
  rw [Tryz.params5] at hA hval
  obtain ⟨v0, vs0, d0, ds0, p0, q0, hargs, rfl, rfl, h0, r0⟩ := trodAll_cons hA
  obtain ⟨v1, vs1, d1, ds1, p1, q1, rfl, rfl, rfl, h1, r1⟩ := trodAll_cons r0
  obtain ⟨rfl, rfl, rfl⟩ := trodAll_nil r1
  obtain rfl : args = #[v0, v1] := by cases args; simp_all
  have hgl := trodVars_len hV0
  obtain ⟨g1, g2, rfl⟩ := len2 gs hgl
  obtain ⟨v, rfl, rfl, rfl, w0⟩ := open_string Tryz.underlying9 (hval 0 9 v0 rfl rfl) h0
  obtain ⟨k, rfl, rfl, rfl, w1⟩ := open_int Tryz.underlying3 (hval 1 3 v1 rfl rfl) h1
  clear hA0 hval0
  simp only [List.append_nil, List.nil_append] at hW'
  refine (walk v k w0 w1 W).mono fun e W' ⟨he, hg⟩ => ?_
  subst he
  exact ⟨_, rfl, post_belowV (pa := []) (pv := q) hW' (fun _ _ _ => (trodAll_cons_mk (shut_bool Tryz.underlying4 _) trodAll_mk0)) (fun sp _ => (trodAll_cons_mk (shut_string Tryz.underlying9 w0) (trodAll_cons_mk (shut_int Tryz.underlying3 w1) trodAll_mk0))) (hg.trodVars laidOut (by kernel_rfl) hV0) rfl hg⟩

theorem holds : Rows.FnSliceStringSplitRejoinsSaid :=
  OpenClaim.holds_of_wide 5 Tryz.f5 rfl rfl rfl rfl rfl rfl rfl ⟨rfl, rfl, rfl, rfl, rfl⟩ rfl rfl rfl rfl rfl (by kernel_rfl) Tryz.func5 (by kernel_rfl)
    (of_decide_eq_true (by kernel_rfl)) (by unfold Func.isWrapper; first | (rw [if_pos (by decide +kernel)]; kernel_rfl) | (rw [if_neg (by decide +kernel)]; exact ⟨rfl, rfl⟩))
    (fun os started H enc _ => lifted os started H enc)

theorem card_holds : Rows.FnSliceStringSplitRejoinsCardSaid :=
  Claim7.holds_tied_plain_at .later [] _ _ _ _ holds (fun _ h => by cases h) (by kernel_rfl) (fun _ h => by cases h) fnSliceStringSplitRejoins_row_tie rfl ⟨rfl, rfl⟩ (by kernel_rfl) rfl
    (fun f fn hf hfn => by
      obtain rfl : f = 5 := Option.some.inj ((show Tryz.prog.funcNamed "github.com/itchyny/gojq/n001_97.FnSliceStringSplitRejoins" = some 5 by kernel_rfl).symm.trans hf) |>.symm
      obtain rfl : fn = Tryz.f5 := (Option.some.inj (Tryz.func5.symm.trans hfn)).symm
      exact ⟨by kernel_rfl, fun j t ht => by
        rw [Tryz.params5] at ht
        have hm : t ∈ [9, 3] := by simpa using Array.mem_of_getElem? ht
        have hall : ([9, 3].all fun u => !Tryz.prog.wantsStandIn u) = true := by kernel_rfl
        exact (show Tryz.prog.wantsStandIn t = false by simpa using List.all_eq_true.1 hall t hm)⟩)
    (by kernel_rfl)
#print axioms card_holds
end Go.Proofs.YtdieahcigcdnpaaGreatDoor.fnSliceStringSplitRejoins
