/- For every string and every two ends that may be unset, sliceString returns exactly the bytes of the code points between them, an invalid byte counted as one position. Condition: an int is 64 bits wide. -/
import Derived.Test.YtdieahcigcdnpaaGreatDoorRows
import Derived.Test.YtdieahcigcdnpaaGreatDoorTie
import Derived.Test.YtdieahcigcdnpaaGreatDoorCards
import Derived.WalkKit
import Derived.ProofKit
import Derived.OpenShut
import Derived.WalkSpells
import Derived.WalkLawsBesides
import Derived.Outline
import Derived.Lib.Hide
import Derived.ShutString
import Derived.Laws.Cover2
import Derived.LaidMore
import Derived.Lay
import Derived.SevenTiedAt
import Derived.Stop.Joined
import Derived.OpenVars
import Derived.Test.YtdieahcigcdnpaaGreatDoorCom
import Derived.Test.YtdieahcigcdnpaaGreatDoorZS
import Derived.Test.YtdieahcigcdnpaaGreatDoorPR
namespace Go.Proofs.YtdieahcigcdnpaaGreatDoor.fnSliceStringMatchesRuneModel
open Go.ChangeShapes Go.WideShapes Go.ChangeAt Go.RowKit
open Go.ChangeMaps (open_string shut_string)
set_option linter.unusedVariables false

theorem own : ownKnob Tryz.prog.godebug = none := by kernel_rfl
theorem laidOut : laidOutB Tryz.prog = true := by kernel_rfl

theorem walk (v : ByteArray) (eb : Bool) (e : Int) (sb : Bool) (s : Int) (w0 : v.size ≤ maxLen) (w2 : (Lit.int .i64 e).wf = true) (w4 : (Lit.int .i64 s).wf = true) (w : World) :
    Calls Tryz.prog 3 #[.string v, .bool eb, .int .i64 e, .bool sb, .int .i64 s] w fun e w' => e = .returned (.bool true) ∧ Below w.heap.size w w' := by
  have e0 := (bounds_i64 w2).1
  have e1 := (bounds_i64 w2).2
  have s0 := (bounds_i64 w4).1
  have s1 := (bounds_i64 w4).2
  clear w2 w4
  by_cases hm : v.size ≤ 1048576
  · obtain ⟨n, hn⟩ : ∃ n, n = runeLen v := ⟨_, rfl⟩
    have b1 := st_bounds sb s n (by omega)
    obtain ⟨st, hst⟩ : ∃ st : Nat, (st : Int) = stOf sb s n := ⟨(stOf sb s n).toNat, by omega⟩
    rw [← hst] at b1
    have b2 := en_bounds eb e st n (by omega) (by omega)
    obtain ⟨en, hen⟩ : ∃ en : Nat, (en : Int) = enOf eb e st n := ⟨(enOf eb e st n).toNat, by omega⟩
    rw [← hen] at b2
    have hle := runeAt_le2 v st en (by omega)
    have htop := runeAt_le v en
    obtain ⟨V, hV⟩ : ∃ V, V = v.extract (runeAt v st) (runeAt v en) := ⟨_, rfl⟩
    have hVl : V.data.toList = win v.data.toList (runeAt v st) (runeAt v en) := by rw [hV, ByteArray.data_extract, Array.toList_extract]; simp [win, List.drop_take]
    have hVs : V.size = runeAt v en - runeAt v st := by rw [size_list, hVl, win_len _ _ _ (by rw [← size_list]; exact htop)]
    have HV1 : Hid (V.size ≤ 1048576) := Lib.hid (by omega)
    have KZ := Lib.hid (fun w => zss_any v V sb eb s e st en hV (hn ▸ hst) (hn ▸ hen) w hm s0 e0)
    have KP : Hid (∀ w : World, Calls Tryz.prog 10 #[.string v, .bool sb, .int .i64 s, .bool eb, .int .i64 e] w fun r w' => ∃ a cap, r = .returned (.slice a V.size cap) ∧ OwnAt w' (.slice a V.size cap) (byteV V.data.toList) ∧ Below w.heap.size w w') := Lib.hid fun w => by
      rw [hVs, hVl]
      exact pickRunes_any v sb eb s e n st en hn hst hen w hm s0 e0
    clear b1 b2 hst hen hV hVl hVs hn
    go_enter Tryz.func3, Tryz.ntmps3
    go_wp2_with (first | (go_at_call 8; refine (KZ.out _).mono ?_; rintro r w2 ⟨rfl, B2⟩; have HB2 := Lib.hid B2; clear B2) | (go_at_call 10; refine (KP.out _).mono ?_; rintro r w3 ⟨a3, c3, rfl, h3, B3⟩; have H3 := Lib.hid h3; have HB3 := Lib.hid B3; clear h3 B3) | (go_at_call 9; refine (eqStr_any V a3 c3 _ H3.out HV1.out).mono ?_; rintro r w4 ⟨rfl, B4⟩; have HB4 := Lib.hid B4; clear B4) | go_in)
    go_ret
    exact ⟨rfl, (HB2.out.trans (HB3.out.mono HB2.out.size)).trans (HB4.out.mono (Nat.le_trans HB2.out.size HB3.out.size))⟩
  · go_enter Tryz.func3, Tryz.ntmps3
    go_wp2
    all_goals
      go_ret
      exact ⟨rfl, Below.refl _ _⟩

set_option maxRecDepth 100000 in
theorem lifted (os : Os) (started : os.Started) (H : Type) (enc : TypeId × Value → H) :
    ReturnsInHanded {} Tryz.checked os 3 .any (fun w args => (Rows.fnSliceStringMatchesRuneModelSpec.pre enc Tryz.prog Tryz.f3 Rows.fnSliceStringMatchesRuneModelRow.domain false w args ∧ laidMetH Tryz.prog Rows.fnSliceStringMatchesRuneModelRow.laid w) ∧ sizedMet enc Tryz.prog Tryz.f3 (OpenSpec.ofChange Rows.fnSliceStringMatchesRuneModelSpec) false w args)
      (Rows.fnSliceStringMatchesRuneModelSpec.post enc Tryz.prog Tryz.f3 false true false false) := by
  refine returnsInHanded_of_change_and (C := Tryz.checked) (X := fun w _ => laidMetH Tryz.prog Rows.fnSliceStringMatchesRuneModelRow.laid w) (fun _ _ _ hh h => h.of_heap hh) own started (by kernel_rfl) Tryz.func3
    (ChangeSpec.witness_shaped (enc := enc) (C := Tryz.checked) (os := os) (X := fun w _ => laidMetH Tryz.prog Rows.fnSliceStringMatchesRuneModelRow.laid w) false (World.laidAll Tryz.prog os Rows.fnSliceStringMatchesRuneModelRow.laid) #[.string ByteArray.empty, .bool false, .int .i64 0, .bool false, .int .i64 0] 8 (World.laidAll_os _ _ _)
      (World.shaped_of_ZipB (by kernel_rfl) (by kernel_rfl)) (by kernel_rfl) (by kernel_rfl) (by kernel_rfl)
      (by rw [MakeChecks.laidMetH_plain _ _ _ (by kernel_rfl)]; exact laidMet_laidAll _ (by kernel_rfl) (by kernel_rfl))) ?_
  intro W base args ds gs before hval0 hW hcnd _ hL _
  have hval : ∀ (j : Nat) t v, Tryz.f3.params[j]? = some t → args[j]? = some v → Value.okWide Tryz.prog W .any base t v := hval0
  have hW' := hW
  obtain ⟨p, q, hA0, hV0, rfl, hfz, hnd⟩ := hW
  have hA : DataW.TrodAll enc Tryz.prog W 0 (fun _ => true) true Tryz.f3.params.toList args.toList ds p := hA0
  rw [Tryz.params3] at hA hval
  obtain ⟨v0, vs0, d0, ds0, p0, q0, hargs, rfl, rfl, h0, r0⟩ := trodAll_cons hA
  obtain ⟨v1, vs1, d1, ds1, p1, q1, rfl, rfl, rfl, h1, r1⟩ := trodAll_cons r0
  obtain ⟨v2, vs2, d2, ds2, p2, q2, rfl, rfl, rfl, h2, r2⟩ := trodAll_cons r1
  obtain ⟨v3, vs3, d3, ds3, p3, q3, rfl, rfl, rfl, h3, r3⟩ := trodAll_cons r2
  obtain ⟨v4, vs4, d4, ds4, p4, q4, rfl, rfl, rfl, h4, r4⟩ := trodAll_cons r3
  obtain ⟨rfl, rfl, rfl⟩ := trodAll_nil r4
  obtain rfl : args = #[v0, v1, v2, v3, v4] := by cases args; simp_all
  have hgl := trodVars_len hV0
  obtain ⟨g1, g2, rfl⟩ := len2 gs hgl
  obtain ⟨v, rfl, rfl, rfl, w0⟩ := open_string Tryz.underlying9 (hval 0 9 v0 rfl rfl) h0
  obtain ⟨eb, rfl, rfl, rfl⟩ := open_bool Tryz.underlying4 (hval 1 4 v1 rfl rfl) h1
  obtain ⟨e, rfl, rfl, rfl, w2⟩ := open_int Tryz.underlying3 (hval 2 3 v2 rfl rfl) h2
  obtain ⟨sb, rfl, rfl, rfl⟩ := open_bool Tryz.underlying4 (hval 3 4 v3 rfl rfl) h3
  obtain ⟨s, rfl, rfl, rfl, w4⟩ := open_int Tryz.underlying3 (hval 4 3 v4 rfl rfl) h4
  clear hA0 hval0
  simp only [List.append_nil, List.nil_append] at hW'
  refine (walk v eb e sb s w0 w2 w4 W).mono fun e W' ⟨he, hg⟩ => ?_
  subst he
  exact ⟨_, rfl, post_belowV (pa := []) (pv := q) hW' (fun _ _ _ => (trodAll_cons_mk (shut_bool Tryz.underlying4 _) trodAll_mk0)) (fun sp _ => (trodAll_cons_mk (shut_string Tryz.underlying9 w0) (trodAll_cons_mk (shut_bool Tryz.underlying4 _) (trodAll_cons_mk (shut_int Tryz.underlying3 w2) (trodAll_cons_mk (shut_bool Tryz.underlying4 _) (trodAll_cons_mk (shut_int Tryz.underlying3 w4) trodAll_mk0)))))) (hg.trodVars laidOut (by kernel_rfl) hV0) rfl hg⟩

theorem holds : Rows.FnSliceStringMatchesRuneModelSaid :=
  OpenClaim.holds_of_wide 3 Tryz.f3 rfl rfl rfl rfl rfl rfl rfl ⟨rfl, rfl, rfl, rfl, rfl⟩ rfl rfl rfl rfl rfl (by kernel_rfl) Tryz.func3 (by kernel_rfl)
    (of_decide_eq_true (by kernel_rfl)) (by unfold Func.isWrapper; first | (rw [if_pos (by decide +kernel)]; kernel_rfl) | (rw [if_neg (by decide +kernel)]; exact ⟨rfl, rfl⟩))
    (fun os started H enc _ => lifted os started H enc)

theorem card_holds : Rows.FnSliceStringMatchesRuneModelCardSaid :=
  Claim7.holds_tied_plain_at .later [] _ _ _ _ holds (fun _ h => by cases h) (by kernel_rfl) (fun _ h => by cases h) fnSliceStringMatchesRuneModel_row_tie rfl ⟨rfl, rfl⟩ (by kernel_rfl) rfl
    (fun f fn hf hfn => by
      obtain rfl : f = 3 := Option.some.inj ((show Tryz.prog.funcNamed "github.com/itchyny/gojq/n001_97.FnSliceStringMatchesRuneModel" = some 3 by kernel_rfl).symm.trans hf) |>.symm
      obtain rfl : fn = Tryz.f3 := (Option.some.inj (Tryz.func3.symm.trans hfn)).symm
      exact ⟨by kernel_rfl, fun j t ht => by
        rw [Tryz.params3] at ht
        have hm : t ∈ [9, 4, 3, 4, 3] := by simpa using Array.mem_of_getElem? ht
        have hall : ([9, 4, 3, 4, 3].all fun u => !Tryz.prog.wantsStandIn u) = true := by kernel_rfl
        exact (show Tryz.prog.wantsStandIn t = false by simpa using List.all_eq_true.1 hall t hm)⟩)
    (by kernel_rfl)
#print axioms card_holds
end Go.Proofs.YtdieahcigcdnpaaGreatDoor.fnSliceStringMatchesRuneModel
