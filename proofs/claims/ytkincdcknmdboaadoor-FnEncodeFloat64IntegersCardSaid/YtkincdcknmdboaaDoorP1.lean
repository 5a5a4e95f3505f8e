/- For every int64 n with |n| at most 2^53, encoding float64(n) gives exactly the decimal digits of n, with a leading '-' where n is negative; beyond those bounds the law asks nothing. -/
import Derived.Test.YtkincdcknmdboaaDoorRows
import Derived.Test.YtkincdcknmdboaaDoorTie
import Derived.Test.YtkincdcknmdboaaDoorCards
import Derived.WalkKit
import Derived.ProofKit
import Derived.OpenShut
import Derived.WalkSpells
import Derived.WalkLawsBesides
import Derived.Outline
import Derived.Lib.Hide
import Derived.ShutString
import Derived.Laws.Cover2
import Derived.LaidMore
import Derived.Lay
import Derived.SevenTiedAt
import Derived.Stop.Joined
import Derived.OpenVars
import Derived.Test.YtkincdcknmdboaaDoorLS
import Derived.Test.YtkincdcknmdboaaDoorZI
namespace Go.Proofs.YtkincdcknmdboaaDoor.fnEncodeFloat64Integers
open Go.ChangeShapes Go.WideShapes Go.ChangeAt Go.RowKit
open Go.ChangeMaps (open_string shut_string)
set_option linter.unusedVariables false

theorem own : ownKnob Tryd.prog.godebug = none := by kernel_rfl

set_option maxRecDepth 100000 in
set_option maxHeartbeats 8000000 in
theorem walk (n : Int) (w0 : (Lit.int .i64 n).wf = true) (w : World) (hL : laidMetH Tryd.prog Rows.fnEncodeFloat64IntegersRow.laid w) :
    Calls Tryd.prog 3 #[.int .i64 n] w fun e w' => e = .returned (.bool true) ∧ Below w.heap.size w w' := by
  simp [Lit.wf] at w0
  have hmin : IntKind.i64.min = -9223372036854775808 := rfl
  rw [hmin] at w0
  by_cases h1 : n < -9007199254740992
  · have t1 : decide (n < -9007199254740992) = true := decide_eq_true h1
    clear hL
    go_enter Tryd.func3, Tryd.ntmps3
    go_wp2_with fail
    go_ret
    exact ⟨rfl, Below.refl _ _⟩
  have t1 : decide (n < -9007199254740992) = false := decide_eq_false h1
  by_cases h2 : 9007199254740992 < n
  · have t2 : decide (n > 9007199254740992) = true := decide_eq_true h2
    clear hL
    go_enter Tryd.func3, Tryd.ntmps3
    go_wp2_with fail
    go_ret
    exact ⟨rfl, Below.refl _ _⟩
  have t2 : decide (n > 9007199254740992) = false := decide_eq_false h2
  obtain ⟨hT, hTP⟩ := tabs_of w Rows.fnEncodeFloat64IntegersRow.laid (by kernel_rfl) (.tail _ (.tail _ (.tail _ (.head _)))) (.tail _ (.tail _ (.tail _ (.tail _ (.tail _ (.head _)))))) hL
  clear hL
  have HZ := Lib.hid (zz_int n (by omega) w hT hTP)
  have HI := Lib.hid (fun w => itoa_any n w (by omega) (by omega))
  clear hT hTP
  obtain ⟨x, hx⟩ : ∃ x, x = Flt.ofInt n := ⟨_, rfl⟩
  have hx2 : floatOfInt .f64 n = x := by rw [hx]; rfl
  rw [← hx] at HZ
  clear hx
  generalize itoaB n = T at HZ HI
  have e1 : (T.toList == T.toList) = true := by simp
  go_enter Tryd.func3, Tryd.ntmps3
  go_wp2_with (first | (go_at_call 5; refine HZ.out.mono ?_; rintro r wa ⟨rfl, B⟩; have HB1 := Lib.hid B; clear B) | (go_at_call 6; refine (HI.out _).mono ?_; rintro r wb ⟨rfl, B⟩; have HB2 := Lib.hid (HB1.out.trans (B.mono HB1.out.size)); clear B))
  go_ret
  exact ⟨rfl, HB2.out⟩

set_option maxRecDepth 100000 in
theorem lifted (os : Os) (started : os.Started) (H : Type) (enc : TypeId × Value → H) :
    ReturnsInHanded {} Tryd.checked os 3 .any (fun w args => (Rows.fnEncodeFloat64IntegersSpec.pre enc Tryd.prog Tryd.f3 Rows.fnEncodeFloat64IntegersRow.domain false w args ∧ laidMetH Tryd.prog Rows.fnEncodeFloat64IntegersRow.laid w) ∧ sizedMet enc Tryd.prog Tryd.f3 (OpenSpec.ofChange Rows.fnEncodeFloat64IntegersSpec) false w args)
      (Rows.fnEncodeFloat64IntegersSpec.post enc Tryd.prog Tryd.f3 false true false false) := by
  refine returnsInHanded_of_change_and (C := Tryd.checked) (X := fun w _ => laidMetH Tryd.prog Rows.fnEncodeFloat64IntegersRow.laid w) (fun _ _ _ hh h => h.of_heap hh) own started (by kernel_rfl) Tryd.func3
    (ChangeSpec.witness_shaped (enc := enc) (C := Tryd.checked) (os := os) (X := fun w _ => laidMetH Tryd.prog Rows.fnEncodeFloat64IntegersRow.laid w) false (World.laidAll Tryd.prog os Rows.fnEncodeFloat64IntegersRow.laid) #[.int .i64 0] 8 (World.laidAll_os _ _ _)
      (World.shaped_of_ZipB (by kernel_rfl) (by kernel_rfl)) (by kernel_rfl) (by kernel_rfl) (by kernel_rfl)
      (by rw [MakeChecks.laidMetH_plain _ _ _ (by kernel_rfl)]; exact laidMet_laidAll _ (by kernel_rfl) (by kernel_rfl))) ?_
  intro W base args ds gs before hval0 hW hcnd _ hL _
  have hval : ∀ (j : Nat) t v, Tryd.f3.params[j]? = some t → args[j]? = some v → Value.okWide Tryd.prog W .any base t v := hval0
  have hW' := hW
  obtain ⟨p, q, hA0, hV0, rfl, hfz, hnd⟩ := hW
  have hA : DataW.TrodAll enc Tryd.prog W 0 (fun _ => true) true Tryd.f3.params.toList args.toList ds p := hA0
  rw [Tryd.params3] at hA hval
  obtain ⟨v0, vs0, d0, ds0, p0, q0, hargs, rfl, rfl, h0, r0⟩ := trodAll_cons hA
  obtain ⟨rfl, rfl, rfl⟩ := trodAll_nil r0
  obtain rfl : args = #[v0] := by cases args; simp_all
  obtain ⟨rfl, rfl⟩ := trodVars_none hV0
  obtain ⟨n, rfl, rfl, rfl, w0⟩ := open_int Tryd.underlying2 (hval 0 2 v0 rfl rfl) h0
  clear hA0 hval0
  simp only [List.append_nil] at hW'
  refine (walk n w0 W hL).mono fun e W' ⟨he, hg⟩ => ?_
  subst he
  exact ⟨_, rfl, post_belowV (pa := []) (pv := []) hW' (fun _ _ _ => (trodAll_cons_mk (shut_bool Tryd.underlying4 _) trodAll_mk0)) (fun sp _ => (trodAll_cons_mk (shut_int Tryd.underlying2 w0) trodAll_mk0)) rfl rfl hg⟩

theorem holds : Rows.FnEncodeFloat64IntegersSaid :=
  OpenClaim.holds_of_wide 3 Tryd.f3 rfl rfl rfl rfl rfl rfl rfl ⟨rfl, rfl, rfl, rfl, rfl⟩ rfl rfl rfl rfl rfl (by kernel_rfl) Tryd.func3 (by kernel_rfl)
    (of_decide_eq_true (by kernel_rfl)) (by unfold Func.isWrapper; first | (rw [if_pos (by decide +kernel)]; kernel_rfl) | (rw [if_neg (by decide +kernel)]; exact ⟨rfl, rfl⟩))
    (fun os started H enc _ => lifted os started H enc)

theorem card_holds : Rows.FnEncodeFloat64IntegersCardSaid :=
  Claim7.holds_tied_plain_at .later [] _ _ _ _ holds (fun _ h => by cases h) (by kernel_rfl) (fun _ h => by cases h) fnEncodeFloat64Integers_row_tie rfl ⟨rfl, rfl⟩ (by kernel_rfl) rfl
    (fun f fn hf hfn => by
      obtain rfl : f = 3 := Option.some.inj ((show Tryd.prog.funcNamed "github.com/itchyny/gojq/n001_64.FnEncodeFloat64Integers" = some 3 by kernel_rfl).symm.trans hf) |>.symm
      obtain rfl : fn = Tryd.f3 := (Option.some.inj (Tryd.func3.symm.trans hfn)).symm
      exact ⟨by kernel_rfl, fun j t ht => by
        rw [Tryd.params3] at ht
        have hm : t ∈ [2] := by simpa using Array.mem_of_getElem? ht
        have hall : ([2].all fun u => !Tryd.prog.wantsStandIn u) = true := by kernel_rfl
        exact (show Tryd.prog.wantsStandIn t = false by simpa using List.all_eq_true.1 hall t hm)⟩)
    (by kernel_rfl)
#print axioms card_holds
end Go.Proofs.YtkincdcknmdboaaDoor.fnEncodeFloat64Integers
