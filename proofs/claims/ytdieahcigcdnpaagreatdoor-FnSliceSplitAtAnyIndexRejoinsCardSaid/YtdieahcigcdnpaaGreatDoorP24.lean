/- For every slice of ints and every int k, the elements before k followed by those from k on are the whole slice. Condition: an int is 64 bits wide. -/
import Derived.Test.YtdieahcigcdnpaaGreatDoorRows
import Derived.Test.YtdieahcigcdnpaaGreatDoorTie
import Derived.Test.YtdieahcigcdnpaaGreatDoorCards
import Derived.WalkKit
import Derived.ProofKit
import Derived.OpenShut
import Derived.WalkSpells
import Derived.WalkLawsBesides
import Derived.Outline
import Derived.Lib.Hide
import Derived.ShutString
import Derived.Laws.Cover2
import Derived.LaidMore
import Derived.Lay
import Derived.SevenTiedAt
import Derived.Stop.Joined
import Derived.OpenVars
import Derived.Test.YtdieahcigcdnpaaGreatDoorSL
import Derived.Test.YtdieahcigcdnpaaGreatDoorCom
import Derived.Test.YtdieahcigcdnpaaGreatDoorRJ
namespace Go.Proofs.YtdieahcigcdnpaaGreatDoor.fnSliceSplitAtAnyIndexRejoins
open Go.ChangeShapes Go.WideShapes Go.ChangeAt Go.RowKit
open Go.ChangeMaps (open_string shut_string)
set_option linter.unusedVariables false

theorem own : ownKnob Tryz.prog.godebug = none := by kernel_rfl
theorem laidOut : laidOutB Tryz.prog = true := by kernel_rfl

theorem walk (vs : Value) (vss : List Int) (k : Int) (w1 : (Lit.int .i64 k).wf = true) (w : World) (hvs : IntsAt w .i64 vs vss) :
    Calls Tryz.prog 6 #[vs, .int .i64 k] w fun e w' => e = .returned (.bool true) ∧ Below w.heap.size w w' := by
  have k0 := (bounds_i64 w1).1
  have k1 := (bounds_i64 w1).2
  clear w1
  obtain ⟨a0, cap0, rfl⟩ := hvs.shape
  by_cases hm : vss.length ≤ 131072
  · have b1 := st_bounds true k vss.length (by omega)
    obtain ⟨c, hc⟩ : ∃ c : Nat, (c : Int) = clampI k 0 vss.length := ⟨(clampI k 0 vss.length).toNat, by simp only [stOf, if_true] at b1; omega⟩
    simp only [stOf, if_true] at b1
    rw [← hc] at b1
    obtain ⟨d, hd⟩ : ∃ d, vss.length - c = d := ⟨_, rfl⟩
    have HC := Lib.hid hc
    have HD := Lib.hid hd
    have HV := Lib.hid hvs
    have HM := Lib.hid hm
    have lh := win_len vss 0 c (by omega)
    have lt := win_len vss c vss.length (Nat.le_refl _)
    have HE : Hid (∀ (w1 w2 w3 w4 wr : World) (a1 a2 a3 : Option Addr) (c1 c2 c3 : Nat), OwnAt w1 (.slice a1 vss.length c1) (vss.map (Value.int .i64)) → Below w1.heap.size w1 w2 → OwnAt w2 (.slice a2 c c2) ((win vss 0 c).map (Value.int .i64)) → Below w2.heap.size w2 w3 → Below w3.heap.size w3 wr →
        ∀ j, j < c → (∃ b off, a1 = some ⟨b, off, none⟩ ∧ wr.cell? ⟨b, off + j, none⟩ = some (.int .i64 (vss.getD j 0))) ∧ (∃ b off, a2 = some ⟨b, off, none⟩ ∧ wr.cell? ⟨b, off + j, none⟩ = some (.int .i64 (vss.getD j 0)))) := Lib.hid fun w1 w2 w3 w4 wr a1 a2 a3 c1 c2 c3 h1 B2 h2 B3 B4 j hj => by
      refine ⟨h1.cellInt ((B2.trans (B3.mono B2.size)).trans (B4.mono (Nat.le_trans B2.size B3.size))) (by omega), ?_⟩
      have := h2.cellInt (j := j) (B3.trans (B4.mono B3.size)) (by omega)
      rwa [win_get vss 0 c j 0 (by omega) (by omega), Nat.zero_add] at this
    have HT : Hid (∀ (w1 w2 w3 wr : World) (a1 a3 : Option Addr) (c1 c3 : Nat), OwnAt w1 (.slice a1 vss.length c1) (vss.map (Value.int .i64)) → Below w1.heap.size w1 w2 → Below w2.heap.size w2 w3 → OwnAt w3 (.slice a3 d c3) ((win vss c vss.length).map (Value.int .i64)) → Below w3.heap.size w3 wr →
        ∀ j, j < d → (∃ b off, a1 = some ⟨b, off, none⟩ ∧ wr.cell? ⟨b, off + (c + j), none⟩ = some (.int .i64 (vss.getD (c + j) 0))) ∧ (∃ b off, a3 = some ⟨b, off, none⟩ ∧ wr.cell? ⟨b, off + j, none⟩ = some (.int .i64 (vss.getD (c + j) 0)))) := Lib.hid fun w1 w2 w3 wr a1 a3 c1 c3 h1 B2 B3 h3 B4 j hj => by
      refine ⟨h1.cellInt ((B2.trans (B3.mono B2.size)).trans (B4.mono (Nat.le_trans B2.size B3.size))) (by omega), ?_⟩
      have := h3.cellInt (j := j) B4 (by omega)
      rwa [win_get vss c vss.length j 0 (Nat.le_refl _) (by omega)] at this
    have cd1 : c + d ≤ vss.length := by omega
    have cd2 : vss.length ≤ c + d := by omega
    obtain ⟨n, hn⟩ : ∃ n, n = vss.length := ⟨_, rfl⟩
    rw [← hn] at HE HT cd1 cd2 hm HC HD HV HM
    have HN := Lib.hid hn
    have HV2 : Hid (IntsAt w .i64 (.slice a0 n cap0) vss) := HV
    rw [← hn]
    clear b1 hc hd hvs lh lt hn
    go_enter Tryz.func6, Tryz.ntmps6
    go_wp2_with (first | (go_at_call 12; refine (clone_any _ vss _ HV2.out (HN.out ▸ HM.out)).mono ?_; rintro r w1 ⟨v1, rfl, h1, B1⟩; obtain ⟨a1, c1, rfl⟩ := h1.shape ((List.length_map ..).trans HN.out.symm); have H1 := Lib.hid h1; have HB1 := Lib.hid B1; clear h1 B1) | (go_at_call 13; (with_reducible refine (zhead _ vss k c (HN.out ▸ HC.out) _ H1.out (HN.out ▸ HM.out) k0).mono ?_); rintro r w2 ⟨a2, c2, rfl, h2, B2⟩; have H2 := Lib.hid h2; have HB2 := Lib.hid B2; clear h2 B2) | (go_at_call 13; (with_reducible refine (ztail _ vss k c d (HN.out ▸ HC.out) (HN.out ▸ HD.out) _ (H1.out.below HB2.out) (HN.out ▸ HM.out) k0).mono ?_); rintro r w3 ⟨a3, c3, rfl, h3, B3⟩; have H3 := Lib.hid h3; have HB3 := Lib.hid B3; clear h3 B3) | go_in)
    have hc20 : c ≤ 131072 := by omega
    have hd20 : d ≤ 131072 := by omega
    go_loopw [9] (fun vi wr => ∃ j : Nat, vi = .int .i64 j ∧ j ≤ c ∧ Hid (Below w3.heap.size w3 wr)) (fun vi _ => c - (intOf vi).toNat)
    case atStart => exact ⟨0, rfl, Nat.zero_le _, Lib.hid (Below.refl _ _)⟩
    case round =>
      obtain ⟨j, rfl, hj, HB⟩ := hrel
      by_cases hlt : j < c
      · obtain ⟨⟨b, off, rfl, g1⟩, b', off', rfl, g2⟩ := HE.out _ _ _ w _ _ _ none _ _ 0 H1.out HB2.out H2.out HB3.out HB.out j hlt
        obtain ⟨x, hx⟩ : ∃ x, x = vss.getD j 0 := ⟨_, rfl⟩
        rw [← hx] at g1 g2
        clear hx
        have hji : (j : Int) < (c : Int) := by omega
        have hjn : (j : Int) < (n : Int) := by omega
        go_wp2
        go_quiet (fail)
        go_wp2
        go_roundw
        case rel => exact ⟨j + 1, by go_num, by omega, Lib.hid (below_drewN HB.out _)⟩
        case measure => simp [intOf]; omega
      · obtain rfl : j = c := by omega
        go_wp2
        go_loopw [10] (fun vi wr2 => ∃ i : Nat, vi = .int .i64 i ∧ i ≤ d ∧ Hid (Below w3.heap.size w3 wr2)) (fun vi _ => d - (intOf vi).toNat)
        case atStart => exact ⟨0, rfl, Nat.zero_le _, HB⟩
        case round =>
          obtain ⟨i, rfl, hi, HB4⟩ := hrel
          by_cases hlt2 : i < d
          · obtain ⟨⟨b, off, rfl, g1⟩, b', off', rfl, g2⟩ := HT.out _ _ _ _ _ a3 _ c3 H1.out HB2.out HB3.out (by have := H3.out; rwa [← HN.out] at this) HB4.out i hlt2
            obtain ⟨x, hx⟩ : ∃ x, x = vss.getD (j + i) 0 := ⟨_, rfl⟩
            rw [← hx] at g1 g2
            clear hx
            have hji : (i : Int) < (d : Int) := by omega
            have hjn : (j : Int) + (i : Int) < (n : Int) := by omega
            go_wp2
            go_quiet (fail)
            go_wp2
            go_roundw
            case rel => exact ⟨i + 1, by go_num, by omega, Lib.hid (below_drewN HB4.out _)⟩
            case measure => simp [intOf]; omega
          · obtain rfl : i = d := by omega
            go_wp2
            go_ret
            exact ⟨rfl, ((HB1.out.trans (HB2.out.mono HB1.out.size)).trans (HB3.out.mono (Nat.le_trans HB1.out.size HB2.out.size))).trans (HB4.out.mono (Nat.le_trans HB1.out.size (Nat.le_trans HB2.out.size HB3.out.size)))⟩
  · clear hvs
    go_enter Tryz.func6, Tryz.ntmps6
    go_wp2
    all_goals
      go_ret
      exact ⟨rfl, Below.refl _ _⟩

set_option maxRecDepth 100000 in
theorem lifted (os : Os) (started : os.Started) (H : Type) (enc : TypeId × Value → H) :
    ReturnsInHanded {} Tryz.checked os 6 .any (fun w args => (Rows.fnSliceSplitAtAnyIndexRejoinsSpec.pre enc Tryz.prog Tryz.f6 Rows.fnSliceSplitAtAnyIndexRejoinsRow.domain false w args ∧ laidMetH Tryz.prog Rows.fnSliceSplitAtAnyIndexRejoinsRow.laid w) ∧ sizedMet enc Tryz.prog Tryz.f6 (OpenSpec.ofChange Rows.fnSliceSplitAtAnyIndexRejoinsSpec) false w args)
      (Rows.fnSliceSplitAtAnyIndexRejoinsSpec.post enc Tryz.prog Tryz.f6 false true false false) := by
  refine returnsInHanded_of_change_and (C := Tryz.checked) (X := fun w _ => laidMetH Tryz.prog Rows.fnSliceSplitAtAnyIndexRejoinsRow.laid w) (fun _ _ _ hh h => h.of_heap hh) own started (by kernel_rfl) Tryz.func6
    (ChangeSpec.witness_shaped (enc := enc) (C := Tryz.checked) (os := os) (X := fun w _ => laidMetH Tryz.prog Rows.fnSliceSplitAtAnyIndexRejoinsRow.laid w) false (World.laidAll Tryz.prog os Rows.fnSliceSplitAtAnyIndexRejoinsRow.laid) #[.slice none 0 0, .int .i64 0] 8 (World.laidAll_os _ _ _)
      (World.shaped_of_ZipB (by kernel_rfl) (by kernel_rfl)) (by kernel_rfl) (by kernel_rfl) (by kernel_rfl)
      (by rw [MakeChecks.laidMetH_plain _ _ _ (by kernel_rfl)]; exact laidMet_laidAll _ (by kernel_rfl) (by kernel_rfl))) ?_
  intro W base args ds gs before hval0 hW hcnd _ hL _
  have hval : ∀ (j : Nat) t v, Tryz.f6.params[j]? = some t → args[j]? = some v → Value.okWide Tryz.prog W .any base t v := hval0
  have hW' := hW
  obtain ⟨p, q, hA0, hV0, rfl, hfz, hnd⟩ := hW
  have hA : DataW.TrodAll enc Tryz.prog W 0 (fun _ => true) true Tryz.f6.params.toList args.toList ds p := hA0
  rw [Tryz.params6] at hA hval
  obtain ⟨v0, vs0, d0, ds0, p0, q0, hargs, rfl, rfl, h0, r0⟩ := trodAll_cons hA
  obtain ⟨v1, vs1, d1, ds1, p1, q1, rfl, rfl, rfl, h1, r1⟩ := trodAll_cons r0
  obtain ⟨rfl, rfl, rfl⟩ := trodAll_nil r1
  obtain rfl : args = #[v0, v1] := by cases args; simp_all
  have hgl := trodVars_len hV0
  obtain ⟨g1, g2, rfl⟩ := len2 gs hgl
  obtain ⟨vss, hz0⟩ := ints_at (k := .i64) Tryz.underlying28 Tryz.underlying3 (by kernel_rfl) (hval 0 28 v0 rfl rfl) h0
  obtain ⟨k, rfl, rfl, rfl, w1⟩ := open_int Tryz.underlying3 (hval 1 3 v1 rfl rfl) h1
  clear hA0 hval0
  simp only [List.append_nil] at hW'
  refine (walk v0 vss k w1 W hz0).mono fun e W' ⟨he, hg⟩ => ?_
  subst he
  exact ⟨_, rfl, post_belowAll hW' (fun _ _ _ => (trodAll_cons_mk (shut_bool Tryz.underlying4 _) trodAll_mk0)) (trodAll_cons_mk (Below.trod laidOut (by kernel_rfl) (of_decide_eq_true (by kernel_rfl)) h0 hg (fun x hx => hW'.lt x (by simp [hx]))) (trodAll_cons_mk (shut_int Tryz.underlying3 w1) trodAll_mk0)) (hg.trodVars laidOut (by kernel_rfl) hV0) (by simp) hg⟩

theorem holds : Rows.FnSliceSplitAtAnyIndexRejoinsSaid :=
  OpenClaim.holds_of_wide 6 Tryz.f6 rfl rfl rfl rfl rfl rfl rfl ⟨rfl, rfl, rfl, rfl, rfl⟩ rfl rfl rfl rfl rfl (by kernel_rfl) Tryz.func6 (by kernel_rfl)
    (of_decide_eq_true (by kernel_rfl)) (by unfold Func.isWrapper; first | (rw [if_pos (by decide +kernel)]; kernel_rfl) | (rw [if_neg (by decide +kernel)]; exact ⟨rfl, rfl⟩))
    (fun os started H enc _ => lifted os started H enc)

theorem card_holds : Rows.FnSliceSplitAtAnyIndexRejoinsCardSaid :=
  Claim7.holds_tied_plain_at .later [] _ _ _ _ holds (fun _ h => by cases h) (by kernel_rfl) (fun _ h => by cases h) fnSliceSplitAtAnyIndexRejoins_row_tie rfl ⟨rfl, rfl⟩ (by kernel_rfl) rfl
    (fun f fn hf hfn => by
      obtain rfl : f = 6 := Option.some.inj ((show Tryz.prog.funcNamed "github.com/itchyny/gojq/n001_97.FnSliceSplitAtAnyIndexRejoins" = some 6 by kernel_rfl).symm.trans hf) |>.symm
      obtain rfl : fn = Tryz.f6 := (Option.some.inj (Tryz.func6.symm.trans hfn)).symm
      exact ⟨by kernel_rfl, fun j t ht => by
        rw [Tryz.params6] at ht
        have hm : t ∈ [28, 3] := by simpa using Array.mem_of_getElem? ht
        have hall : ([28, 3].all fun u => !Tryz.prog.wantsStandIn u) = true := by kernel_rfl
        exact (show Tryz.prog.wantsStandIn t = false by simpa using List.all_eq_true.1 hall t hm)⟩)
    (by kernel_rfl)
#print axioms card_holds
end Go.Proofs.YtdieahcigcdnpaaGreatDoor.fnSliceSplitAtAnyIndexRejoins
