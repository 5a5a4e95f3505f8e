/- For every list of at most 65,536 ints, exploding what implode builds gives the list back, with U+FFFD for whatever is no scalar value. Condition: an int is 64 bits wide. -/
import Derived.Test.YtcfbbdemgaigiaaGreatDoorRows
import Derived.Test.YtcfbbdemgaigiaaGreatDoorTie
import Derived.Test.YtcfbbdemgaigiaaGreatDoorCards
import Derived.WalkKit
import Derived.ProofKit
import Derived.OpenShut
import Derived.WalkSpells
import Derived.WalkLawsBesides
import Derived.Outline
import Derived.Lib.Hide
import Derived.ShutString
import Derived.Laws.Cover2
import Derived.LaidMore
import Derived.Lay
import Derived.SevenTiedAt
import Derived.Stop.Joined
import Derived.OpenVars
import Derived.Test.YtcfbbdemgaigiaaGreatDoorSL
import Derived.Test.YtcfbbdemgaigiaaGreatDoorCom
import Derived.Test.YtcfbbdemgaigiaaGreatDoorAR
import Derived.Test.YtcfbbdemgaigiaaGreatDoorZI
import Derived.Test.YtcfbbdemgaigiaaGreatDoorZE
import Derived.Test.YtcfbbdemgaigiaaGreatDoorDC
namespace Go.Proofs.YtcfbbdemgaigiaaGreatDoor.fnExplodeUndoesImplodeUpToReplacement
open Go.ChangeShapes Go.WideShapes Go.ChangeAt Go.RowKit
open Go.ChangeMaps (open_string shut_string)
set_option linter.unusedVariables false

theorem own : ownKnob Tryz.prog.godebug = none := by kernel_rfl
theorem laidOut : laidOutB Tryz.prog = true := by kernel_rfl

theorem walk (xs : Value) (xss : List Int) (w : World) (hxs : IntsAt w .i64 xs xss) :
    Calls Tryz.prog 4 #[xs] w fun e w' => e = .returned (.bool true) ∧ Below w.heap.size w w' := by
  obtain ⟨a0, cap0, rfl⟩ := hxs.shape
  by_cases hm : xss.length ≤ 65536
  · have HV := Lib.hid hxs
    clear hxs
    have hN := encs_le xss
    have HS : Hid ((⟨(encs xss).toArray⟩ : ByteArray).size ≤ 1048576) := Lib.hid (by show (encs xss).toArray.size ≤ _; rw [List.size_toArray]; omega)
    have HL := Lib.hid (runeLen_encs xss)
    have HZ := Lib.hid (runeInts_len ⟨(encs xss).toArray⟩)
    have HG : Hid (∀ k, k < xss.length → (runeInts ⟨(encs xss).toArray⟩).getD k 0 = rep (xss.getD k 0)) := Lib.hid (runeInts_encs xss)
    have HZE := Lib.hid (fun w => zexplode_any ⟨(encs xss).toArray⟩ w HS.out xss.length HL.out (by omega))
    obtain ⟨S, hS⟩ : ∃ S : ByteArray, S = ⟨(encs xss).toArray⟩ := ⟨_, rfl⟩
    have HZI := Lib.hid (fun a cap w h => zimplode_any a cap xss w h hm)
    rw [← hS] at HS HL HZ HG HZE HZI
    clear hN hS
    go_enter Tryz.func4, Tryz.ntmps4
    go_wp2_with (first | (go_at_call 6; refine (clone_any _ xss _ HV.out (by omega)).mono ?_; rintro r w1 ⟨v1, rfl, h1, B1⟩; obtain ⟨a1, c1, rfl⟩ := h1.shape (List.length_map ..); have H1 := Lib.hid h1; have HB1 := Lib.hid B1; clear h1 B1) | (go_at_call 7; refine (HZI.out _ _ _ H1.out).mono ?_; rintro r w2 ⟨rfl, B2⟩; have HB2 := Lib.hid B2; clear B2) | (go_at_call 10; refine (HZE.out _).mono ?_; rintro r w3 ⟨a3, c3, rfl, h3, B3⟩; have H3 := Lib.hid h3; have HB3 := Lib.hid B3; clear h3 B3) | go_in)
    go_loopw [6] (fun vi wr => ∃ k : Nat, vi = .int .i64 k ∧ k ≤ xss.length ∧ Hid (Below w3.heap.size w3 wr)) (fun vi _ => xss.length - (intOf vi).toNat)
    case atStart => exact ⟨0, rfl, Nat.zero_le _, Lib.hid (Below.refl _ _)⟩
    case round =>
      obtain ⟨k, rfl, hk, HB⟩ := hrel
      by_cases hlt : k < xss.length
      · have B13 := HB2.out.trans ((HB3.out.trans (HB.out.mono HB3.out.size)).mono HB2.out.size)
        obtain ⟨b, off, rfl, hc⟩ := H1.out.at (by rw [List.length_map]; omega)
        have hc1 := hc k (by rw [List.length_map]; omega)
        have g1 : wr.cell? ⟨b, off + k, none⟩ = some (.int .i64 (xss.getD k 0)) := (B13.cell (World.block_lt_of_cell? w1 _ hc1)).trans (hc1.trans (by simp [List.getD, hlt]))
        clear hc hc1 B13
        have hz : (runeInts S).length = xss.length := HZ.out.trans HL.out
        obtain ⟨b', off', rfl, hc'⟩ := H3.out.at (by rw [List.length_map]; omega)
        have hc2 := hc' k (by rw [List.length_map]; omega)
        have hlt' : k < (runeInts S).length := by omega
        have g2 : wr.cell? ⟨b', off' + k, none⟩ = some (.int .i64 ((runeInts S).getD k 0)) := (HB.out.cell (World.block_lt_of_cell? w3 _ hc2)).trans (hc2.trans (by simp [List.getD, hlt']))
        clear hc' hc2 hlt' hz
        rw [HG.out k hlt] at g2
        obtain ⟨x, hx⟩ : ∃ x, x = xss.getD k 0 := ⟨_, rfl⟩
        rw [← hx] at g1 g2
        clear hx
        have hki : (k : Int) < (xss.length : Int) := by omega
        by_cases q : (0 ≤ x ∧ x ≤ 1114111) ∧ ¬ (55296 ≤ x ∧ x ≤ 57343)
        · have hs : isSc x = true := by unfold isSc; simp; omega
          have hr : rep x = x := by unfold rep; rw [if_pos q]
          rw [hr] at g2
          clear hr q
          go_wp2_with (go_at_call 11; refine (scalar_any x _).mono ?_; rintro r w4 ⟨rfl, rfl⟩)
          go_roundw
          case rel => exact ⟨k + 1, by go_num, by omega, HB⟩
          case measure => simp [intOf]; omega
        · have hs : isSc x = false := by unfold isSc; simp; omega
          have hr : rep x = 65533 := by unfold rep; rw [if_neg q]
          rw [hr] at g2
          clear hr q
          go_wp2_with (go_at_call 11; refine (scalar_any x _).mono ?_; rintro r w4 ⟨rfl, rfl⟩)
          go_roundw
          case rel => exact ⟨k + 1, by go_num, by omega, HB⟩
          case measure => simp [intOf]; omega
      · obtain rfl : k = xss.length := by omega
        go_wp2
        go_ret
        exact ⟨rfl, (HB1.out.trans (HB2.out.mono HB1.out.size)).trans ((HB3.out.trans (HB.out.mono HB3.out.size)).mono (Nat.le_trans HB1.out.size HB2.out.size))⟩
  · clear hxs
    go_enter Tryz.func4, Tryz.ntmps4
    go_wp2
    all_goals
      go_ret
      exact ⟨rfl, Below.refl _ _⟩

set_option maxRecDepth 100000 in
theorem lifted (os : Os) (started : os.Started) (H : Type) (enc : TypeId × Value → H) :
    ReturnsInHanded {} Tryz.checked os 4 .any (fun w args => (Rows.fnExplodeUndoesImplodeUpToReplacementSpec.pre enc Tryz.prog Tryz.f4 Rows.fnExplodeUndoesImplodeUpToReplacementRow.domain false w args ∧ laidMetH Tryz.prog Rows.fnExplodeUndoesImplodeUpToReplacementRow.laid w) ∧ sizedMet enc Tryz.prog Tryz.f4 (OpenSpec.ofChange Rows.fnExplodeUndoesImplodeUpToReplacementSpec) false w args)
      (Rows.fnExplodeUndoesImplodeUpToReplacementSpec.post enc Tryz.prog Tryz.f4 false true false false) := by
  refine returnsInHanded_of_change_and (C := Tryz.checked) (X := fun w _ => laidMetH Tryz.prog Rows.fnExplodeUndoesImplodeUpToReplacementRow.laid w) (fun _ _ _ hh h => h.of_heap hh) own started (by kernel_rfl) Tryz.func4
    (ChangeSpec.witness_shaped (enc := enc) (C := Tryz.checked) (os := os) (X := fun w _ => laidMetH Tryz.prog Rows.fnExplodeUndoesImplodeUpToReplacementRow.laid w) false (World.laidAll Tryz.prog os Rows.fnExplodeUndoesImplodeUpToReplacementRow.laid) #[.slice none 0 0] 8 (World.laidAll_os _ _ _)
      (World.shaped_of_ZipB (by kernel_rfl) (by kernel_rfl)) (by kernel_rfl) (by kernel_rfl) (by kernel_rfl)
      (by rw [MakeChecks.laidMetH_plain _ _ _ (by kernel_rfl)]; exact laidMet_laidAll _ (by kernel_rfl) (by kernel_rfl))) ?_
  intro W base args ds gs before hval0 hW hcnd _ hL _
  have hval : ∀ (j : Nat) t v, Tryz.f4.params[j]? = some t → args[j]? = some v → Value.okWide Tryz.prog W .any base t v := hval0
  have hW' := hW
  obtain ⟨p, q, hA0, hV0, rfl, hfz, hnd⟩ := hW
  have hA : DataW.TrodAll enc Tryz.prog W 0 (fun _ => true) true Tryz.f4.params.toList args.toList ds p := hA0
  rw [Tryz.params4] at hA hval
  obtain ⟨v0, vs0, d0, ds0, p0, q0, hargs, rfl, rfl, h0, r0⟩ := trodAll_cons hA
  obtain ⟨rfl, rfl, rfl⟩ := trodAll_nil r0
  obtain rfl : args = #[v0] := by cases args; simp_all
  have hgl := trodVars_len hV0
  obtain ⟨g1, g2, rfl⟩ := len2 gs hgl
  obtain ⟨xss, hz0⟩ := ints_at (k := .i64) Tryz.underlying22 Tryz.underlying3 (by kernel_rfl) (hval 0 22 v0 rfl rfl) h0
  clear hA0 hval0
  simp only [List.append_nil] at hW'
  refine (walk v0 xss W hz0).mono fun e W' ⟨he, hg⟩ => ?_
  subst he
  exact ⟨_, rfl, post_belowAll hW' (fun _ _ _ => (trodAll_cons_mk (shut_bool Tryz.underlying4 _) trodAll_mk0)) (trodAll_cons_mk (Below.trod laidOut (by kernel_rfl) (of_decide_eq_true (by kernel_rfl)) h0 hg (fun x hx => hW'.lt x (by simp [hx]))) trodAll_mk0) (hg.trodVars laidOut (by kernel_rfl) hV0) (by simp) hg⟩

theorem holds : Rows.FnExplodeUndoesImplodeUpToReplacementSaid :=
  OpenClaim.holds_of_wide 4 Tryz.f4 rfl rfl rfl rfl rfl rfl rfl ⟨rfl, rfl, rfl, rfl, rfl⟩ rfl rfl rfl rfl rfl (by kernel_rfl) Tryz.func4 (by kernel_rfl)
    (of_decide_eq_true (by kernel_rfl)) (by unfold Func.isWrapper; first | (rw [if_pos (by decide +kernel)]; kernel_rfl) | (rw [if_neg (by decide +kernel)]; exact ⟨rfl, rfl⟩))
    (fun os started H enc _ => lifted os started H enc)

theorem card_holds : Rows.FnExplodeUndoesImplodeUpToReplacementCardSaid :=
  Claim7.holds_tied_plain_at .later [] _ _ _ _ holds (fun _ h => by cases h) (by kernel_rfl) (fun _ h => by cases h) fnExplodeUndoesImplodeUpToReplacement_row_tie rfl ⟨rfl, rfl⟩ (by kernel_rfl) rfl
    (fun f fn hf hfn => by
      obtain rfl : f = 4 := Option.some.inj ((show Tryz.prog.funcNamed "github.com/itchyny/gojq/n001_40.FnExplodeUndoesImplodeUpToReplacement" = some 4 by kernel_rfl).symm.trans hf) |>.symm
      obtain rfl : fn = Tryz.f4 := (Option.some.inj (Tryz.func4.symm.trans hfn)).symm
      exact ⟨by kernel_rfl, fun j t ht => by
        rw [Tryz.params4] at ht
        have hm : t ∈ [22] := by simpa using Array.mem_of_getElem? ht
        have hall : ([22].all fun u => !Tryz.prog.wantsStandIn u) = true := by kernel_rfl
        exact (show Tryz.prog.wantsStandIn t = false by simpa using List.all_eq_true.1 hall t hm)⟩)
    (by kernel_rfl)
#print axioms card_holds
end Go.Proofs.YtcfbbdemgaigiaaGreatDoor.fnExplodeUndoesImplodeUpToReplacement
