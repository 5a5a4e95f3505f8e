/- For every list of at most 65,536 ints implode returns the string that is the UTF-8 encoding of the list, in order, what is no scalar value as U+FFFD. Condition: an int is 64 bits wide. -/
import Derived.Test.YtcfbbdemgaigiaaGreatDoorRows
import Derived.Test.YtcfbbdemgaigiaaGreatDoorTie
import Derived.Test.YtcfbbdemgaigiaaGreatDoorCards
import Derived.WalkKit
import Derived.ProofKit
import Derived.OpenShut
import Derived.WalkSpells
import Derived.WalkLawsBesides
import Derived.Outline
import Derived.Lib.Hide
import Derived.ShutString
import Derived.Laws.Cover2
import Derived.LaidMore
import Derived.Lay
import Derived.SevenTiedAt
import Derived.Stop.Joined
import Derived.OpenVars
import Derived.Test.YtcfbbdemgaigiaaGreatDoorSL
import Derived.Test.YtcfbbdemgaigiaaGreatDoorCom
import Derived.Test.YtcfbbdemgaigiaaGreatDoorAR
import Derived.Test.YtcfbbdemgaigiaaGreatDoorZI
import Derived.Test.YtcfbbdemgaigiaaGreatDoorCB
namespace Go.Proofs.YtcfbbdemgaigiaaGreatDoor.fnImplodeEncodesEachCodePointAsUTF8
open Go.ChangeShapes Go.WideShapes Go.ChangeAt Go.RowKit
open Go.ChangeMaps (open_string shut_string)
set_option linter.unusedVariables false

theorem own : ownKnob Tryz.prog.godebug = none := by kernel_rfl
theorem laidOut : laidOutB Tryz.prog = true := by kernel_rfl

theorem walk (xs : Value) (xss : List Int) (w : World) (hxs : IntsAt w .i64 xs xss) :
    Calls Tryz.prog 3 #[xs] w fun e w' => e = .returned (.bool true) ∧ Below w.heap.size w w' := by
  obtain ⟨a0, cap0, rfl⟩ := hxs.shape
  by_cases hm : xss.length ≤ 65536
  · have HV := Lib.hid hxs
    clear hxs
    have HN : Hid ((encs xss).length ≤ 4 * xss.length) := Lib.hid (encs_le xss)
    go_enter Tryz.func3, Tryz.ntmps3
    go_wp2_with (first | (go_at_call 6; refine (clone_any _ xss _ HV.out (by omega)).mono ?_; rintro r w1 ⟨v1, rfl, h1, B1⟩; obtain ⟨a1, c1, rfl⟩ := h1.shape (List.length_map ..); have H1 := Lib.hid h1; have HB1 := Lib.hid B1; clear h1 B1) | (go_at_call 7; refine (zimplode_any _ _ xss _ H1.out hm).mono ?_; rintro r w2 ⟨rfl, B2⟩; have HB2 := Lib.hid B2; clear B2) | go_in)
    go_loopw [5, 6] (fun vb vi wr => ∃ (k : Nat) (acc : List UInt8), vi = .int .i64 k ∧ k ≤ xss.length ∧ acc.length ≤ 4 * k ∧ Hid (acc = encs (xss.take k)) ∧ Hid (wr.ownsRow w2.heap.size 5 1 vb acc.length (Lib.byteCells acc)) ∧ Hid (Below w2.heap.size w2 wr)) (fun _ vi _ => xss.length - (intOf vi).toNat)
    case atStart => exact ⟨0, [], rfl, Nat.zero_le _, by simp, Lib.hid rfl, Lib.hid (World.ownsRow_nil _ _ _ _), Lib.hid (Below.refl _ _)⟩
    case round =>
      obtain ⟨k, acc, rfl, hk, hal, HA, HR, HB⟩ := hrel
      by_cases hlt : k < xss.length
      · obtain ⟨b, off, rfl, hc⟩ := H1.out.at (by rw [List.length_map]; omega)
        have hc1 := hc k (by rw [List.length_map]; omega)
        have c1 : wr.cell? ⟨b, off + k, none⟩ = some (.int .i64 (xss.getD k 0)) := ((HB2.out.trans (HB.out.mono HB2.out.size)).cell (World.block_lt_of_cell? w1 _ hc1)).trans (hc1.trans (by simp [List.getD, hlt]))
        clear hc hc1
        have HT := Lib.hid (encs_snoc xss k hlt)
        rw [← HA.out] at HT
        have hl4 := encode_le (xss.getD k 0)
        have HL : Hid ((acc ++ Lib.encodeRune (xss.getD k 0)).length ≤ 4 * (k + 1)) := Lib.hid (by rw [List.length_append]; omega)
        have HC := Lib.hid (Lib.byteCells_encodeRune (xss.getD k 0))
        have HE := Lib.hid (Lib.runeCells_length (xss.getD k 0))
        clear hl4
        obtain ⟨x, hx⟩ : ∃ x, x = xss.getD k 0 := ⟨_, rfl⟩
        rw [← hx] at c1 HT HL HC HE
        clear hx
        go_wp2_with (go_at_call 8; refine (appendRune_any w2.heap.size _ acc.length (Lib.byteCells acc) x _ HR.out (by omega) HB.out.size).mono ?_; rintro r w3 ⟨v3, rfl, h3, B3⟩; have H3 := Lib.hid h3; have HB3 := Lib.hid B3; clear h3 B3)
        go_roundw
        case rel => exact ⟨k + 1, acc ++ Lib.encodeRune x, by go_num, by omega, HL.out, HT, Lib.hid (by rw [Lib.byteCells_append, HC.out, List.length_append, ← HE.out]; exact H3.out), Lib.hid (HB.out.trans HB3.out)⟩
        case measure => simp [intOf]; omega
      · obtain rfl : k = xss.length := by omega
        have HA2 : acc = encs xss := by rw [HA.out, List.take_length]
        subst HA2
        have hcv := conv_owns (P := Tryz.prog) wr 27 9 5 w2.heap.size _ (encs xss) Tryz.underlying27 Tryz.underlying5 Tryz.underlying9 HR.out
        go_wp2
        go_ret
        exact ⟨by simp, (HB1.out.trans (HB2.out.mono HB1.out.size)).trans (HB.out.mono (Nat.le_trans HB1.out.size HB2.out.size))⟩
  · clear hxs
    go_enter Tryz.func3, Tryz.ntmps3
    go_wp2
    all_goals
      go_ret
      exact ⟨rfl, Below.refl _ _⟩

set_option maxRecDepth 100000 in
theorem lifted (os : Os) (started : os.Started) (H : Type) (enc : TypeId × Value → H) :
    ReturnsInHanded {} Tryz.checked os 3 .any (fun w args => (Rows.fnImplodeEncodesEachCodePointAsUTF8Spec.pre enc Tryz.prog Tryz.f3 Rows.fnImplodeEncodesEachCodePointAsUTF8Row.domain false w args ∧ laidMetH Tryz.prog Rows.fnImplodeEncodesEachCodePointAsUTF8Row.laid w) ∧ sizedMet enc Tryz.prog Tryz.f3 (OpenSpec.ofChange Rows.fnImplodeEncodesEachCodePointAsUTF8Spec) false w args)
      (Rows.fnImplodeEncodesEachCodePointAsUTF8Spec.post enc Tryz.prog Tryz.f3 false true false false) := by
  refine returnsInHanded_of_change_and (C := Tryz.checked) (X := fun w _ => laidMetH Tryz.prog Rows.fnImplodeEncodesEachCodePointAsUTF8Row.laid w) (fun _ _ _ hh h => h.of_heap hh) own started (by kernel_rfl) Tryz.func3
    (ChangeSpec.witness_shaped (enc := enc) (C := Tryz.checked) (os := os) (X := fun w _ => laidMetH Tryz.prog Rows.fnImplodeEncodesEachCodePointAsUTF8Row.laid w) false (World.laidAll Tryz.prog os Rows.fnImplodeEncodesEachCodePointAsUTF8Row.laid) #[.slice none 0 0] 8 (World.laidAll_os _ _ _)
      (World.shaped_of_ZipB (by kernel_rfl) (by kernel_rfl)) (by kernel_rfl) (by kernel_rfl) (by kernel_rfl)
      (by rw [MakeChecks.laidMetH_plain _ _ _ (by kernel_rfl)]; exact laidMet_laidAll _ (by kernel_rfl) (by kernel_rfl))) ?_
  intro W base args ds gs before hval0 hW hcnd _ hL _
  have hval : ∀ (j : Nat) t v, Tryz.f3.params[j]? = some t → args[j]? = some v → Value.okWide Tryz.prog W .any base t v := hval0
  have hW' := hW
  obtain ⟨p, q, hA0, hV0, rfl, hfz, hnd⟩ := hW
  have hA : DataW.TrodAll enc Tryz.prog W 0 (fun _ => true) true Tryz.f3.params.toList args.toList ds p := hA0
  rw [Tryz.params3] at hA hval
  obtain ⟨v0, vs0, d0, ds0, p0, q0, hargs, rfl, rfl, h0, r0⟩ := trodAll_cons hA
  obtain ⟨rfl, rfl, rfl⟩ := trodAll_nil r0
  obtain rfl : args = #[v0] := by cases args; simp_all
  have hgl := trodVars_len hV0
  obtain ⟨g1, g2, rfl⟩ := len2 gs hgl
  obtain ⟨xss, hz0⟩ := ints_at (k := .i64) Tryz.underlying22 Tryz.underlying3 (by kernel_rfl) (hval 0 22 v0 rfl rfl) h0
  clear hA0 hval0
  simp only [List.append_nil] at hW'
  refine (walk v0 xss W hz0).mono fun e W' ⟨he, hg⟩ => ?_
  subst he
  exact ⟨_, rfl, post_belowAll hW' (fun _ _ _ => (trodAll_cons_mk (shut_bool Tryz.underlying4 _) trodAll_mk0)) (trodAll_cons_mk (Below.trod laidOut (by kernel_rfl) (of_decide_eq_true (by kernel_rfl)) h0 hg (fun x hx => hW'.lt x (by simp [hx]))) trodAll_mk0) (hg.trodVars laidOut (by kernel_rfl) hV0) (by simp) hg⟩

theorem holds : Rows.FnImplodeEncodesEachCodePointAsUTF8Said :=
  OpenClaim.holds_of_wide 3 Tryz.f3 rfl rfl rfl rfl rfl rfl rfl ⟨rfl, rfl, rfl, rfl, rfl⟩ rfl rfl rfl rfl rfl (by kernel_rfl) Tryz.func3 (by kernel_rfl)
    (of_decide_eq_true (by kernel_rfl)) (by unfold Func.isWrapper; first | (rw [if_pos (by decide +kernel)]; kernel_rfl) | (rw [if_neg (by decide +kernel)]; exact ⟨rfl, rfl⟩))
    (fun os started H enc _ => lifted os started H enc)

theorem card_holds : Rows.FnImplodeEncodesEachCodePointAsUTF8CardSaid :=
  Claim7.holds_tied_plain_at .later [] _ _ _ _ holds (fun _ h => by cases h) (by kernel_rfl) (fun _ h => by cases h) fnImplodeEncodesEachCodePointAsUTF8_row_tie rfl ⟨rfl, rfl⟩ (by kernel_rfl) rfl
    (fun f fn hf hfn => by
      obtain rfl : f = 3 := Option.some.inj ((show Tryz.prog.funcNamed "github.com/itchyny/gojq/n001_40.FnImplodeEncodesEachCodePointAsUTF8" = some 3 by kernel_rfl).symm.trans hf) |>.symm
      obtain rfl : fn = Tryz.f3 := (Option.some.inj (Tryz.func3.symm.trans hfn)).symm
      exact ⟨by kernel_rfl, fun j t ht => by
        rw [Tryz.params3] at ht
        have hm : t ∈ [22] := by simpa using Array.mem_of_getElem? ht
        have hall : ([22].all fun u => !Tryz.prog.wantsStandIn u) = true := by kernel_rfl
        exact (show Tryz.prog.wantsStandIn t = false by simpa using List.all_eq_true.1 hall t hm)⟩)
    (by kernel_rfl)
#print axioms card_holds
end Go.Proofs.YtcfbbdemgaigiaaGreatDoor.fnImplodeEncodesEachCodePointAsUTF8
