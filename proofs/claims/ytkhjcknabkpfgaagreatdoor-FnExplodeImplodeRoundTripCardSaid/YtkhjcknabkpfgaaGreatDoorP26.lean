/- For every string s, explode(s) holds at most len(s) Unicode scalar values, and implode of them is s with every undecodable byte replaced by U+FFFD, and so equals s exactly when s is valid UTF-8; no condition. -/
import Derived.Test.YtkhjcknabkpfgaaGreatDoorRows
import Derived.Test.YtkhjcknabkpfgaaGreatDoorTie
import Derived.Test.YtkhjcknabkpfgaaGreatDoorCards
import Derived.WalkKit
import Derived.ProofKit
import Derived.OpenShut
import Derived.WalkSpells
import Derived.WalkLawsBesides
import Derived.Outline
import Derived.Lib.Hide
import Derived.ShutString
import Derived.Laws.Cover2
import Derived.LaidMore
import Derived.Lay
import Derived.SevenTiedAt
import Derived.Stop.Joined
import Derived.OpenVars
import Derived.Test.YtkhjcknabkpfgaaGreatDoorWT
import Derived.Test.YtkhjcknabkpfgaaGreatDoorZI
import Derived.Test.YtkhjcknabkpfgaaGreatDoorCom
namespace Go.Proofs.YtkhjcknabkpfgaaGreatDoor.fnExplodeImplodeRoundTrip
open Go.ChangeShapes Go.WideShapes Go.ChangeAt Go.RowKit
open Go.ChangeMaps (open_string shut_string)
set_option linter.unusedVariables false

theorem own : ownKnob Tryz.prog.godebug = none := by kernel_rfl
theorem laidOut : laidOutB Tryz.prog = true := by kernel_rfl

set_option maxRecDepth 100000 in
theorem walk (s : ByteArray) (w0 : s.size ≤ maxLen) (w : World) :
    Calls Tryz.prog 3 #[.string s] w fun e w' => e = .returned (.bool true) ∧ Below w.heap.size w w' := by
  by_cases hm : s.size ≤ 1048576
  rotate_left
  · go_enter Tryz.func3, Tryz.ntmps3
    go_wp2_with (go_at_call 4; refine (zb_no s _ hm).mono ?_; rintro r w2 ⟨rfl, rfl⟩)
    go_ret
    exact ⟨rfl, Below.refl _ _⟩
  obtain ⟨i0, hi, hz0, hz1, hz2⟩ := info_parts info_u8
  clear w0
  have t1 : decide ((s.size : Int) > 1048576) = false := by simp; omega
  have SP := Lib.hid (runeLen_spec s)
  have hn1 : runeLen s ≤ s.size := (runeLen_spec s).1
  have hln := runeInts_len s
  have HZE := Lib.hid (fun w => zexplode_any s w hm (runeLen s) rfl (by omega))
  have HSC : Hid (∀ k, k < runeLen s → 0 ≤ (runeInts s).getD k 0 ∧ (runeInts s).getD k 0 ≤ 1114111 ∧ ¬ (55296 ≤ (runeInts s).getD k 0 ∧ (runeInts s).getD k 0 ≤ 57343)) := Lib.hid (fun k hk => by
    rw [runeInts_get s k hk]
    have h := dec_scalar s (runeAt s k) ((runeLen_spec s).2.2 k hk)
    unfold runeVal
    omega)
  have HZI := Lib.hid (fun a cap w h => zimplode_any a cap (runeInts s) w h (by rw [hln]; omega))
  have HEN := Lib.hid (encs_step s)
  have HV := Lib.hid (fun w => valid_any s w hm)
  have HSM := Lib.hid (same_eq s)
  have HDC := Lib.hid (fun p w h => b1_any s p w hm h)
  have HZL := Lib.hid hln
  have e1 : (((⟨(encs (runeInts s)).toArray⟩ : ByteArray)).toList != ((⟨(encs (runeInts s)).toArray⟩ : ByteArray)).toList) = false := by simp
  rw [hln] at HZI
  have hmk := make_want s.size hm
  obtain ⟨n, hnn⟩ : ∃ n, n = runeLen s := ⟨_, rfl⟩
  obtain ⟨zs, hzs⟩ : ∃ zs, zs = runeInts s := ⟨_, rfl⟩
  obtain ⟨sm, hsm⟩ : ∃ sm, sm = same s := ⟨_, rfl⟩
  rw [← hnn] at SP hn1 HZE HSC HZI HEN HZL
  rw [← hzs] at HZE HSC HZI HEN HSM HZL e1
  rw [← hsm] at HV HSM
  clear hnn hzs hsm hln
  have hn2 : decide ((n : Int) > (s.size : Int)) = false := by simp; omega
  go_enter Tryz.func3, Tryz.ntmps3
  go_wp2_with (first | (go_at_call 4; refine (zb_yes s _ hm).mono ?_; rintro r w2 ⟨rfl, rfl⟩) | (go_at_call 5; refine (HZE.out _).mono ?_; rintro r w1 ⟨a1, c1, rfl, h1, B1⟩; have H1 := Lib.hid h1; have HB1 := Lib.hid B1; clear h1 B1))
  go_loopw [4] (fun vi wr => ∃ k : Nat, vi = .int .i64 k ∧ k ≤ n ∧ w1 = wr) (fun vi _ => n - (intOf vi).toNat)
  case atStart => exact ⟨0, rfl, Nat.zero_le _, rfl⟩
  case round =>
    obtain ⟨k, rfl, hk, rfl⟩ := hrel
    by_cases hlt : k < n
    · obtain ⟨b, off, rfl, hc⟩ := H1.out.at (by rw [List.length_map, HZL.out]; omega)
      have hlz := HZL.out
      have hlt2 : k < zs.length := by omega
      have hc1 := hc k (by rw [List.length_map]; omega)
      have g1 : w1.cell? ⟨b, off + k, none⟩ = some (.int .i64 (zs.getD k 0)) := hc1.trans (by simp [List.getD, hlt2])
      have hsc := HSC.out k hlt
      clear hc hc1 hlz hlt2
      obtain ⟨x, hx⟩ : ∃ x, x = zs.getD k 0 := ⟨_, rfl⟩
      rw [← hx] at g1 hsc
      clear hx
      have hki : (k : Int) < (n : Int) := by omega
      have x1 : decide (x < 0) = false := decide_eq_false (by omega)
      have x2 : decide (x > 1114111) = false := decide_eq_false (by omega)
      by_cases q : x ≥ 55296
      · have x3 : decide (x ≥ 55296) = true := decide_eq_true q
        have x4 : decide (x ≤ 57343) = false := decide_eq_false (by omega)
        clear hsc q
        go_wp2_with fail
        go_roundw
        case rel => exact ⟨k + 1, by go_num, by omega, by trivial⟩
        case measure => simp [intOf]; omega
      · have x3 : decide (x ≥ 55296) = false := decide_eq_false q
        clear hsc q
        go_wp2_with fail
        go_roundw
        case rel => exact ⟨k + 1, by go_num, by omega, by trivial⟩
        case measure => simp [intOf]; omega
    · obtain rfl : k = n := by omega
      clear hlt hk
      go_wp2_with (go_at_call 6; refine (HZI.out _ _ _ H1.out).mono ?_; rintro r w2 ⟨rfl, B2⟩; have HB2 := Lib.hid B2; clear B2)
      have HW0 : Hid ((w2.alloc (.cells (madeCells #[.int .u8 0] (3 * s.size)) 5)).ownsRow w2.heap.size 5 1 (.slice (some ⟨w2.heap.size, 0, none⟩) 0 (3 * s.size)) 0 []) := Lib.hid (World.ownsRow_made w2 _ (3 * s.size) (Nat.le_refl _) (by unfold maxLen; omega) (by rw [size_madeCells, Nat.mul_one]))
      clear hmk
      go_loopw [8, 9] (fun vb vi wr => ∃ (k2 p : Nat) (acc : List UInt8), vi = .int .i64 p ∧ p ≤ s.size ∧ acc.length ≤ 3 * p ∧ Hid (p = runeAt s k2) ∧ Hid (k2 ≤ k) ∧ Hid (acc = encs (zs.take k2)) ∧ Hid (wr.ownsRow w2.heap.size 5 1 vb acc.length (Lib.byteCells acc)) ∧ Hid (Below w2.heap.size w2 wr)) (fun _ vi _ => s.size - (intOf vi).toNat)
      case atStart => exact ⟨0, 0, [], rfl, Nat.zero_le _, by simp, Lib.hid rfl, Lib.hid (Nat.zero_le _), Lib.hid rfl, HW0, Lib.hid ((Below.refl _ _).alloc (Nat.le_refl _) _)⟩
      case round =>
        obtain ⟨wa, hwa⟩ : ∃ wa, wa = wr := ⟨_, rfl⟩
        subst hwa
        obtain ⟨k2, p, acc, rfl, hp, hal, HP, HK, HA, HR, HB⟩ := hrel
        by_cases hlt : p < s.size
        · have HC := Lib.hid (fun w => HDC.out p w hlt)
          have hw1 := width_pos s p hlt
          have hw2 := width_le s p hlt
          have HKL : Hid (k2 < k) := Lib.hid (by
            have h1 := SP.out.2.1
            have h2 := HK.out
            have h3 := HP.out
            by_cases q : k2 = k
            · rw [q, h1] at h3; omega
            · omega)
          have HST : Hid (p + (Utf8.decode s p).2 = runeAt s (k2 + 1)) := Lib.hid (by rw [runeAt_step s k2 (by rw [← HP.out]; exact hlt), ← HP.out])
          have HE := Lib.hid (HEN.out k2 HKL.out)
          rw [← HP.out, ← HA.out] at HE
          by_cases q : good s p = true
          · have HG := Lib.hid (good_bytes s p hlt q)
            rw [q] at HC
            clear q
            have hal2 : acc.length + (Utf8.decode s p).2 ≤ 3 * (p + (Utf8.decode s p).2) := by omega
            obtain ⟨dv, hdv⟩ : ∃ dv, dv = (Utf8.decode s p).1 := ⟨_, rfl⟩
            obtain ⟨dn, hdn⟩ : ∃ dn, dn = (Utf8.decode s p).2 := ⟨_, rfl⟩
            rw [← hdn] at hw1 hw2 HST hal2
            rw [← hdv] at HE
            rw [← hdv, ← hdn] at HC HG
            clear hdv hdn
            go_wp2_with (go_at_call 7; refine (HC.out _).mono ?_; rintro r w3 ⟨rfl, B3⟩; have HB3 := Lib.hid (HB.out.trans (B3.mono HB.out.size)); have HR3 := Lib.hid (owns_below HR.out B3); clear B3)
            go_loopw [8, 13] (fun vb vj wr => ∃ (j : Nat) (acc2 : List UInt8), vj = .int .i64 (p + j : Nat) ∧ j ≤ dn ∧ acc2.length = acc.length + j ∧ Hid (acc2 = acc ++ seg s p j) ∧ Hid (wr.ownsRow w2.heap.size 5 1 vb acc2.length (Lib.byteCells acc2)) ∧ Hid (Below w2.heap.size w2 wr)) (fun _ vj _ => p + dn - (intOf vj).toNat)
            case atStart => exact ⟨0, acc, rfl, Nat.zero_le _, rfl, Lib.hid (by simp [seg]), HR3, HB3⟩
            case round =>
              obtain ⟨j, acc2, rfl, hj, hl2, HA2, HR4, HB4⟩ := hrel
              by_cases hlt2 : j < dn
              · have hjs : p + j < s.size := by omega
                have HT := Lib.hid (seg_push s p j acc hjs)
                rw [← HA2.out] at HT
                have hsz := HB4.out.size
                obtain ⟨c, gc⟩ : ∃ c : Int, ((s[p + j]'hjs).toNat : Int) = c := ⟨_, rfl⟩
                rw [gc] at HT
                go_wp2_with (at_builtin; refine append_one _ rfl _ _ 27 rfl w2.heap.size 5 i0 (.int .u8 0) 1 Tryz.underlying27 hi hz0 hz1 hz2 rfl _ _ _ rfl HR4.out _ rfl rfl (by unfold maxLen; omega) (by omega) (by omega) ?_; intro v5 w5 hown1 hgrow1; have HB5 := Lib.hid (below_one HB4.out hgrow1 HR4.out (by omega) (Nat.le_refl _)); have HR5 := Lib.hid hown1; clear hown1 hgrow1)
                go_roundw
                case rel => exact ⟨j + 1, acc ++ seg s p (j + 1), by go_num, by omega, by rw [List.length_append, seg_len s p (j + 1) (by omega)], Lib.hid rfl, Lib.hid (by rw [← HT.out, List.length_append, seg_len s p (j + 1) (by omega), show acc.length + (j + 1) = acc2.length + 1 by omega]; exact HR5.out), HB5⟩
                case measure => simp [intOf]; omega
              · obtain rfl : j = dn := by omega
                have HA3 : Hid (acc2 = encs (zs.take (k2 + 1))) := Lib.hid (by rw [HA2.out, HE.out, HG.out])
                go_wp2_with fail
                go_roundw
                case rel => exact ⟨k2 + 1, p + j, acc2, by go_num, by omega, by omega, HST, HKL, HA3, HR4, HB4⟩
                case measure => simp [intOf]; omega
          · have q2 : good s p = false := by simpa using q
            have hd := bad_val s p q2
            rw [q2, hd] at HC
            rw [hd] at HST HE hw1 hw2
            simp only [] at HC HST HE hw1 hw2
            clear q q2 hd
            have hsz := HB.out.size
            go_wp2_with (first | (go_at_call 7; refine (HC.out _).mono ?_; rintro r w3 ⟨rfl, B3⟩; have HB3 := Lib.hid (HB.out.trans (B3.mono HB.out.size)); have HR3 := Lib.hid (owns_below HR.out B3); have hsz3 := HB3.out.size; clear B3) | (at_builtin; refine append_one _ rfl _ _ 27 rfl w2.heap.size 5 i0 (.int .u8 0) 1 Tryz.underlying27 hi hz0 hz1 hz2 rfl _ _ _ rfl HR3.out _ rfl rfl (by unfold maxLen; omega) (by omega) (by omega) ?_; intro v4 w4 hown1 hgrow1; have HB4 := Lib.hid (below_one HB3.out hgrow1 HR3.out (by omega) (Nat.le_refl _)); have HR4 := Lib.hid hown1; have hsz4 := HB4.out.size; clear hown1 hgrow1) | (at_builtin; refine append_one _ rfl _ _ 27 rfl w2.heap.size 5 i0 (.int .u8 0) 1 Tryz.underlying27 hi hz0 hz1 hz2 rfl _ _ _ rfl HR4.out _ rfl rfl (by unfold maxLen; omega) (by omega) (by omega) ?_; intro v5 w5 hown1 hgrow1; have HB5 := Lib.hid (below_one HB4.out hgrow1 HR4.out (by omega) (Nat.le_refl _)); have HR5 := Lib.hid hown1; have hsz5 := HB5.out.size; clear hown1 hgrow1) | (at_builtin; refine append_one _ rfl _ _ 27 rfl w2.heap.size 5 i0 (.int .u8 0) 1 Tryz.underlying27 hi hz0 hz1 hz2 rfl _ _ _ rfl HR5.out _ rfl rfl (by unfold maxLen; omega) (by omega) (by omega) ?_; intro v6 w6 hown1 hgrow1; have HB6 := Lib.hid (below_one HB5.out hgrow1 HR5.out (by omega) (Nat.le_refl _)); have HR6 := Lib.hid hown1; clear hown1 hgrow1))
            go_roundw
            case rel => exact ⟨k2 + 1, p + 1, acc ++ [239, 191, 189], by go_num, by omega, by simp; omega, HST, HKL, Lib.hid (by rw [HE.out, enc_bad]), Lib.hid (by rw [Lib.byteCells_append]; simpa [Lib.byteCells] using HR6.out), HB6⟩
            case measure => simp [intOf]; omega
        · have HA2 : Hid (acc = encs zs) := Lib.hid (by
            have h1 := HP.out
            have h2 : k2 = k := by
              have h3 := HK.out
              have h4 := SP.out.2.2 k2
              omega
            have h5 := HZL.out
            rw [HA.out, h2, List.take_of_length_le (by omega)])
          have hcv := conv_owns (P := Tryz.prog) wa 27 9 5 w2.heap.size _ acc Tryz.underlying27 Tryz.underlying5 Tryz.underlying9 HR.out
          rw [HA2.out] at hcv
          go_wp2_with (go_at_call 8; refine (HV.out _).mono ?_; rintro r w7 ⟨rfl, B7⟩; have HB7 := Lib.hid B7; clear B7)
          go_ret
          exact ⟨by have h := HSM.out; simp at h ⊢; exact h, ((HB1.out.trans (HB2.out.mono HB1.out.size)).trans (HB.out.mono (Nat.le_trans HB1.out.size HB2.out.size))).trans (HB7.out.mono (Nat.le_trans HB1.out.size (Nat.le_trans HB2.out.size HB.out.size)))⟩

set_option maxRecDepth 100000 in
theorem lifted (os : Os) (started : os.Started) (H : Type) (enc : TypeId × Value → H) :
    ReturnsInHanded {} Tryz.checked os 3 .any (fun w args => (Rows.fnExplodeImplodeRoundTripSpec.pre enc Tryz.prog Tryz.f3 Rows.fnExplodeImplodeRoundTripRow.domain false w args ∧ laidMetH Tryz.prog Rows.fnExplodeImplodeRoundTripRow.laid w) ∧ sizedMet enc Tryz.prog Tryz.f3 (OpenSpec.ofChange Rows.fnExplodeImplodeRoundTripSpec) false w args)
      (Rows.fnExplodeImplodeRoundTripSpec.post enc Tryz.prog Tryz.f3 false true false false) := by
  refine returnsInHanded_of_change_and (C := Tryz.checked) (X := fun w _ => laidMetH Tryz.prog Rows.fnExplodeImplodeRoundTripRow.laid w) (fun _ _ _ hh h => h.of_heap hh) own started (by kernel_rfl) Tryz.func3
    (ChangeSpec.witness_shaped (enc := enc) (C := Tryz.checked) (os := os) (X := fun w _ => laidMetH Tryz.prog Rows.fnExplodeImplodeRoundTripRow.laid w) false (World.laidAll Tryz.prog os Rows.fnExplodeImplodeRoundTripRow.laid) #[.string ByteArray.empty] 8 (World.laidAll_os _ _ _)
      (World.shaped_of_ZipB (by kernel_rfl) (by kernel_rfl)) (by kernel_rfl) (by kernel_rfl) (by kernel_rfl)
      (by rw [MakeChecks.laidMetH_plain _ _ _ (by kernel_rfl)]; exact laidMet_laidAll _ (by kernel_rfl) (by kernel_rfl))) ?_
  intro W base args ds gs before hval0 hW hcnd _ hL _
  have hval : ∀ (j : Nat) t v, Tryz.f3.params[j]? = some t → args[j]? = some v → Value.okWide Tryz.prog W .any base t v := hval0
  have hW' := hW
  obtain ⟨p, q, hA0, hV0, rfl, hfz, hnd⟩ := hW
  have hA : DataW.TrodAll enc Tryz.prog W 0 (fun _ => true) true Tryz.f3.params.toList args.toList ds p := hA0
  rw [Tryz.params3] at hA hval
  obtain ⟨v0, vs0, d0, ds0, p0, q0, hargs, rfl, rfl, h0, r0⟩ := trodAll_cons hA
  obtain ⟨rfl, rfl, rfl⟩ := trodAll_nil r0
  obtain rfl : args = #[v0] := by cases args; simp_all
  have hgl := trodVars_len hV0
  obtain ⟨g1, g2, rfl⟩ := len2 gs hgl
  obtain ⟨s, rfl, rfl, rfl, w0⟩ := open_string Tryz.underlying9 (hval 0 9 v0 rfl rfl) h0
  clear hA0 hval0
  simp only [List.append_nil, List.nil_append] at hW'
  refine (walk s w0 W).mono fun e W' ⟨he, hg⟩ => ?_
  subst he
  exact ⟨_, rfl, post_belowV (pa := []) (pv := q) hW' (fun _ _ _ => (trodAll_cons_mk (shut_bool Tryz.underlying4 _) trodAll_mk0)) (fun sp _ => (trodAll_cons_mk (shut_string Tryz.underlying9 w0) trodAll_mk0)) (hg.trodVars laidOut (by kernel_rfl) hV0) rfl hg⟩

theorem holds : Rows.FnExplodeImplodeRoundTripSaid :=
  OpenClaim.holds_of_wide 3 Tryz.f3 rfl rfl rfl rfl rfl rfl rfl ⟨rfl, rfl, rfl, rfl, rfl⟩ rfl rfl rfl rfl rfl (by kernel_rfl) Tryz.func3 (by kernel_rfl)
    (of_decide_eq_true (by kernel_rfl)) (by unfold Func.isWrapper; first | (rw [if_pos (by decide +kernel)]; kernel_rfl) | (rw [if_neg (by decide +kernel)]; exact ⟨rfl, rfl⟩))
    (fun os started H enc _ => lifted os started H enc)

theorem card_holds : Rows.FnExplodeImplodeRoundTripCardSaid :=
  Claim7.holds_tied_plain_at .later [] _ _ _ _ holds (fun _ h => by cases h) (by kernel_rfl) (fun _ h => by cases h) fnExplodeImplodeRoundTrip_row_tie rfl ⟨rfl, rfl⟩ (by kernel_rfl) rfl
    (fun f fn hf hfn => by
      obtain rfl : f = 3 := Option.some.inj ((show Tryz.prog.funcNamed "github.com/itchyny/gojq/n001_31.FnExplodeImplodeRoundTrip" = some 3 by kernel_rfl).symm.trans hf) |>.symm
      obtain rfl : fn = Tryz.f3 := (Option.some.inj (Tryz.func3.symm.trans hfn)).symm
      exact ⟨by kernel_rfl, fun j t ht => by
        rw [Tryz.params3] at ht
        have hm : t ∈ [9] := by simpa using Array.mem_of_getElem? ht
        have hall : ([9].all fun u => !Tryz.prog.wantsStandIn u) = true := by kernel_rfl
        exact (show Tryz.prog.wantsStandIn t = false by simpa using List.all_eq_true.1 hall t hm)⟩)
    (by kernel_rfl)
#print axioms card_holds
end Go.Proofs.YtkhjcknabkpfgaaGreatDoor.fnExplodeImplodeRoundTrip
