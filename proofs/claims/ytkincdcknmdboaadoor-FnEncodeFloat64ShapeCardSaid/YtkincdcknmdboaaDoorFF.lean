/- The walk of fmtEFG, format f. -/
import Derived.Test.YtkincdcknmdboaaDoorSD
namespace Go.Proofs.YtkincdcknmdboaaDoor
open Go.RowKit
set_option linter.unusedVariables false
set_option linter.unusedSimpArgs false

/-- m of u's n digits from the place o on -/
def dl (u n o m : Nat) : List UInt8 := (List.range m).map fun j => Lib.dg u (n - 1 - (o + j))
theorem dl_len (u n o m : Nat) : (dl u n o m).length = m := by simp [dl]
theorem dl_snoc (u n o m : Nat) : dl u n o m ++ [Lib.dg u (n - 1 - (o + m))] = dl u n o (m + 1) := by simp [dl, List.range_succ]
theorem dl_zero (u n o : Nat) : dl u n o 0 = [] := rfl
theorem zeros_snoc (k : Nat) : List.replicate k (48 : UInt8) ++ [48] = List.replicate (k + 1) 48 := by
  rw [List.replicate_succ']
theorem BufAt.cast {w : World} {E : Nat} {V : Value} {L L' : List UInt8} (h : BufAt w E V L) (e : L = L') : BufAt w E V L' := e ▸ h


set_option maxRecDepth 100000 in
set_option maxHeartbeats 2000000 in
theorem ff_whole (E D n u : Nat) (k q r : Nat) (V : Value) (neg : Bool) (w : World) (hB : BufAt w E V []) (hD : DigAt w D n u) (hED : D ≠ E) (hk1 : 1 ≤ k) (hkn : k ≤ n) (hn : n ≤ 20) (hq : q = k + r) (hq2 : q ≤ 40) :
    Calls Tryd.prog 24 #[.slice (some ⟨E, 1, none⟩) 0 64, .bool neg, .slice (some ⟨D, 0, none⟩) 32 32, .int .i64 q, .int .i64 k, .int .i64 0, .int .u8 102, .bool true] w fun res w' => ∃ L : List UInt8, res = .returned (.slice (some ⟨E, 1, none⟩) L.length 64) ∧ L = (if neg then [45] else []) ++ dl u n 0 k ++ List.replicate r 48 ∧ BufAt w' E V L ∧ w.grownBy w' (some E) := by
  have HB0 := Lib.hid hB
  have HG0 := Lib.hid (World.grownBy.refl w (some E))
  have HD := Lib.hid hD
  clear hD
  have v1 : min (k : Int) (q : Int) = (k : Int) := by omega
  have v2 : (q : Int) - (k : Int) = (r : Int) := by omega
  have v3 : decide ((q : Int) > 0) = true := decide_eq_true (by omega)
  have v3n : decide (0 < q) = true := decide_eq_true (by omega)
  have v3p : 0 < q := by omega
  have hkr : k + r ≤ 40 := by omega
  clear hq hq2
  clear hB
  cases neg
  · go_enter Tryd.func24, Tryd.ntmps24
    go_wp2_with fail
    go_loopw [0, 191] (fun vd vi wr => ∃ j l : Nat, vi = .int .i64 j ∧ j ≤ k ∧ vd = .slice (some ⟨E, 1, none⟩) l 64 ∧ l ≤ 60 ∧ Hid (l = 0 + j) ∧ Hid (BufAt wr E V (([]) ++ dl u n 0 j)) ∧ Hid (w.grownBy wr (some E))) (fun _ vi _ => k - (intOf vi).toNat)
    case atStart => exact ⟨0, 0, rfl, Nat.zero_le _, rfl, by omega, Lib.hid rfl, Lib.hid (HB0.out.cast (by simp [dl])), HG0⟩
    case round =>
      obtain ⟨x1, hx1⟩ : ∃ x, x = wr := ⟨_, rfl⟩
      subst hx1
      obtain ⟨j, l1, rfl, hj, rfl, hl1, HL1, HB1, HG1⟩ := hrel
      by_cases hlt : j < k
      · have hlt9 := hlt
        have c1 := HG1.out.cell (HD.out j (by omega)) (by simp [hED])
        obtain ⟨b, hb⟩ : ∃ b, b = Lib.dg u (n - 1 - j) := ⟨_, rfl⟩
        have HS : Hid (dl u n 0 j ++ [b] = dl u n 0 (j + 1)) := Lib.hid (by rw [hb]; have h := dl_snoc u n 0 j; simpa using h)
        rw [← hb] at c1
        clear hb
        obtain ⟨c, hc⟩ : ∃ c : Int, c = (b.toNat : Int) := ⟨_, rfl⟩
        rw [← hc] at c1
        have HCc := Lib.hid hc
        clear hc
        go_wp2_with (at_builtin; refine append_byte _ rfl _ _ rfl E V (([]) ++ dl u n 0 j) b c HCc.out l1 (by have h9 := HL1.out; simp [dl_len]; omega) rfl HB1.out rfl (by omega) ?_; intro w3 hb3 hg3; have HB3 := Lib.hid (hb3.cast (by rw [List.append_assoc, HS.out])); have HG3 := Lib.hid (HG1.out.trans hg3); clear hb3 hg3)
        go_roundw
        case rel =>
          have hr9 := HL1.out
          have hr8 : Hid (l1 + 1 = 0 + (j + 1)) := Lib.hid (by omega)
          have hr7 : l1 + 1 ≤ 60 := by omega
          (first | exact ⟨j + 1, l1 + 1, by go_num, by omega, rfl, hr7, hr8, HB3, HG3⟩ | (refine ⟨_, _, _, _, _, _, _, _, _, _, _, ?_, rfl⟩; exact ⟨j + 1, l1 + 1, by go_num, by omega, rfl, hr7, hr8, HB3, HG3⟩) | (refine ⟨_, _, _, _, _, _, _, _, _, _, _, _, _, _, _, ?_, rfl⟩; exact ⟨j + 1, l1 + 1, by go_num, by omega, rfl, hr7, hr8, HB3, HG3⟩) | (refine ⟨_, _, _, _, _, _, _, _, _, _, _, _, ?_, rfl⟩; exact ⟨j + 1, l1 + 1, by go_num, by omega, rfl, hr7, hr8, HB3, HG3⟩) | (refine ⟨_, _, _, _, _, _, _, _, _, _, _, _, _, _, _, _, ?_, rfl⟩; exact ⟨j + 1, l1 + 1, by go_num, by omega, rfl, hr7, hr8, HB3, HG3⟩) | (refine ⟨_, _, _, _, _, _, _, _, _, _, _, _, _, ?_, rfl⟩; exact ⟨j + 1, l1 + 1, by go_num, by omega, rfl, hr7, hr8, HB3, HG3⟩) | (refine ⟨_, _, _, _, _, _, _, _, _, _, _, _, _, _, ?_, rfl⟩; exact ⟨j + 1, l1 + 1, by go_num, by omega, rfl, hr7, hr8, HB3, HG3⟩) | (refine ⟨_, _, _, _, _, _, _, _, _, _, _, _, _, _, _, _, _, ?_, rfl⟩; exact ⟨j + 1, l1 + 1, by go_num, by omega, rfl, hr7, hr8, HB3, HG3⟩) | (refine ⟨_, _, _, _, _, _, _, _, _, _, _, _, _, _, _, _, _, _, ?_, rfl⟩; exact ⟨j + 1, l1 + 1, by go_num, by omega, rfl, hr7, hr8, HB3, HG3⟩) | (refine ⟨_, _, _, _, _, _, _, _, _, _, ?_, rfl⟩; exact ⟨j + 1, l1 + 1, by go_num, by omega, rfl, hr7, hr8, HB3, HG3⟩) | (refine ⟨_, _, _, _, _, _, _, _, _, ?_, rfl⟩; exact ⟨j + 1, l1 + 1, by go_num, by omega, rfl, hr7, hr8, HB3, HG3⟩) | (refine ⟨_, _, _, _, _, _, _, _, ?_, rfl⟩; exact ⟨j + 1, l1 + 1, by go_num, by omega, rfl, hr7, hr8, HB3, HG3⟩) | (refine ⟨_, _, _, _, _, _, _, ?_, rfl⟩; exact ⟨j + 1, l1 + 1, by go_num, by omega, rfl, hr7, hr8, HB3, HG3⟩) | (refine ⟨_, _, _, _, _, _, ?_, rfl⟩; exact ⟨j + 1, l1 + 1, by go_num, by omega, rfl, hr7, hr8, HB3, HG3⟩) | (refine ⟨_, _, _, _, _, ?_, rfl⟩; exact ⟨j + 1, l1 + 1, by go_num, by omega, rfl, hr7, hr8, HB3, HG3⟩) | (refine ⟨_, _, _, _, ?_, rfl⟩; exact ⟨j + 1, l1 + 1, by go_num, by omega, rfl, hr7, hr8, HB3, HG3⟩))
        case measure => simp [intOf]; omega
      · obtain rfl : k = j := by omega
        have hm1 : Hid (l1 = 0 + k) := HL1
        clear hlt hj
        go_wp2_with fail
        go_loopw [0, 203] (fun vd vi wr => ∃ j l : Nat, vi = .int .i64 j ∧ j ≤ r ∧ vd = .slice (some ⟨E, 1, none⟩) l 64 ∧ l ≤ 60 ∧ Hid (l = l1 + j) ∧ Hid (BufAt wr E V ((([]) ++ dl u n 0 k) ++ List.replicate j (48 : UInt8))) ∧ Hid (w.grownBy wr (some E))) (fun _ vi _ => r - (intOf vi).toNat)
        case atStart => exact ⟨0, l1, rfl, Nat.zero_le _, rfl, by have hhm1 := hm1.out; omega, Lib.hid rfl, Lib.hid (HB1.out.cast (by simp [dl])), HG1⟩
        case round =>
          obtain ⟨x2, hx2⟩ : ∃ x, x = wr := ⟨_, rfl⟩
          subst hx2
          obtain ⟨j, l2, rfl, hj, rfl, hl2, HL2, HB2, HG2⟩ := hrel
          by_cases hlt : j < r
          · have hlt9 := hlt
            go_wp2_with (at_builtin; go_loud (refine append_byte _ rfl _ _ rfl E V ((([]) ++ dl u n 0 k) ++ List.replicate j (48 : UInt8)) 48 _ rfl l2 (by have hhm1 := hm1.out; have h9 := HL2.out; simp [dl_len]; omega) rfl HB2.out rfl (by omega) ?_); intro w3 hb3 hg3; have HB3 := Lib.hid (hb3.cast (by rw [List.append_assoc, zeros_snoc])); have HG3 := Lib.hid (HG2.out.trans hg3); clear hb3 hg3)
            go_roundw
            case rel =>
              have hhm1 := hm1.out; have hr9 := HL2.out
              have hr8 : Hid (l2 + 1 = l1 + (j + 1)) := Lib.hid (by omega)
              have hr7 : l2 + 1 ≤ 60 := by omega
              (first | exact ⟨j + 1, l2 + 1, by go_num, by omega, rfl, hr7, hr8, HB3, HG3⟩ | (refine ⟨_, _, _, _, _, _, _, _, _, _, _, ?_, rfl⟩; exact ⟨j + 1, l2 + 1, by go_num, by omega, rfl, hr7, hr8, HB3, HG3⟩) | (refine ⟨_, _, _, _, _, _, _, _, _, _, _, _, _, _, _, ?_, rfl⟩; exact ⟨j + 1, l2 + 1, by go_num, by omega, rfl, hr7, hr8, HB3, HG3⟩) | (refine ⟨_, _, _, _, _, _, _, _, _, _, _, _, ?_, rfl⟩; exact ⟨j + 1, l2 + 1, by go_num, by omega, rfl, hr7, hr8, HB3, HG3⟩) | (refine ⟨_, _, _, _, _, _, _, _, _, _, _, _, _, _, _, _, ?_, rfl⟩; exact ⟨j + 1, l2 + 1, by go_num, by omega, rfl, hr7, hr8, HB3, HG3⟩) | (refine ⟨_, _, _, _, _, _, _, _, _, _, _, _, _, ?_, rfl⟩; exact ⟨j + 1, l2 + 1, by go_num, by omega, rfl, hr7, hr8, HB3, HG3⟩) | (refine ⟨_, _, _, _, _, _, _, _, _, _, _, _, _, _, ?_, rfl⟩; exact ⟨j + 1, l2 + 1, by go_num, by omega, rfl, hr7, hr8, HB3, HG3⟩) | (refine ⟨_, _, _, _, _, _, _, _, _, _, _, _, _, _, _, _, _, ?_, rfl⟩; exact ⟨j + 1, l2 + 1, by go_num, by omega, rfl, hr7, hr8, HB3, HG3⟩) | (refine ⟨_, _, _, _, _, _, _, _, _, _, _, _, _, _, _, _, _, _, ?_, rfl⟩; exact ⟨j + 1, l2 + 1, by go_num, by omega, rfl, hr7, hr8, HB3, HG3⟩) | (refine ⟨_, _, _, _, _, _, _, _, _, _, ?_, rfl⟩; exact ⟨j + 1, l2 + 1, by go_num, by omega, rfl, hr7, hr8, HB3, HG3⟩) | (refine ⟨_, _, _, _, _, _, _, _, _, ?_, rfl⟩; exact ⟨j + 1, l2 + 1, by go_num, by omega, rfl, hr7, hr8, HB3, HG3⟩) | (refine ⟨_, _, _, _, _, _, _, _, ?_, rfl⟩; exact ⟨j + 1, l2 + 1, by go_num, by omega, rfl, hr7, hr8, HB3, HG3⟩) | (refine ⟨_, _, _, _, _, _, _, ?_, rfl⟩; exact ⟨j + 1, l2 + 1, by go_num, by omega, rfl, hr7, hr8, HB3, HG3⟩) | (refine ⟨_, _, _, _, _, _, ?_, rfl⟩; exact ⟨j + 1, l2 + 1, by go_num, by omega, rfl, hr7, hr8, HB3, HG3⟩) | (refine ⟨_, _, _, _, _, ?_, rfl⟩; exact ⟨j + 1, l2 + 1, by go_num, by omega, rfl, hr7, hr8, HB3, HG3⟩) | (refine ⟨_, _, _, _, ?_, rfl⟩; exact ⟨j + 1, l2 + 1, by go_num, by omega, rfl, hr7, hr8, HB3, HG3⟩))
            case measure => simp [intOf]; omega
          · obtain rfl : r = j := by omega
            have hm2 : Hid (l2 = l1 + r) := HL2
            clear hlt hj
            have HLL : Hid (l2 = ((([]) ++ dl u n 0 k) ++ List.replicate r (48 : UInt8)).length) := Lib.hid (by have hhm1 := hm1.out; have hhm2 := hm2.out; simp [dl_len]; omega)
            go_wp2_with fail
            go_ret
            exact ⟨(([]) ++ dl u n 0 k) ++ List.replicate r (48 : UInt8), by rw [← HLL.out]; rfl, by simp [dl], HB2.out, HG2.out⟩
  · go_enter Tryd.func24, Tryd.ntmps24
    go_wp2_with (at_builtin; refine append_byte _ rfl _ _ rfl E V ([]) 45 _ rfl 0 rfl rfl HB0.out rfl (by omega) ?_; intro w90 hb90 hg90; have HB90 := Lib.hid hb90; have HG90 := Lib.hid (HG0.out.trans hg90); clear hb90 hg90)
    go_loopw [0, 191] (fun vd vi wr => ∃ j l : Nat, vi = .int .i64 j ∧ j ≤ k ∧ vd = .slice (some ⟨E, 1, none⟩) l 64 ∧ l ≤ 60 ∧ Hid (l = 1 + j) ∧ Hid (BufAt wr E V (([] ++ [45]) ++ dl u n 0 j)) ∧ Hid (w.grownBy wr (some E))) (fun _ vi _ => k - (intOf vi).toNat)
    case atStart => exact ⟨0, 1, rfl, Nat.zero_le _, rfl, by omega, Lib.hid rfl, Lib.hid (HB90.out.cast (by simp [dl])), HG90⟩
    case round =>
      obtain ⟨x1, hx1⟩ : ∃ x, x = wr := ⟨_, rfl⟩
      subst hx1
      obtain ⟨j, l1, rfl, hj, rfl, hl1, HL1, HB1, HG1⟩ := hrel
      by_cases hlt : j < k
      · have hlt9 := hlt
        have c1 := HG1.out.cell (HD.out j (by omega)) (by simp [hED])
        obtain ⟨b, hb⟩ : ∃ b, b = Lib.dg u (n - 1 - j) := ⟨_, rfl⟩
        have HS : Hid (dl u n 0 j ++ [b] = dl u n 0 (j + 1)) := Lib.hid (by rw [hb]; have h := dl_snoc u n 0 j; simpa using h)
        rw [← hb] at c1
        clear hb
        obtain ⟨c, hc⟩ : ∃ c : Int, c = (b.toNat : Int) := ⟨_, rfl⟩
        rw [← hc] at c1
        have HCc := Lib.hid hc
        clear hc
        go_wp2_with (at_builtin; refine append_byte _ rfl _ _ rfl E V (([] ++ [45]) ++ dl u n 0 j) b c HCc.out l1 (by have h9 := HL1.out; simp [dl_len]; omega) rfl HB1.out rfl (by omega) ?_; intro w3 hb3 hg3; have HB3 := Lib.hid (hb3.cast (by rw [List.append_assoc, HS.out])); have HG3 := Lib.hid (HG1.out.trans hg3); clear hb3 hg3)
        go_roundw
        case rel =>
          have hr9 := HL1.out
          have hr8 : Hid (l1 + 1 = 1 + (j + 1)) := Lib.hid (by omega)
          have hr7 : l1 + 1 ≤ 60 := by omega
          (first | exact ⟨j + 1, l1 + 1, by go_num, by omega, rfl, hr7, hr8, HB3, HG3⟩ | (refine ⟨_, _, _, _, _, _, _, _, _, _, _, ?_, rfl⟩; exact ⟨j + 1, l1 + 1, by go_num, by omega, rfl, hr7, hr8, HB3, HG3⟩) | (refine ⟨_, _, _, _, _, _, _, _, _, _, _, _, _, _, _, ?_, rfl⟩; exact ⟨j + 1, l1 + 1, by go_num, by omega, rfl, hr7, hr8, HB3, HG3⟩) | (refine ⟨_, _, _, _, _, _, _, _, _, _, _, _, ?_, rfl⟩; exact ⟨j + 1, l1 + 1, by go_num, by omega, rfl, hr7, hr8, HB3, HG3⟩) | (refine ⟨_, _, _, _, _, _, _, _, _, _, _, _, _, _, _, _, ?_, rfl⟩; exact ⟨j + 1, l1 + 1, by go_num, by omega, rfl, hr7, hr8, HB3, HG3⟩) | (refine ⟨_, _, _, _, _, _, _, _, _, _, _, _, _, ?_, rfl⟩; exact ⟨j + 1, l1 + 1, by go_num, by omega, rfl, hr7, hr8, HB3, HG3⟩) | (refine ⟨_, _, _, _, _, _, _, _, _, _, _, _, _, _, ?_, rfl⟩; exact ⟨j + 1, l1 + 1, by go_num, by omega, rfl, hr7, hr8, HB3, HG3⟩) | (refine ⟨_, _, _, _, _, _, _, _, _, _, _, _, _, _, _, _, _, ?_, rfl⟩; exact ⟨j + 1, l1 + 1, by go_num, by omega, rfl, hr7, hr8, HB3, HG3⟩) | (refine ⟨_, _, _, _, _, _, _, _, _, _, _, _, _, _, _, _, _, _, ?_, rfl⟩; exact ⟨j + 1, l1 + 1, by go_num, by omega, rfl, hr7, hr8, HB3, HG3⟩) | (refine ⟨_, _, _, _, _, _, _, _, _, _, ?_, rfl⟩; exact ⟨j + 1, l1 + 1, by go_num, by omega, rfl, hr7, hr8, HB3, HG3⟩) | (refine ⟨_, _, _, _, _, _, _, _, _, ?_, rfl⟩; exact ⟨j + 1, l1 + 1, by go_num, by omega, rfl, hr7, hr8, HB3, HG3⟩) | (refine ⟨_, _, _, _, _, _, _, _, ?_, rfl⟩; exact ⟨j + 1, l1 + 1, by go_num, by omega, rfl, hr7, hr8, HB3, HG3⟩) | (refine ⟨_, _, _, _, _, _, _, ?_, rfl⟩; exact ⟨j + 1, l1 + 1, by go_num, by omega, rfl, hr7, hr8, HB3, HG3⟩) | (refine ⟨_, _, _, _, _, _, ?_, rfl⟩; exact ⟨j + 1, l1 + 1, by go_num, by omega, rfl, hr7, hr8, HB3, HG3⟩) | (refine ⟨_, _, _, _, _, ?_, rfl⟩; exact ⟨j + 1, l1 + 1, by go_num, by omega, rfl, hr7, hr8, HB3, HG3⟩) | (refine ⟨_, _, _, _, ?_, rfl⟩; exact ⟨j + 1, l1 + 1, by go_num, by omega, rfl, hr7, hr8, HB3, HG3⟩))
        case measure => simp [intOf]; omega
      · obtain rfl : k = j := by omega
        have hm1 : Hid (l1 = 1 + k) := HL1
        clear hlt hj
        go_wp2_with fail
        go_loopw [0, 203] (fun vd vi wr => ∃ j l : Nat, vi = .int .i64 j ∧ j ≤ r ∧ vd = .slice (some ⟨E, 1, none⟩) l 64 ∧ l ≤ 60 ∧ Hid (l = l1 + j) ∧ Hid (BufAt wr E V ((([] ++ [45]) ++ dl u n 0 k) ++ List.replicate j (48 : UInt8))) ∧ Hid (w.grownBy wr (some E))) (fun _ vi _ => r - (intOf vi).toNat)
        case atStart => exact ⟨0, l1, rfl, Nat.zero_le _, rfl, by have hhm1 := hm1.out; omega, Lib.hid rfl, Lib.hid (HB1.out.cast (by simp [dl])), HG1⟩
        case round =>
          obtain ⟨x2, hx2⟩ : ∃ x, x = wr := ⟨_, rfl⟩
          subst hx2
          obtain ⟨j, l2, rfl, hj, rfl, hl2, HL2, HB2, HG2⟩ := hrel
          by_cases hlt : j < r
          · have hlt9 := hlt
            go_wp2_with (at_builtin; go_loud (refine append_byte _ rfl _ _ rfl E V ((([] ++ [45]) ++ dl u n 0 k) ++ List.replicate j (48 : UInt8)) 48 _ rfl l2 (by have hhm1 := hm1.out; have h9 := HL2.out; simp [dl_len]; omega) rfl HB2.out rfl (by omega) ?_); intro w3 hb3 hg3; have HB3 := Lib.hid (hb3.cast (by rw [List.append_assoc, zeros_snoc])); have HG3 := Lib.hid (HG2.out.trans hg3); clear hb3 hg3)
            go_roundw
            case rel =>
              have hhm1 := hm1.out; have hr9 := HL2.out
              have hr8 : Hid (l2 + 1 = l1 + (j + 1)) := Lib.hid (by omega)
              have hr7 : l2 + 1 ≤ 60 := by omega
              (first | exact ⟨j + 1, l2 + 1, by go_num, by omega, rfl, hr7, hr8, HB3, HG3⟩ | (refine ⟨_, _, _, _, _, _, _, _, _, _, _, ?_, rfl⟩; exact ⟨j + 1, l2 + 1, by go_num, by omega, rfl, hr7, hr8, HB3, HG3⟩) | (refine ⟨_, _, _, _, _, _, _, _, _, _, _, _, _, _, _, ?_, rfl⟩; exact ⟨j + 1, l2 + 1, by go_num, by omega, rfl, hr7, hr8, HB3, HG3⟩) | (refine ⟨_, _, _, _, _, _, _, _, _, _, _, _, ?_, rfl⟩; exact ⟨j + 1, l2 + 1, by go_num, by omega, rfl, hr7, hr8, HB3, HG3⟩) | (refine ⟨_, _, _, _, _, _, _, _, _, _, _, _, _, _, _, _, ?_, rfl⟩; exact ⟨j + 1, l2 + 1, by go_num, by omega, rfl, hr7, hr8, HB3, HG3⟩) | (refine ⟨_, _, _, _, _, _, _, _, _, _, _, _, _, ?_, rfl⟩; exact ⟨j + 1, l2 + 1, by go_num, by omega, rfl, hr7, hr8, HB3, HG3⟩) | (refine ⟨_, _, _, _, _, _, _, _, _, _, _, _, _, _, ?_, rfl⟩; exact ⟨j + 1, l2 + 1, by go_num, by omega, rfl, hr7, hr8, HB3, HG3⟩) | (refine ⟨_, _, _, _, _, _, _, _, _, _, _, _, _, _, _, _, _, ?_, rfl⟩; exact ⟨j + 1, l2 + 1, by go_num, by omega, rfl, hr7, hr8, HB3, HG3⟩) | (refine ⟨_, _, _, _, _, _, _, _, _, _, _, _, _, _, _, _, _, _, ?_, rfl⟩; exact ⟨j + 1, l2 + 1, by go_num, by omega, rfl, hr7, hr8, HB3, HG3⟩) | (refine ⟨_, _, _, _, _, _, _, _, _, _, ?_, rfl⟩; exact ⟨j + 1, l2 + 1, by go_num, by omega, rfl, hr7, hr8, HB3, HG3⟩) | (refine ⟨_, _, _, _, _, _, _, _, _, ?_, rfl⟩; exact ⟨j + 1, l2 + 1, by go_num, by omega, rfl, hr7, hr8, HB3, HG3⟩) | (refine ⟨_, _, _, _, _, _, _, _, ?_, rfl⟩; exact ⟨j + 1, l2 + 1, by go_num, by omega, rfl, hr7, hr8, HB3, HG3⟩) | (refine ⟨_, _, _, _, _, _, _, ?_, rfl⟩; exact ⟨j + 1, l2 + 1, by go_num, by omega, rfl, hr7, hr8, HB3, HG3⟩) | (refine ⟨_, _, _, _, _, _, ?_, rfl⟩; exact ⟨j + 1, l2 + 1, by go_num, by omega, rfl, hr7, hr8, HB3, HG3⟩) | (refine ⟨_, _, _, _, _, ?_, rfl⟩; exact ⟨j + 1, l2 + 1, by go_num, by omega, rfl, hr7, hr8, HB3, HG3⟩) | (refine ⟨_, _, _, _, ?_, rfl⟩; exact ⟨j + 1, l2 + 1, by go_num, by omega, rfl, hr7, hr8, HB3, HG3⟩))
            case measure => simp [intOf]; omega
          · obtain rfl : r = j := by omega
            have hm2 : Hid (l2 = l1 + r) := HL2
            clear hlt hj
            have HLL : Hid (l2 = ((([] ++ [45]) ++ dl u n 0 k) ++ List.replicate r (48 : UInt8)).length) := Lib.hid (by have hhm1 := hm1.out; have hhm2 := hm2.out; simp [dl_len]; omega)
            go_wp2_with fail
            go_ret
            exact ⟨(([] ++ [45]) ++ dl u n 0 k) ++ List.replicate r (48 : UInt8), by rw [← HLL.out]; rfl, by simp [dl], HB2.out, HG2.out⟩


set_option maxRecDepth 100000 in
set_option maxHeartbeats 2000000 in
theorem ff_zero (E D n u : Nat)  (V : Value) (neg : Bool) (w : World) (hB : BufAt w E V [])  :
    Calls Tryd.prog 24 #[.slice (some ⟨E, 1, none⟩) 0 64, .bool neg, .slice none 0 0, .int .i64 0, .int .i64 0, .int .i64 (-1), .int .u8 102, .bool true] w fun res w' => ∃ L : List UInt8, res = .returned (.slice (some ⟨E, 1, none⟩) L.length 64) ∧ L = (if neg then [45] else []) ++ [48] ∧ BufAt w' E V L ∧ w.grownBy w' (some E) := by
  have HB0 := Lib.hid hB
  have HG0 := Lib.hid (World.grownBy.refl w (some E))

  clear hB
  cases neg
  · go_enter Tryd.func24, Tryd.ntmps24
    go_wp2_with (at_builtin; refine append_byte _ rfl _ _ rfl E V ([]) 48 _ rfl 0 rfl rfl HB0.out rfl (by omega) ?_; intro w90 hb90 hg90; have HB90 := Lib.hid hb90; have HG90 := Lib.hid (HG0.out.trans hg90); clear hb90 hg90)
    go_ret
    exact ⟨[] ++ [48], rfl, by simp, HB90.out, HG90.out⟩
  · go_enter Tryd.func24, Tryd.ntmps24
    go_wp2_with (first | (at_builtin; refine append_byte _ rfl _ _ rfl E V ([]) 45 _ rfl 0 rfl rfl HB0.out rfl (by omega) ?_; intro w90 hb90 hg90; have HB90 := Lib.hid hb90; have HG90 := Lib.hid (HG0.out.trans hg90); clear hb90 hg90) | (at_builtin; refine append_byte _ rfl _ _ rfl E V ([] ++ [45]) 48 _ rfl 1 rfl rfl HB90.out rfl (by omega) ?_; intro w91 hb91 hg91; have HB91 := Lib.hid hb91; have HG91 := Lib.hid (HG90.out.trans hg91); clear hb91 hg91))
    go_ret
    exact ⟨[] ++ [45] ++ [48], rfl, by simp, HB91.out, HG91.out⟩


set_option maxRecDepth 100000 in
set_option maxHeartbeats 2000000 in
theorem ff_mid (E D n u : Nat) (k q r : Nat) (V : Value) (neg : Bool) (w : World) (hB : BufAt w E V []) (hD : DigAt w D n u) (hED : D ≠ E) (hq1 : 1 ≤ q) (hr : 1 ≤ r) (hkn : k ≤ n) (hn : n ≤ 20) (hk : k = q + r) :
    Calls Tryd.prog 24 #[.slice (some ⟨E, 1, none⟩) 0 64, .bool neg, .slice (some ⟨D, 0, none⟩) 32 32, .int .i64 q, .int .i64 k, .int .i64 r, .int .u8 102, .bool true] w fun res w' => ∃ L : List UInt8, res = .returned (.slice (some ⟨E, 1, none⟩) L.length 64) ∧ L = (if neg then [45] else []) ++ dl u n 0 q ++ [46] ++ dl u n q r ∧ BufAt w' E V L ∧ w.grownBy w' (some E) := by
  have HB0 := Lib.hid hB
  have HG0 := Lib.hid (World.grownBy.refl w (some E))
  have HD := Lib.hid hD
  clear hD
  have v1 : min (k : Int) (q : Int) = (q : Int) := by omega
  have v2 : (k : Int) - (q : Int) = (r : Int) := by omega
  have v3 : decide ((q : Int) > 0) = true := decide_eq_true (by omega)
  have v3n : decide (0 < q) = true := decide_eq_true (by omega)
  have v3p : 0 < q := by omega
  have v4 : decide ((r : Int) > 0) = true := decide_eq_true (by omega)
  have v4n : decide (0 < r) = true := decide_eq_true (by omega)
  have v4p : 0 < r := by omega
  have v5 : max 0 (-(q : Int)) = 0 := by omega
  have v6 : min (r : Int) 0 = 0 := by omega
  have v7 : max 0 (r : Int) = (r : Int) := by omega
  have hqr : q + r ≤ n := by omega
  clear hk hkn
  clear hB
  cases neg
  · go_enter Tryd.func24, Tryd.ntmps24
    go_wp2_with fail
    go_loopw [0, 191] (fun vd vi wr => ∃ j l : Nat, vi = .int .i64 j ∧ j ≤ q ∧ vd = .slice (some ⟨E, 1, none⟩) l 64 ∧ l ≤ 60 ∧ Hid (l = 0 + j) ∧ Hid (BufAt wr E V (([]) ++ dl u n 0 j)) ∧ Hid (w.grownBy wr (some E))) (fun _ vi _ => q - (intOf vi).toNat)
    case atStart => exact ⟨0, 0, rfl, Nat.zero_le _, rfl, by omega, Lib.hid rfl, Lib.hid (HB0.out.cast (by simp [dl])), HG0⟩
    case round =>
      obtain ⟨x1, hx1⟩ : ∃ x, x = wr := ⟨_, rfl⟩
      subst hx1
      obtain ⟨j, l1, rfl, hj, rfl, hl1, HL1, HB1, HG1⟩ := hrel
      by_cases hlt : j < q
      · have hlt9 := hlt
        have c1 := HG1.out.cell (HD.out j (by omega)) (by simp [hED])
        obtain ⟨b, hb⟩ : ∃ b, b = Lib.dg u (n - 1 - j) := ⟨_, rfl⟩
        have HS : Hid (dl u n 0 j ++ [b] = dl u n 0 (j + 1)) := Lib.hid (by rw [hb]; have h := dl_snoc u n 0 j; simpa using h)
        rw [← hb] at c1
        clear hb
        obtain ⟨c, hc⟩ : ∃ c : Int, c = (b.toNat : Int) := ⟨_, rfl⟩
        rw [← hc] at c1
        have HCc := Lib.hid hc
        clear hc
        go_wp2_with (at_builtin; refine append_byte _ rfl _ _ rfl E V (([]) ++ dl u n 0 j) b c HCc.out l1 (by have h9 := HL1.out; simp [dl_len]; omega) rfl HB1.out rfl (by omega) ?_; intro w3 hb3 hg3; have HB3 := Lib.hid (hb3.cast (by rw [List.append_assoc, HS.out])); have HG3 := Lib.hid (HG1.out.trans hg3); clear hb3 hg3)
        go_roundw
        case rel =>
          have hr9 := HL1.out
          have hr8 : Hid (l1 + 1 = 0 + (j + 1)) := Lib.hid (by omega)
          have hr7 : l1 + 1 ≤ 60 := by omega
          (first | exact ⟨j + 1, l1 + 1, by go_num, by omega, rfl, hr7, hr8, HB3, HG3⟩ | (refine ⟨_, _, _, _, _, _, _, _, _, _, _, ?_, rfl⟩; exact ⟨j + 1, l1 + 1, by go_num, by omega, rfl, hr7, hr8, HB3, HG3⟩) | (refine ⟨_, _, _, _, _, _, _, _, _, _, _, _, _, _, _, ?_, rfl⟩; exact ⟨j + 1, l1 + 1, by go_num, by omega, rfl, hr7, hr8, HB3, HG3⟩) | (refine ⟨_, _, _, _, _, _, _, _, _, _, _, _, ?_, rfl⟩; exact ⟨j + 1, l1 + 1, by go_num, by omega, rfl, hr7, hr8, HB3, HG3⟩) | (refine ⟨_, _, _, _, _, _, _, _, _, _, _, _, _, _, _, _, ?_, rfl⟩; exact ⟨j + 1, l1 + 1, by go_num, by omega, rfl, hr7, hr8, HB3, HG3⟩) | (refine ⟨_, _, _, _, _, _, _, _, _, _, _, _, _, ?_, rfl⟩; exact ⟨j + 1, l1 + 1, by go_num, by omega, rfl, hr7, hr8, HB3, HG3⟩) | (refine ⟨_, _, _, _, _, _, _, _, _, _, _, _, _, _, ?_, rfl⟩; exact ⟨j + 1, l1 + 1, by go_num, by omega, rfl, hr7, hr8, HB3, HG3⟩) | (refine ⟨_, _, _, _, _, _, _, _, _, _, _, _, _, _, _, _, _, ?_, rfl⟩; exact ⟨j + 1, l1 + 1, by go_num, by omega, rfl, hr7, hr8, HB3, HG3⟩) | (refine ⟨_, _, _, _, _, _, _, _, _, _, _, _, _, _, _, _, _, _, ?_, rfl⟩; exact ⟨j + 1, l1 + 1, by go_num, by omega, rfl, hr7, hr8, HB3, HG3⟩) | (refine ⟨_, _, _, _, _, _, _, _, _, _, ?_, rfl⟩; exact ⟨j + 1, l1 + 1, by go_num, by omega, rfl, hr7, hr8, HB3, HG3⟩) | (refine ⟨_, _, _, _, _, _, _, _, _, ?_, rfl⟩; exact ⟨j + 1, l1 + 1, by go_num, by omega, rfl, hr7, hr8, HB3, HG3⟩) | (refine ⟨_, _, _, _, _, _, _, _, ?_, rfl⟩; exact ⟨j + 1, l1 + 1, by go_num, by omega, rfl, hr7, hr8, HB3, HG3⟩) | (refine ⟨_, _, _, _, _, _, _, ?_, rfl⟩; exact ⟨j + 1, l1 + 1, by go_num, by omega, rfl, hr7, hr8, HB3, HG3⟩) | (refine ⟨_, _, _, _, _, _, ?_, rfl⟩; exact ⟨j + 1, l1 + 1, by go_num, by omega, rfl, hr7, hr8, HB3, HG3⟩) | (refine ⟨_, _, _, _, _, ?_, rfl⟩; exact ⟨j + 1, l1 + 1, by go_num, by omega, rfl, hr7, hr8, HB3, HG3⟩) | (refine ⟨_, _, _, _, ?_, rfl⟩; exact ⟨j + 1, l1 + 1, by go_num, by omega, rfl, hr7, hr8, HB3, HG3⟩))
        case measure => simp [intOf]; omega
      · obtain rfl : q = j := by omega
        have hm1 : Hid (l1 = 0 + q) := HL1
        clear hlt hj
        go_wp2_with fail
        go_loopw [0, 203] (fun vd vi wr => ∃ j l : Nat, vi = .int .i64 j ∧ j ≤ 0 ∧ vd = .slice (some ⟨E, 1, none⟩) l 64 ∧ l ≤ 60 ∧ Hid (l = l1 + j) ∧ Hid (BufAt wr E V ((([]) ++ dl u n 0 q))) ∧ Hid (w.grownBy wr (some E))) (fun _ vi _ => 0 - (intOf vi).toNat)
        case atStart => exact ⟨0, l1, rfl, Nat.zero_le _, rfl, by have hhm1 := hm1.out; omega, Lib.hid rfl, Lib.hid (HB1.out.cast (by simp [dl])), HG1⟩
        case round =>
          obtain ⟨x2, hx2⟩ : ∃ x, x = wr := ⟨_, rfl⟩
          subst hx2
          obtain ⟨j, l2, rfl, hj, rfl, hl2, HL2, HB2, HG2⟩ := hrel
          obtain rfl : j = 0 := by omega
          have HC2 : Hid (BufAt x2 E V (([]) ++ dl u n 0 q)) := HB2
          have hm2 : Hid (l2 = l1) := Lib.hid (by have := HL2.out; omega)
          go_wp2_with (at_builtin; refine append_byte _ rfl _ _ rfl E V (([]) ++ dl u n 0 q) 46 _ rfl l2 (by have hhm1 := hm1.out; have hhm2 := hm2.out; simp [dl_len]; omega) rfl HC2.out rfl (by omega) ?_; intro w80 hb80 hg80; have HB80 := Lib.hid hb80; have HG80 := Lib.hid (HG2.out.trans hg80); clear hb80 hg80)
          go_loopw [0, 240] (fun vd vi wr => ∃ j l : Nat, vi = .int .i64 j ∧ j ≤ 0 ∧ vd = .slice (some ⟨E, 1, none⟩) l 64 ∧ l ≤ 60 ∧ Hid (l = (l2 + 1) + j) ∧ Hid (BufAt wr E V (((([]) ++ dl u n 0 q) ++ [46]))) ∧ Hid (w.grownBy wr (some E))) (fun _ vi _ => 0 - (intOf vi).toNat)
          case atStart => exact ⟨0, (l2 + 1), rfl, Nat.zero_le _, rfl, by have hhm1 := hm1.out; have hhm2 := hm2.out; omega, Lib.hid rfl, Lib.hid (HB80.out.cast (by simp [dl])), HG80⟩
          case round =>
            obtain ⟨x3, hx3⟩ : ∃ x, x = wr := ⟨_, rfl⟩
            subst hx3
            obtain ⟨j, l3, rfl, hj, rfl, hl3, HL3, HB3, HG3⟩ := hrel
            obtain rfl : j = 0 := by omega
            have HC3 : Hid (BufAt x3 E V ((([]) ++ dl u n 0 q) ++ [46])) := HB3
            have hm3 : Hid (l3 = (l2 + 1)) := Lib.hid (by have := HL3.out; omega)
            go_wp2_with fail
            go_loopw [0, 247] (fun vd vi wr => ∃ j l : Nat, vi = .int .i64 j ∧ j ≤ r ∧ vd = .slice (some ⟨E, 1, none⟩) l 64 ∧ l ≤ 60 ∧ Hid (l = l3 + j) ∧ Hid (BufAt wr E V (((([]) ++ dl u n 0 q) ++ [46]) ++ dl u n q j)) ∧ Hid (w.grownBy wr (some E))) (fun _ vi _ => r - (intOf vi).toNat)
            case atStart => exact ⟨0, l3, rfl, Nat.zero_le _, rfl, by have hhm1 := hm1.out; have hhm2 := hm2.out; have hhm3 := hm3.out; omega, Lib.hid rfl, Lib.hid (HC3.out.cast (by simp [dl])), HG3⟩
            case round =>
              obtain ⟨x4, hx4⟩ : ∃ x, x = wr := ⟨_, rfl⟩
              subst hx4
              obtain ⟨j, l4, rfl, hj, rfl, hl4, HL4, HB4, HG4⟩ := hrel
              by_cases hlt : j < r
              · have hlt9 := hlt
                have c1 := HG4.out.cell (HD.out (q + j) (by omega)) (by simp [hED])
                obtain ⟨b, hb⟩ : ∃ b, b = Lib.dg u (n - 1 - (q + j)) := ⟨_, rfl⟩
                have HS : Hid (dl u n q j ++ [b] = dl u n q (j + 1)) := Lib.hid (by rw [hb]; have h := dl_snoc u n q j; simpa using h)
                rw [← hb] at c1
                clear hb
                obtain ⟨c, hc⟩ : ∃ c : Int, c = (b.toNat : Int) := ⟨_, rfl⟩
                rw [← hc] at c1
                have HCc := Lib.hid hc
                clear hc
                have ho1 : ((q : Nat) : Int) + (j : Int) < 32 := by omega
                go_wp2_with (at_builtin; refine append_byte _ rfl _ _ rfl E V (((([]) ++ dl u n 0 q) ++ [46]) ++ dl u n q j) b c HCc.out l4 (by have hhm1 := hm1.out; have hhm2 := hm2.out; have hhm3 := hm3.out; have h9 := HL4.out; simp [dl_len]; omega) rfl HB4.out rfl (by omega) ?_; intro w3 hb3 hg3; have HB3 := Lib.hid (hb3.cast (by rw [List.append_assoc, HS.out])); have HG3 := Lib.hid (HG4.out.trans hg3); clear hb3 hg3)
                go_roundw
                case rel =>
                  have hhm1 := hm1.out; have hhm2 := hm2.out; have hhm3 := hm3.out; have hr9 := HL4.out
                  have hr8 : Hid (l4 + 1 = l3 + (j + 1)) := Lib.hid (by omega)
                  have hr7 : l4 + 1 ≤ 60 := by omega
                  (first | exact ⟨j + 1, l4 + 1, by go_num, by omega, rfl, hr7, hr8, HB3, HG3⟩ | (refine ⟨_, _, _, _, _, _, _, _, _, _, _, ?_, rfl⟩; exact ⟨j + 1, l4 + 1, by go_num, by omega, rfl, hr7, hr8, HB3, HG3⟩) | (refine ⟨_, _, _, _, _, _, _, _, _, _, _, _, _, _, _, ?_, rfl⟩; exact ⟨j + 1, l4 + 1, by go_num, by omega, rfl, hr7, hr8, HB3, HG3⟩) | (refine ⟨_, _, _, _, _, _, _, _, _, _, _, _, ?_, rfl⟩; exact ⟨j + 1, l4 + 1, by go_num, by omega, rfl, hr7, hr8, HB3, HG3⟩) | (refine ⟨_, _, _, _, _, _, _, _, _, _, _, _, _, _, _, _, ?_, rfl⟩; exact ⟨j + 1, l4 + 1, by go_num, by omega, rfl, hr7, hr8, HB3, HG3⟩) | (refine ⟨_, _, _, _, _, _, _, _, _, _, _, _, _, ?_, rfl⟩; exact ⟨j + 1, l4 + 1, by go_num, by omega, rfl, hr7, hr8, HB3, HG3⟩) | (refine ⟨_, _, _, _, _, _, _, _, _, _, _, _, _, _, ?_, rfl⟩; exact ⟨j + 1, l4 + 1, by go_num, by omega, rfl, hr7, hr8, HB3, HG3⟩) | (refine ⟨_, _, _, _, _, _, _, _, _, _, _, _, _, _, _, _, _, ?_, rfl⟩; exact ⟨j + 1, l4 + 1, by go_num, by omega, rfl, hr7, hr8, HB3, HG3⟩) | (refine ⟨_, _, _, _, _, _, _, _, _, _, _, _, _, _, _, _, _, _, ?_, rfl⟩; exact ⟨j + 1, l4 + 1, by go_num, by omega, rfl, hr7, hr8, HB3, HG3⟩) | (refine ⟨_, _, _, _, _, _, _, _, _, _, ?_, rfl⟩; exact ⟨j + 1, l4 + 1, by go_num, by omega, rfl, hr7, hr8, HB3, HG3⟩) | (refine ⟨_, _, _, _, _, _, _, _, _, ?_, rfl⟩; exact ⟨j + 1, l4 + 1, by go_num, by omega, rfl, hr7, hr8, HB3, HG3⟩) | (refine ⟨_, _, _, _, _, _, _, _, ?_, rfl⟩; exact ⟨j + 1, l4 + 1, by go_num, by omega, rfl, hr7, hr8, HB3, HG3⟩) | (refine ⟨_, _, _, _, _, _, _, ?_, rfl⟩; exact ⟨j + 1, l4 + 1, by go_num, by omega, rfl, hr7, hr8, HB3, HG3⟩) | (refine ⟨_, _, _, _, _, _, ?_, rfl⟩; exact ⟨j + 1, l4 + 1, by go_num, by omega, rfl, hr7, hr8, HB3, HG3⟩) | (refine ⟨_, _, _, _, _, ?_, rfl⟩; exact ⟨j + 1, l4 + 1, by go_num, by omega, rfl, hr7, hr8, HB3, HG3⟩) | (refine ⟨_, _, _, _, ?_, rfl⟩; exact ⟨j + 1, l4 + 1, by go_num, by omega, rfl, hr7, hr8, HB3, HG3⟩))
                case measure => simp [intOf]; omega
              · obtain rfl : r = j := by omega
                have hm4 : Hid (l4 = l3 + r) := HL4
                clear hlt hj
                go_wp2_with fail
                go_loopw [0, 261] (fun vd vi wr => ∃ j l : Nat, vi = .int .i64 j ∧ j ≤ 0 ∧ vd = .slice (some ⟨E, 1, none⟩) l 64 ∧ l ≤ 60 ∧ Hid (l = l4 + j) ∧ Hid (BufAt wr E V ((((([]) ++ dl u n 0 q) ++ [46]) ++ dl u n q r))) ∧ Hid (w.grownBy wr (some E))) (fun _ vi _ => 0 - (intOf vi).toNat)
                case atStart => exact ⟨0, l4, rfl, Nat.zero_le _, rfl, by have hhm1 := hm1.out; have hhm2 := hm2.out; have hhm3 := hm3.out; have hhm4 := hm4.out; omega, Lib.hid rfl, Lib.hid (HB4.out.cast (by simp [dl])), HG4⟩
                case round =>
                  obtain ⟨x5, hx5⟩ : ∃ x, x = wr := ⟨_, rfl⟩
                  subst hx5
                  obtain ⟨j, l5, rfl, hj, rfl, hl5, HL5, HB5, HG5⟩ := hrel
                  obtain rfl : j = 0 := by omega
                  have HC5 : Hid (BufAt x5 E V (((([]) ++ dl u n 0 q) ++ [46]) ++ dl u n q r)) := HB5
                  have hm5 : Hid (l5 = l4) := Lib.hid (by have := HL5.out; omega)
                  have HLL : Hid (l5 = (((([]) ++ dl u n 0 q) ++ [46]) ++ dl u n q r).length) := Lib.hid (by have hhm1 := hm1.out; have hhm2 := hm2.out; have hhm3 := hm3.out; have hhm4 := hm4.out; have hhm5 := hm5.out; simp [dl_len]; omega)
                  go_wp2_with fail
                  go_ret
                  exact ⟨((([]) ++ dl u n 0 q) ++ [46]) ++ dl u n q r, by rw [← HLL.out]; rfl, by simp [dl], HC5.out, HG5.out⟩
  · go_enter Tryd.func24, Tryd.ntmps24
    go_wp2_with (at_builtin; refine append_byte _ rfl _ _ rfl E V ([]) 45 _ rfl 0 rfl rfl HB0.out rfl (by omega) ?_; intro w90 hb90 hg90; have HB90 := Lib.hid hb90; have HG90 := Lib.hid (HG0.out.trans hg90); clear hb90 hg90)
    go_loopw [0, 191] (fun vd vi wr => ∃ j l : Nat, vi = .int .i64 j ∧ j ≤ q ∧ vd = .slice (some ⟨E, 1, none⟩) l 64 ∧ l ≤ 60 ∧ Hid (l = 1 + j) ∧ Hid (BufAt wr E V (([] ++ [45]) ++ dl u n 0 j)) ∧ Hid (w.grownBy wr (some E))) (fun _ vi _ => q - (intOf vi).toNat)
    case atStart => exact ⟨0, 1, rfl, Nat.zero_le _, rfl, by omega, Lib.hid rfl, Lib.hid (HB90.out.cast (by simp [dl])), HG90⟩
    case round =>
      obtain ⟨x1, hx1⟩ : ∃ x, x = wr := ⟨_, rfl⟩
      subst hx1
      obtain ⟨j, l1, rfl, hj, rfl, hl1, HL1, HB1, HG1⟩ := hrel
      by_cases hlt : j < q
      · have hlt9 := hlt
        have c1 := HG1.out.cell (HD.out j (by omega)) (by simp [hED])
        obtain ⟨b, hb⟩ : ∃ b, b = Lib.dg u (n - 1 - j) := ⟨_, rfl⟩
        have HS : Hid (dl u n 0 j ++ [b] = dl u n 0 (j + 1)) := Lib.hid (by rw [hb]; have h := dl_snoc u n 0 j; simpa using h)
        rw [← hb] at c1
        clear hb
        obtain ⟨c, hc⟩ : ∃ c : Int, c = (b.toNat : Int) := ⟨_, rfl⟩
        rw [← hc] at c1
        have HCc := Lib.hid hc
        clear hc
        go_wp2_with (at_builtin; refine append_byte _ rfl _ _ rfl E V (([] ++ [45]) ++ dl u n 0 j) b c HCc.out l1 (by have h9 := HL1.out; simp [dl_len]; omega) rfl HB1.out rfl (by omega) ?_; intro w3 hb3 hg3; have HB3 := Lib.hid (hb3.cast (by rw [List.append_assoc, HS.out])); have HG3 := Lib.hid (HG1.out.trans hg3); clear hb3 hg3)
        go_roundw
        case rel =>
          have hr9 := HL1.out
          have hr8 : Hid (l1 + 1 = 1 + (j + 1)) := Lib.hid (by omega)
          have hr7 : l1 + 1 ≤ 60 := by omega
          (first | exact ⟨j + 1, l1 + 1, by go_num, by omega, rfl, hr7, hr8, HB3, HG3⟩ | (refine ⟨_, _, _, _, _, _, _, _, _, _, _, ?_, rfl⟩; exact ⟨j + 1, l1 + 1, by go_num, by omega, rfl, hr7, hr8, HB3, HG3⟩) | (refine ⟨_, _, _, _, _, _, _, _, _, _, _, _, _, _, _, ?_, rfl⟩; exact ⟨j + 1, l1 + 1, by go_num, by omega, rfl, hr7, hr8, HB3, HG3⟩) | (refine ⟨_, _, _, _, _, _, _, _, _, _, _, _, ?_, rfl⟩; exact ⟨j + 1, l1 + 1, by go_num, by omega, rfl, hr7, hr8, HB3, HG3⟩) | (refine ⟨_, _, _, _, _, _, _, _, _, _, _, _, _, _, _, _, ?_, rfl⟩; exact ⟨j + 1, l1 + 1, by go_num, by omega, rfl, hr7, hr8, HB3, HG3⟩) | (refine ⟨_, _, _, _, _, _, _, _, _, _, _, _, _, ?_, rfl⟩; exact ⟨j + 1, l1 + 1, by go_num, by omega, rfl, hr7, hr8, HB3, HG3⟩) | (refine ⟨_, _, _, _, _, _, _, _, _, _, _, _, _, _, ?_, rfl⟩; exact ⟨j + 1, l1 + 1, by go_num, by omega, rfl, hr7, hr8, HB3, HG3⟩) | (refine ⟨_, _, _, _, _, _, _, _, _, _, _, _, _, _, _, _, _, ?_, rfl⟩; exact ⟨j + 1, l1 + 1, by go_num, by omega, rfl, hr7, hr8, HB3, HG3⟩) | (refine ⟨_, _, _, _, _, _, _, _, _, _, _, _, _, _, _, _, _, _, ?_, rfl⟩; exact ⟨j + 1, l1 + 1, by go_num, by omega, rfl, hr7, hr8, HB3, HG3⟩) | (refine ⟨_, _, _, _, _, _, _, _, _, _, ?_, rfl⟩; exact ⟨j + 1, l1 + 1, by go_num, by omega, rfl, hr7, hr8, HB3, HG3⟩) | (refine ⟨_, _, _, _, _, _, _, _, _, ?_, rfl⟩; exact ⟨j + 1, l1 + 1, by go_num, by omega, rfl, hr7, hr8, HB3, HG3⟩) | (refine ⟨_, _, _, _, _, _, _, _, ?_, rfl⟩; exact ⟨j + 1, l1 + 1, by go_num, by omega, rfl, hr7, hr8, HB3, HG3⟩) | (refine ⟨_, _, _, _, _, _, _, ?_, rfl⟩; exact ⟨j + 1, l1 + 1, by go_num, by omega, rfl, hr7, hr8, HB3, HG3⟩) | (refine ⟨_, _, _, _, _, _, ?_, rfl⟩; exact ⟨j + 1, l1 + 1, by go_num, by omega, rfl, hr7, hr8, HB3, HG3⟩) | (refine ⟨_, _, _, _, _, ?_, rfl⟩; exact ⟨j + 1, l1 + 1, by go_num, by omega, rfl, hr7, hr8, HB3, HG3⟩) | (refine ⟨_, _, _, _, ?_, rfl⟩; exact ⟨j + 1, l1 + 1, by go_num, by omega, rfl, hr7, hr8, HB3, HG3⟩))
        case measure => simp [intOf]; omega
      · obtain rfl : q = j := by omega
        have hm1 : Hid (l1 = 1 + q) := HL1
        clear hlt hj
        go_wp2_with fail
        go_loopw [0, 203] (fun vd vi wr => ∃ j l : Nat, vi = .int .i64 j ∧ j ≤ 0 ∧ vd = .slice (some ⟨E, 1, none⟩) l 64 ∧ l ≤ 60 ∧ Hid (l = l1 + j) ∧ Hid (BufAt wr E V ((([] ++ [45]) ++ dl u n 0 q))) ∧ Hid (w.grownBy wr (some E))) (fun _ vi _ => 0 - (intOf vi).toNat)
        case atStart => exact ⟨0, l1, rfl, Nat.zero_le _, rfl, by have hhm1 := hm1.out; omega, Lib.hid rfl, Lib.hid (HB1.out.cast (by simp [dl])), HG1⟩
        case round =>
          obtain ⟨x2, hx2⟩ : ∃ x, x = wr := ⟨_, rfl⟩
          subst hx2
          obtain ⟨j, l2, rfl, hj, rfl, hl2, HL2, HB2, HG2⟩ := hrel
          obtain rfl : j = 0 := by omega
          have HC2 : Hid (BufAt x2 E V (([] ++ [45]) ++ dl u n 0 q)) := HB2
          have hm2 : Hid (l2 = l1) := Lib.hid (by have := HL2.out; omega)
          go_wp2_with (at_builtin; refine append_byte _ rfl _ _ rfl E V (([] ++ [45]) ++ dl u n 0 q) 46 _ rfl l2 (by have hhm1 := hm1.out; have hhm2 := hm2.out; simp [dl_len]; omega) rfl HC2.out rfl (by omega) ?_; intro w80 hb80 hg80; have HB80 := Lib.hid hb80; have HG80 := Lib.hid (HG2.out.trans hg80); clear hb80 hg80)
          go_loopw [0, 240] (fun vd vi wr => ∃ j l : Nat, vi = .int .i64 j ∧ j ≤ 0 ∧ vd = .slice (some ⟨E, 1, none⟩) l 64 ∧ l ≤ 60 ∧ Hid (l = (l2 + 1) + j) ∧ Hid (BufAt wr E V (((([] ++ [45]) ++ dl u n 0 q) ++ [46]))) ∧ Hid (w.grownBy wr (some E))) (fun _ vi _ => 0 - (intOf vi).toNat)
          case atStart => exact ⟨0, (l2 + 1), rfl, Nat.zero_le _, rfl, by have hhm1 := hm1.out; have hhm2 := hm2.out; omega, Lib.hid rfl, Lib.hid (HB80.out.cast (by simp [dl])), HG80⟩
          case round =>
            obtain ⟨x3, hx3⟩ : ∃ x, x = wr := ⟨_, rfl⟩
            subst hx3
            obtain ⟨j, l3, rfl, hj, rfl, hl3, HL3, HB3, HG3⟩ := hrel
            obtain rfl : j = 0 := by omega
            have HC3 : Hid (BufAt x3 E V ((([] ++ [45]) ++ dl u n 0 q) ++ [46])) := HB3
            have hm3 : Hid (l3 = (l2 + 1)) := Lib.hid (by have := HL3.out; omega)
            go_wp2_with fail
            go_loopw [0, 247] (fun vd vi wr => ∃ j l : Nat, vi = .int .i64 j ∧ j ≤ r ∧ vd = .slice (some ⟨E, 1, none⟩) l 64 ∧ l ≤ 60 ∧ Hid (l = l3 + j) ∧ Hid (BufAt wr E V (((([] ++ [45]) ++ dl u n 0 q) ++ [46]) ++ dl u n q j)) ∧ Hid (w.grownBy wr (some E))) (fun _ vi _ => r - (intOf vi).toNat)
            case atStart => exact ⟨0, l3, rfl, Nat.zero_le _, rfl, by have hhm1 := hm1.out; have hhm2 := hm2.out; have hhm3 := hm3.out; omega, Lib.hid rfl, Lib.hid (HC3.out.cast (by simp [dl])), HG3⟩
            case round =>
              obtain ⟨x4, hx4⟩ : ∃ x, x = wr := ⟨_, rfl⟩
              subst hx4
              obtain ⟨j, l4, rfl, hj, rfl, hl4, HL4, HB4, HG4⟩ := hrel
              by_cases hlt : j < r
              · have hlt9 := hlt
                have c1 := HG4.out.cell (HD.out (q + j) (by omega)) (by simp [hED])
                obtain ⟨b, hb⟩ : ∃ b, b = Lib.dg u (n - 1 - (q + j)) := ⟨_, rfl⟩
                have HS : Hid (dl u n q j ++ [b] = dl u n q (j + 1)) := Lib.hid (by rw [hb]; have h := dl_snoc u n q j; simpa using h)
                rw [← hb] at c1
                clear hb
                obtain ⟨c, hc⟩ : ∃ c : Int, c = (b.toNat : Int) := ⟨_, rfl⟩
                rw [← hc] at c1
                have HCc := Lib.hid hc
                clear hc
                have ho1 : ((q : Nat) : Int) + (j : Int) < 32 := by omega
                go_wp2_with (at_builtin; refine append_byte _ rfl _ _ rfl E V (((([] ++ [45]) ++ dl u n 0 q) ++ [46]) ++ dl u n q j) b c HCc.out l4 (by have hhm1 := hm1.out; have hhm2 := hm2.out; have hhm3 := hm3.out; have h9 := HL4.out; simp [dl_len]; omega) rfl HB4.out rfl (by omega) ?_; intro w3 hb3 hg3; have HB3 := Lib.hid (hb3.cast (by rw [List.append_assoc, HS.out])); have HG3 := Lib.hid (HG4.out.trans hg3); clear hb3 hg3)
                go_roundw
                case rel =>
                  have hhm1 := hm1.out; have hhm2 := hm2.out; have hhm3 := hm3.out; have hr9 := HL4.out
                  have hr8 : Hid (l4 + 1 = l3 + (j + 1)) := Lib.hid (by omega)
                  have hr7 : l4 + 1 ≤ 60 := by omega
                  (first | exact ⟨j + 1, l4 + 1, by go_num, by omega, rfl, hr7, hr8, HB3, HG3⟩ | (refine ⟨_, _, _, _, _, _, _, _, _, _, _, ?_, rfl⟩; exact ⟨j + 1, l4 + 1, by go_num, by omega, rfl, hr7, hr8, HB3, HG3⟩) | (refine ⟨_, _, _, _, _, _, _, _, _, _, _, _, _, _, _, ?_, rfl⟩; exact ⟨j + 1, l4 + 1, by go_num, by omega, rfl, hr7, hr8, HB3, HG3⟩) | (refine ⟨_, _, _, _, _, _, _, _, _, _, _, _, ?_, rfl⟩; exact ⟨j + 1, l4 + 1, by go_num, by omega, rfl, hr7, hr8, HB3, HG3⟩) | (refine ⟨_, _, _, _, _, _, _, _, _, _, _, _, _, _, _, _, ?_, rfl⟩; exact ⟨j + 1, l4 + 1, by go_num, by omega, rfl, hr7, hr8, HB3, HG3⟩) | (refine ⟨_, _, _, _, _, _, _, _, _, _, _, _, _, ?_, rfl⟩; exact ⟨j + 1, l4 + 1, by go_num, by omega, rfl, hr7, hr8, HB3, HG3⟩) | (refine ⟨_, _, _, _, _, _, _, _, _, _, _, _, _, _, ?_, rfl⟩; exact ⟨j + 1, l4 + 1, by go_num, by omega, rfl, hr7, hr8, HB3, HG3⟩) | (refine ⟨_, _, _, _, _, _, _, _, _, _, _, _, _, _, _, _, _, ?_, rfl⟩; exact ⟨j + 1, l4 + 1, by go_num, by omega, rfl, hr7, hr8, HB3, HG3⟩) | (refine ⟨_, _, _, _, _, _, _, _, _, _, _, _, _, _, _, _, _, _, ?_, rfl⟩; exact ⟨j + 1, l4 + 1, by go_num, by omega, rfl, hr7, hr8, HB3, HG3⟩) | (refine ⟨_, _, _, _, _, _, _, _, _, _, ?_, rfl⟩; exact ⟨j + 1, l4 + 1, by go_num, by omega, rfl, hr7, hr8, HB3, HG3⟩) | (refine ⟨_, _, _, _, _, _, _, _, _, ?_, rfl⟩; exact ⟨j + 1, l4 + 1, by go_num, by omega, rfl, hr7, hr8, HB3, HG3⟩) | (refine ⟨_, _, _, _, _, _, _, _, ?_, rfl⟩; exact ⟨j + 1, l4 + 1, by go_num, by omega, rfl, hr7, hr8, HB3, HG3⟩) | (refine ⟨_, _, _, _, _, _, _, ?_, rfl⟩; exact ⟨j + 1, l4 + 1, by go_num, by omega, rfl, hr7, hr8, HB3, HG3⟩) | (refine ⟨_, _, _, _, _, _, ?_, rfl⟩; exact ⟨j + 1, l4 + 1, by go_num, by omega, rfl, hr7, hr8, HB3, HG3⟩) | (refine ⟨_, _, _, _, _, ?_, rfl⟩; exact ⟨j + 1, l4 + 1, by go_num, by omega, rfl, hr7, hr8, HB3, HG3⟩) | (refine ⟨_, _, _, _, ?_, rfl⟩; exact ⟨j + 1, l4 + 1, by go_num, by omega, rfl, hr7, hr8, HB3, HG3⟩))
                case measure => simp [intOf]; omega
              · obtain rfl : r = j := by omega
                have hm4 : Hid (l4 = l3 + r) := HL4
                clear hlt hj
                go_wp2_with fail
                go_loopw [0, 261] (fun vd vi wr => ∃ j l : Nat, vi = .int .i64 j ∧ j ≤ 0 ∧ vd = .slice (some ⟨E, 1, none⟩) l 64 ∧ l ≤ 60 ∧ Hid (l = l4 + j) ∧ Hid (BufAt wr E V ((((([] ++ [45]) ++ dl u n 0 q) ++ [46]) ++ dl u n q r))) ∧ Hid (w.grownBy wr (some E))) (fun _ vi _ => 0 - (intOf vi).toNat)
                case atStart => exact ⟨0, l4, rfl, Nat.zero_le _, rfl, by have hhm1 := hm1.out; have hhm2 := hm2.out; have hhm3 := hm3.out; have hhm4 := hm4.out; omega, Lib.hid rfl, Lib.hid (HB4.out.cast (by simp [dl])), HG4⟩
                case round =>
                  obtain ⟨x5, hx5⟩ : ∃ x, x = wr := ⟨_, rfl⟩
                  subst hx5
                  obtain ⟨j, l5, rfl, hj, rfl, hl5, HL5, HB5, HG5⟩ := hrel
                  obtain rfl : j = 0 := by omega
                  have HC5 : Hid (BufAt x5 E V (((([] ++ [45]) ++ dl u n 0 q) ++ [46]) ++ dl u n q r)) := HB5
                  have hm5 : Hid (l5 = l4) := Lib.hid (by have := HL5.out; omega)
                  have HLL : Hid (l5 = (((([] ++ [45]) ++ dl u n 0 q) ++ [46]) ++ dl u n q r).length) := Lib.hid (by have hhm1 := hm1.out; have hhm2 := hm2.out; have hhm3 := hm3.out; have hhm4 := hm4.out; have hhm5 := hm5.out; simp [dl_len]; omega)
                  go_wp2_with fail
                  go_ret
                  exact ⟨((([] ++ [45]) ++ dl u n 0 q) ++ [46]) ++ dl u n q r, by rw [← HLL.out]; rfl, by simp [dl], HC5.out, HG5.out⟩


set_option maxRecDepth 100000 in
set_option maxHeartbeats 2000000 in
theorem ff_low (E D n u : Nat) (k z r : Nat) (V : Value) (neg : Bool) (w : World) (hB : BufAt w E V []) (hD : DigAt w D n u) (hED : D ≠ E) (hk1 : 1 ≤ k) (hkn : k ≤ n) (hn : n ≤ 20) (hz : z ≤ 30) (hr : r = k + z) :
    Calls Tryd.prog 24 #[.slice (some ⟨E, 1, none⟩) 0 64, .bool neg, .slice (some ⟨D, 0, none⟩) 32 32, .int .i64 (-(z : Int)), .int .i64 k, .int .i64 r, .int .u8 102, .bool true] w fun res w' => ∃ L : List UInt8, res = .returned (.slice (some ⟨E, 1, none⟩) L.length 64) ∧ L = (if neg then [45] else []) ++ [48, 46] ++ List.replicate z 48 ++ dl u n 0 k ∧ BufAt w' E V L ∧ w.grownBy w' (some E) := by
  have HB0 := Lib.hid hB
  have HG0 := Lib.hid (World.grownBy.refl w (some E))
  have HD := Lib.hid hD
  clear hD
  have v3 : decide (-(z : Int) > 0) = false := decide_eq_false (by omega)
  have v4 : decide ((r : Int) > 0) = true := decide_eq_true (by omega)
  have v4n : decide (0 < r) = true := decide_eq_true (by omega)
  have v4p : 0 < r := by omega
  have v5 : max 0 (z : Int) = (z : Int) := by omega
  have v6 : min (r : Int) (z : Int) = (z : Int) := by omega
  have v7 : (r : Int) - (z : Int) = (k : Int) := by omega
  have v8 : max 0 (k : Int) = (k : Int) := by omega
  have v9 : -(z : Int) + (z : Int) = 0 := by omega
  have v10 : max 0 ((k : Int) - 0) = (k : Int) := by omega
  have v11 : min (k : Int) (k : Int) = (k : Int) := by omega
  have v12 : max 0 ((k : Int) - (k : Int)) = 0 := by omega
  clear hr
  clear hB
  cases neg
  · go_enter Tryd.func24, Tryd.ntmps24
    go_wp2_with (first | (at_builtin; refine append_byte _ rfl _ _ rfl E V ([]) 48 _ rfl 0 rfl rfl HB0.out rfl (by omega) ?_; intro w90 hb90 hg90; have HB90 := Lib.hid hb90; have HG90 := Lib.hid (HG0.out.trans hg90); clear hb90 hg90) | (at_builtin; refine append_byte _ rfl _ _ rfl E V ([] ++ [48]) 46 _ rfl 1 rfl rfl HB90.out rfl (by omega) ?_; intro w91 hb91 hg91; have HB91 := Lib.hid hb91; have HG91 := Lib.hid (HG90.out.trans hg91); clear hb91 hg91))
    go_loopw [0, 240] (fun vd vi wr => ∃ j l : Nat, vi = .int .i64 j ∧ j ≤ z ∧ vd = .slice (some ⟨E, 1, none⟩) l 64 ∧ l ≤ 60 ∧ Hid (l = 2 + j) ∧ Hid (BufAt wr E V (([] ++ [48] ++ [46]) ++ List.replicate j (48 : UInt8))) ∧ Hid (w.grownBy wr (some E))) (fun _ vi _ => z - (intOf vi).toNat)
    case atStart => exact ⟨0, 2, rfl, Nat.zero_le _, rfl, by omega, Lib.hid rfl, Lib.hid (HB91.out.cast (by simp [dl])), HG91⟩
    case round =>
      obtain ⟨x1, hx1⟩ : ∃ x, x = wr := ⟨_, rfl⟩
      subst hx1
      obtain ⟨j, l1, rfl, hj, rfl, hl1, HL1, HB1, HG1⟩ := hrel
      by_cases hlt : j < z
      · have hlt9 := hlt
        go_wp2_with (at_builtin; go_loud (refine append_byte _ rfl _ _ rfl E V (([] ++ [48] ++ [46]) ++ List.replicate j (48 : UInt8)) 48 _ rfl l1 (by have h9 := HL1.out; simp [dl_len]; omega) rfl HB1.out rfl (by omega) ?_); intro w3 hb3 hg3; have HB3 := Lib.hid (hb3.cast (by rw [List.append_assoc, zeros_snoc])); have HG3 := Lib.hid (HG1.out.trans hg3); clear hb3 hg3)
        go_roundw
        case rel =>
          have hr9 := HL1.out
          have hr8 : Hid (l1 + 1 = 2 + (j + 1)) := Lib.hid (by omega)
          have hr7 : l1 + 1 ≤ 60 := by omega
          (first | exact ⟨j + 1, l1 + 1, by go_num, by omega, rfl, hr7, hr8, HB3, HG3⟩ | (refine ⟨_, _, _, _, _, _, _, _, _, _, _, ?_, rfl⟩; exact ⟨j + 1, l1 + 1, by go_num, by omega, rfl, hr7, hr8, HB3, HG3⟩) | (refine ⟨_, _, _, _, _, _, _, _, _, _, _, _, _, _, _, ?_, rfl⟩; exact ⟨j + 1, l1 + 1, by go_num, by omega, rfl, hr7, hr8, HB3, HG3⟩) | (refine ⟨_, _, _, _, _, _, _, _, _, _, _, _, ?_, rfl⟩; exact ⟨j + 1, l1 + 1, by go_num, by omega, rfl, hr7, hr8, HB3, HG3⟩) | (refine ⟨_, _, _, _, _, _, _, _, _, _, _, _, _, _, _, _, ?_, rfl⟩; exact ⟨j + 1, l1 + 1, by go_num, by omega, rfl, hr7, hr8, HB3, HG3⟩) | (refine ⟨_, _, _, _, _, _, _, _, _, _, _, _, _, ?_, rfl⟩; exact ⟨j + 1, l1 + 1, by go_num, by omega, rfl, hr7, hr8, HB3, HG3⟩) | (refine ⟨_, _, _, _, _, _, _, _, _, _, _, _, _, _, ?_, rfl⟩; exact ⟨j + 1, l1 + 1, by go_num, by omega, rfl, hr7, hr8, HB3, HG3⟩) | (refine ⟨_, _, _, _, _, _, _, _, _, _, _, _, _, _, _, _, _, ?_, rfl⟩; exact ⟨j + 1, l1 + 1, by go_num, by omega, rfl, hr7, hr8, HB3, HG3⟩) | (refine ⟨_, _, _, _, _, _, _, _, _, _, _, _, _, _, _, _, _, _, ?_, rfl⟩; exact ⟨j + 1, l1 + 1, by go_num, by omega, rfl, hr7, hr8, HB3, HG3⟩) | (refine ⟨_, _, _, _, _, _, _, _, _, _, ?_, rfl⟩; exact ⟨j + 1, l1 + 1, by go_num, by omega, rfl, hr7, hr8, HB3, HG3⟩) | (refine ⟨_, _, _, _, _, _, _, _, _, ?_, rfl⟩; exact ⟨j + 1, l1 + 1, by go_num, by omega, rfl, hr7, hr8, HB3, HG3⟩) | (refine ⟨_, _, _, _, _, _, _, _, ?_, rfl⟩; exact ⟨j + 1, l1 + 1, by go_num, by omega, rfl, hr7, hr8, HB3, HG3⟩) | (refine ⟨_, _, _, _, _, _, _, ?_, rfl⟩; exact ⟨j + 1, l1 + 1, by go_num, by omega, rfl, hr7, hr8, HB3, HG3⟩) | (refine ⟨_, _, _, _, _, _, ?_, rfl⟩; exact ⟨j + 1, l1 + 1, by go_num, by omega, rfl, hr7, hr8, HB3, HG3⟩) | (refine ⟨_, _, _, _, _, ?_, rfl⟩; exact ⟨j + 1, l1 + 1, by go_num, by omega, rfl, hr7, hr8, HB3, HG3⟩) | (refine ⟨_, _, _, _, ?_, rfl⟩; exact ⟨j + 1, l1 + 1, by go_num, by omega, rfl, hr7, hr8, HB3, HG3⟩))
        case measure => simp [intOf]; omega
      · obtain rfl : z = j := by omega
        have hm1 : Hid (l1 = 2 + z) := HL1
        clear hlt hj
        go_wp2_with fail
        go_loopw [0, 247] (fun vd vi wr => ∃ j l : Nat, vi = .int .i64 j ∧ j ≤ k ∧ vd = .slice (some ⟨E, 1, none⟩) l 64 ∧ l ≤ 60 ∧ Hid (l = l1 + j) ∧ Hid (BufAt wr E V ((([] ++ [48] ++ [46]) ++ List.replicate z (48 : UInt8)) ++ dl u n 0 j)) ∧ Hid (w.grownBy wr (some E))) (fun _ vi _ => k - (intOf vi).toNat)
        case atStart => exact ⟨0, l1, rfl, Nat.zero_le _, rfl, by have hhm1 := hm1.out; omega, Lib.hid rfl, Lib.hid (HB1.out.cast (by simp [dl])), HG1⟩
        case round =>
          obtain ⟨x2, hx2⟩ : ∃ x, x = wr := ⟨_, rfl⟩
          subst hx2
          obtain ⟨j, l2, rfl, hj, rfl, hl2, HL2, HB2, HG2⟩ := hrel
          by_cases hlt : j < k
          · have hlt9 := hlt
            have c1 := HG2.out.cell (HD.out j (by omega)) (by simp [hED])
            obtain ⟨b, hb⟩ : ∃ b, b = Lib.dg u (n - 1 - j) := ⟨_, rfl⟩
            have HS : Hid (dl u n 0 j ++ [b] = dl u n 0 (j + 1)) := Lib.hid (by rw [hb]; have h := dl_snoc u n 0 j; simpa using h)
            rw [← hb] at c1
            clear hb
            obtain ⟨c, hc⟩ : ∃ c : Int, c = (b.toNat : Int) := ⟨_, rfl⟩
            rw [← hc] at c1
            have HCc := Lib.hid hc
            clear hc
            go_wp2_with (at_builtin; refine append_byte _ rfl _ _ rfl E V ((([] ++ [48] ++ [46]) ++ List.replicate z (48 : UInt8)) ++ dl u n 0 j) b c HCc.out l2 (by have hhm1 := hm1.out; have h9 := HL2.out; simp [dl_len]; omega) rfl HB2.out rfl (by omega) ?_; intro w3 hb3 hg3; have HB3 := Lib.hid (hb3.cast (by rw [List.append_assoc, HS.out])); have HG3 := Lib.hid (HG2.out.trans hg3); clear hb3 hg3)
            go_roundw
            case rel =>
              have hhm1 := hm1.out; have hr9 := HL2.out
              have hr8 : Hid (l2 + 1 = l1 + (j + 1)) := Lib.hid (by omega)
              have hr7 : l2 + 1 ≤ 60 := by omega
              (first | exact ⟨j + 1, l2 + 1, by go_num, by omega, rfl, hr7, hr8, HB3, HG3⟩ | (refine ⟨_, _, _, _, _, _, _, _, _, _, _, ?_, rfl⟩; exact ⟨j + 1, l2 + 1, by go_num, by omega, rfl, hr7, hr8, HB3, HG3⟩) | (refine ⟨_, _, _, _, _, _, _, _, _, _, _, _, _, _, _, ?_, rfl⟩; exact ⟨j + 1, l2 + 1, by go_num, by omega, rfl, hr7, hr8, HB3, HG3⟩) | (refine ⟨_, _, _, _, _, _, _, _, _, _, _, _, ?_, rfl⟩; exact ⟨j + 1, l2 + 1, by go_num, by omega, rfl, hr7, hr8, HB3, HG3⟩) | (refine ⟨_, _, _, _, _, _, _, _, _, _, _, _, _, _, _, _, ?_, rfl⟩; exact ⟨j + 1, l2 + 1, by go_num, by omega, rfl, hr7, hr8, HB3, HG3⟩) | (refine ⟨_, _, _, _, _, _, _, _, _, _, _, _, _, ?_, rfl⟩; exact ⟨j + 1, l2 + 1, by go_num, by omega, rfl, hr7, hr8, HB3, HG3⟩) | (refine ⟨_, _, _, _, _, _, _, _, _, _, _, _, _, _, ?_, rfl⟩; exact ⟨j + 1, l2 + 1, by go_num, by omega, rfl, hr7, hr8, HB3, HG3⟩) | (refine ⟨_, _, _, _, _, _, _, _, _, _, _, _, _, _, _, _, _, ?_, rfl⟩; exact ⟨j + 1, l2 + 1, by go_num, by omega, rfl, hr7, hr8, HB3, HG3⟩) | (refine ⟨_, _, _, _, _, _, _, _, _, _, _, _, _, _, _, _, _, _, ?_, rfl⟩; exact ⟨j + 1, l2 + 1, by go_num, by omega, rfl, hr7, hr8, HB3, HG3⟩) | (refine ⟨_, _, _, _, _, _, _, _, _, _, ?_, rfl⟩; exact ⟨j + 1, l2 + 1, by go_num, by omega, rfl, hr7, hr8, HB3, HG3⟩) | (refine ⟨_, _, _, _, _, _, _, _, _, ?_, rfl⟩; exact ⟨j + 1, l2 + 1, by go_num, by omega, rfl, hr7, hr8, HB3, HG3⟩) | (refine ⟨_, _, _, _, _, _, _, _, ?_, rfl⟩; exact ⟨j + 1, l2 + 1, by go_num, by omega, rfl, hr7, hr8, HB3, HG3⟩) | (refine ⟨_, _, _, _, _, _, _, ?_, rfl⟩; exact ⟨j + 1, l2 + 1, by go_num, by omega, rfl, hr7, hr8, HB3, HG3⟩) | (refine ⟨_, _, _, _, _, _, ?_, rfl⟩; exact ⟨j + 1, l2 + 1, by go_num, by omega, rfl, hr7, hr8, HB3, HG3⟩) | (refine ⟨_, _, _, _, _, ?_, rfl⟩; exact ⟨j + 1, l2 + 1, by go_num, by omega, rfl, hr7, hr8, HB3, HG3⟩) | (refine ⟨_, _, _, _, ?_, rfl⟩; exact ⟨j + 1, l2 + 1, by go_num, by omega, rfl, hr7, hr8, HB3, HG3⟩))
            case measure => simp [intOf]; omega
          · obtain rfl : k = j := by omega
            have hm2 : Hid (l2 = l1 + k) := HL2
            clear hlt hj
            go_wp2_with fail
            go_loopw [0, 261] (fun vd vi wr => ∃ j l : Nat, vi = .int .i64 j ∧ j ≤ 0 ∧ vd = .slice (some ⟨E, 1, none⟩) l 64 ∧ l ≤ 60 ∧ Hid (l = l2 + j) ∧ Hid (BufAt wr E V (((([] ++ [48] ++ [46]) ++ List.replicate z (48 : UInt8)) ++ dl u n 0 k))) ∧ Hid (w.grownBy wr (some E))) (fun _ vi _ => 0 - (intOf vi).toNat)
            case atStart => exact ⟨0, l2, rfl, Nat.zero_le _, rfl, by have hhm1 := hm1.out; have hhm2 := hm2.out; omega, Lib.hid rfl, Lib.hid (HB2.out.cast (by simp [dl])), HG2⟩
            case round =>
              obtain ⟨x3, hx3⟩ : ∃ x, x = wr := ⟨_, rfl⟩
              subst hx3
              obtain ⟨j, l3, rfl, hj, rfl, hl3, HL3, HB3, HG3⟩ := hrel
              obtain rfl : j = 0 := by omega
              have HC3 : Hid (BufAt x3 E V ((([] ++ [48] ++ [46]) ++ List.replicate z (48 : UInt8)) ++ dl u n 0 k)) := HB3
              have hm3 : Hid (l3 = l2) := Lib.hid (by have := HL3.out; omega)
              have HLL : Hid (l3 = ((([] ++ [48] ++ [46]) ++ List.replicate z (48 : UInt8)) ++ dl u n 0 k).length) := Lib.hid (by have hhm1 := hm1.out; have hhm2 := hm2.out; have hhm3 := hm3.out; simp [dl_len]; omega)
              go_wp2_with fail
              go_ret
              exact ⟨(([] ++ [48] ++ [46]) ++ List.replicate z (48 : UInt8)) ++ dl u n 0 k, by rw [← HLL.out]; rfl, by simp [dl], HC3.out, HG3.out⟩
  · go_enter Tryd.func24, Tryd.ntmps24
    go_wp2_with (first | (at_builtin; refine append_byte _ rfl _ _ rfl E V ([]) 45 _ rfl 0 rfl rfl HB0.out rfl (by omega) ?_; intro w90 hb90 hg90; have HB90 := Lib.hid hb90; have HG90 := Lib.hid (HG0.out.trans hg90); clear hb90 hg90) | (at_builtin; refine append_byte _ rfl _ _ rfl E V ([] ++ [45]) 48 _ rfl 1 rfl rfl HB90.out rfl (by omega) ?_; intro w91 hb91 hg91; have HB91 := Lib.hid hb91; have HG91 := Lib.hid (HG90.out.trans hg91); clear hb91 hg91) | (at_builtin; refine append_byte _ rfl _ _ rfl E V ([] ++ [45] ++ [48]) 46 _ rfl 2 rfl rfl HB91.out rfl (by omega) ?_; intro w92 hb92 hg92; have HB92 := Lib.hid hb92; have HG92 := Lib.hid (HG91.out.trans hg92); clear hb92 hg92))
    go_loopw [0, 240] (fun vd vi wr => ∃ j l : Nat, vi = .int .i64 j ∧ j ≤ z ∧ vd = .slice (some ⟨E, 1, none⟩) l 64 ∧ l ≤ 60 ∧ Hid (l = 3 + j) ∧ Hid (BufAt wr E V (([] ++ [45] ++ [48] ++ [46]) ++ List.replicate j (48 : UInt8))) ∧ Hid (w.grownBy wr (some E))) (fun _ vi _ => z - (intOf vi).toNat)
    case atStart => exact ⟨0, 3, rfl, Nat.zero_le _, rfl, by omega, Lib.hid rfl, Lib.hid (HB92.out.cast (by simp [dl])), HG92⟩
    case round =>
      obtain ⟨x1, hx1⟩ : ∃ x, x = wr := ⟨_, rfl⟩
      subst hx1
      obtain ⟨j, l1, rfl, hj, rfl, hl1, HL1, HB1, HG1⟩ := hrel
      by_cases hlt : j < z
      · have hlt9 := hlt
        go_wp2_with (at_builtin; go_loud (refine append_byte _ rfl _ _ rfl E V (([] ++ [45] ++ [48] ++ [46]) ++ List.replicate j (48 : UInt8)) 48 _ rfl l1 (by have h9 := HL1.out; simp [dl_len]; omega) rfl HB1.out rfl (by omega) ?_); intro w3 hb3 hg3; have HB3 := Lib.hid (hb3.cast (by rw [List.append_assoc, zeros_snoc])); have HG3 := Lib.hid (HG1.out.trans hg3); clear hb3 hg3)
        go_roundw
        case rel =>
          have hr9 := HL1.out
          have hr8 : Hid (l1 + 1 = 3 + (j + 1)) := Lib.hid (by omega)
          have hr7 : l1 + 1 ≤ 60 := by omega
          (first | exact ⟨j + 1, l1 + 1, by go_num, by omega, rfl, hr7, hr8, HB3, HG3⟩ | (refine ⟨_, _, _, _, _, _, _, _, _, _, _, ?_, rfl⟩; exact ⟨j + 1, l1 + 1, by go_num, by omega, rfl, hr7, hr8, HB3, HG3⟩) | (refine ⟨_, _, _, _, _, _, _, _, _, _, _, _, _, _, _, ?_, rfl⟩; exact ⟨j + 1, l1 + 1, by go_num, by omega, rfl, hr7, hr8, HB3, HG3⟩) | (refine ⟨_, _, _, _, _, _, _, _, _, _, _, _, ?_, rfl⟩; exact ⟨j + 1, l1 + 1, by go_num, by omega, rfl, hr7, hr8, HB3, HG3⟩) | (refine ⟨_, _, _, _, _, _, _, _, _, _, _, _, _, _, _, _, ?_, rfl⟩; exact ⟨j + 1, l1 + 1, by go_num, by omega, rfl, hr7, hr8, HB3, HG3⟩) | (refine ⟨_, _, _, _, _, _, _, _, _, _, _, _, _, ?_, rfl⟩; exact ⟨j + 1, l1 + 1, by go_num, by omega, rfl, hr7, hr8, HB3, HG3⟩) | (refine ⟨_, _, _, _, _, _, _, _, _, _, _, _, _, _, ?_, rfl⟩; exact ⟨j + 1, l1 + 1, by go_num, by omega, rfl, hr7, hr8, HB3, HG3⟩) | (refine ⟨_, _, _, _, _, _, _, _, _, _, _, _, _, _, _, _, _, ?_, rfl⟩; exact ⟨j + 1, l1 + 1, by go_num, by omega, rfl, hr7, hr8, HB3, HG3⟩) | (refine ⟨_, _, _, _, _, _, _, _, _, _, _, _, _, _, _, _, _, _, ?_, rfl⟩; exact ⟨j + 1, l1 + 1, by go_num, by omega, rfl, hr7, hr8, HB3, HG3⟩) | (refine ⟨_, _, _, _, _, _, _, _, _, _, ?_, rfl⟩; exact ⟨j + 1, l1 + 1, by go_num, by omega, rfl, hr7, hr8, HB3, HG3⟩) | (refine ⟨_, _, _, _, _, _, _, _, _, ?_, rfl⟩; exact ⟨j + 1, l1 + 1, by go_num, by omega, rfl, hr7, hr8, HB3, HG3⟩) | (refine ⟨_, _, _, _, _, _, _, _, ?_, rfl⟩; exact ⟨j + 1, l1 + 1, by go_num, by omega, rfl, hr7, hr8, HB3, HG3⟩) | (refine ⟨_, _, _, _, _, _, _, ?_, rfl⟩; exact ⟨j + 1, l1 + 1, by go_num, by omega, rfl, hr7, hr8, HB3, HG3⟩) | (refine ⟨_, _, _, _, _, _, ?_, rfl⟩; exact ⟨j + 1, l1 + 1, by go_num, by omega, rfl, hr7, hr8, HB3, HG3⟩) | (refine ⟨_, _, _, _, _, ?_, rfl⟩; exact ⟨j + 1, l1 + 1, by go_num, by omega, rfl, hr7, hr8, HB3, HG3⟩) | (refine ⟨_, _, _, _, ?_, rfl⟩; exact ⟨j + 1, l1 + 1, by go_num, by omega, rfl, hr7, hr8, HB3, HG3⟩))
        case measure => simp [intOf]; omega
      · obtain rfl : z = j := by omega
        have hm1 : Hid (l1 = 3 + z) := HL1
        clear hlt hj
        go_wp2_with fail
        go_loopw [0, 247] (fun vd vi wr => ∃ j l : Nat, vi = .int .i64 j ∧ j ≤ k ∧ vd = .slice (some ⟨E, 1, none⟩) l 64 ∧ l ≤ 60 ∧ Hid (l = l1 + j) ∧ Hid (BufAt wr E V ((([] ++ [45] ++ [48] ++ [46]) ++ List.replicate z (48 : UInt8)) ++ dl u n 0 j)) ∧ Hid (w.grownBy wr (some E))) (fun _ vi _ => k - (intOf vi).toNat)
        case atStart => exact ⟨0, l1, rfl, Nat.zero_le _, rfl, by have hhm1 := hm1.out; omega, Lib.hid rfl, Lib.hid (HB1.out.cast (by simp [dl])), HG1⟩
        case round =>
          obtain ⟨x2, hx2⟩ : ∃ x, x = wr := ⟨_, rfl⟩
          subst hx2
          obtain ⟨j, l2, rfl, hj, rfl, hl2, HL2, HB2, HG2⟩ := hrel
          by_cases hlt : j < k
          · have hlt9 := hlt
            have c1 := HG2.out.cell (HD.out j (by omega)) (by simp [hED])
            obtain ⟨b, hb⟩ : ∃ b, b = Lib.dg u (n - 1 - j) := ⟨_, rfl⟩
            have HS : Hid (dl u n 0 j ++ [b] = dl u n 0 (j + 1)) := Lib.hid (by rw [hb]; have h := dl_snoc u n 0 j; simpa using h)
            rw [← hb] at c1
            clear hb
            obtain ⟨c, hc⟩ : ∃ c : Int, c = (b.toNat : Int) := ⟨_, rfl⟩
            rw [← hc] at c1
            have HCc := Lib.hid hc
            clear hc
            go_wp2_with (at_builtin; refine append_byte _ rfl _ _ rfl E V ((([] ++ [45] ++ [48] ++ [46]) ++ List.replicate z (48 : UInt8)) ++ dl u n 0 j) b c HCc.out l2 (by have hhm1 := hm1.out; have h9 := HL2.out; simp [dl_len]; omega) rfl HB2.out rfl (by omega) ?_; intro w3 hb3 hg3; have HB3 := Lib.hid (hb3.cast (by rw [List.append_assoc, HS.out])); have HG3 := Lib.hid (HG2.out.trans hg3); clear hb3 hg3)
            go_roundw
            case rel =>
              have hhm1 := hm1.out; have hr9 := HL2.out
              have hr8 : Hid (l2 + 1 = l1 + (j + 1)) := Lib.hid (by omega)
              have hr7 : l2 + 1 ≤ 60 := by omega
              (first | exact ⟨j + 1, l2 + 1, by go_num, by omega, rfl, hr7, hr8, HB3, HG3⟩ | (refine ⟨_, _, _, _, _, _, _, _, _, _, _, ?_, rfl⟩; exact ⟨j + 1, l2 + 1, by go_num, by omega, rfl, hr7, hr8, HB3, HG3⟩) | (refine ⟨_, _, _, _, _, _, _, _, _, _, _, _, _, _, _, ?_, rfl⟩; exact ⟨j + 1, l2 + 1, by go_num, by omega, rfl, hr7, hr8, HB3, HG3⟩) | (refine ⟨_, _, _, _, _, _, _, _, _, _, _, _, ?_, rfl⟩; exact ⟨j + 1, l2 + 1, by go_num, by omega, rfl, hr7, hr8, HB3, HG3⟩) | (refine ⟨_, _, _, _, _, _, _, _, _, _, _, _, _, _, _, _, ?_, rfl⟩; exact ⟨j + 1, l2 + 1, by go_num, by omega, rfl, hr7, hr8, HB3, HG3⟩) | (refine ⟨_, _, _, _, _, _, _, _, _, _, _, _, _, ?_, rfl⟩; exact ⟨j + 1, l2 + 1, by go_num, by omega, rfl, hr7, hr8, HB3, HG3⟩) | (refine ⟨_, _, _, _, _, _, _, _, _, _, _, _, _, _, ?_, rfl⟩; exact ⟨j + 1, l2 + 1, by go_num, by omega, rfl, hr7, hr8, HB3, HG3⟩) | (refine ⟨_, _, _, _, _, _, _, _, _, _, _, _, _, _, _, _, _, ?_, rfl⟩; exact ⟨j + 1, l2 + 1, by go_num, by omega, rfl, hr7, hr8, HB3, HG3⟩) | (refine ⟨_, _, _, _, _, _, _, _, _, _, _, _, _, _, _, _, _, _, ?_, rfl⟩; exact ⟨j + 1, l2 + 1, by go_num, by omega, rfl, hr7, hr8, HB3, HG3⟩) | (refine ⟨_, _, _, _, _, _, _, _, _, _, ?_, rfl⟩; exact ⟨j + 1, l2 + 1, by go_num, by omega, rfl, hr7, hr8, HB3, HG3⟩) | (refine ⟨_, _, _, _, _, _, _, _, _, ?_, rfl⟩; exact ⟨j + 1, l2 + 1, by go_num, by omega, rfl, hr7, hr8, HB3, HG3⟩) | (refine ⟨_, _, _, _, _, _, _, _, ?_, rfl⟩; exact ⟨j + 1, l2 + 1, by go_num, by omega, rfl, hr7, hr8, HB3, HG3⟩) | (refine ⟨_, _, _, _, _, _, _, ?_, rfl⟩; exact ⟨j + 1, l2 + 1, by go_num, by omega, rfl, hr7, hr8, HB3, HG3⟩) | (refine ⟨_, _, _, _, _, _, ?_, rfl⟩; exact ⟨j + 1, l2 + 1, by go_num, by omega, rfl, hr7, hr8, HB3, HG3⟩) | (refine ⟨_, _, _, _, _, ?_, rfl⟩; exact ⟨j + 1, l2 + 1, by go_num, by omega, rfl, hr7, hr8, HB3, HG3⟩) | (refine ⟨_, _, _, _, ?_, rfl⟩; exact ⟨j + 1, l2 + 1, by go_num, by omega, rfl, hr7, hr8, HB3, HG3⟩))
            case measure => simp [intOf]; omega
          · obtain rfl : k = j := by omega
            have hm2 : Hid (l2 = l1 + k) := HL2
            clear hlt hj
            go_wp2_with fail
            go_loopw [0, 261] (fun vd vi wr => ∃ j l : Nat, vi = .int .i64 j ∧ j ≤ 0 ∧ vd = .slice (some ⟨E, 1, none⟩) l 64 ∧ l ≤ 60 ∧ Hid (l = l2 + j) ∧ Hid (BufAt wr E V (((([] ++ [45] ++ [48] ++ [46]) ++ List.replicate z (48 : UInt8)) ++ dl u n 0 k))) ∧ Hid (w.grownBy wr (some E))) (fun _ vi _ => 0 - (intOf vi).toNat)
            case atStart => exact ⟨0, l2, rfl, Nat.zero_le _, rfl, by have hhm1 := hm1.out; have hhm2 := hm2.out; omega, Lib.hid rfl, Lib.hid (HB2.out.cast (by simp [dl])), HG2⟩
            case round =>
              obtain ⟨x3, hx3⟩ : ∃ x, x = wr := ⟨_, rfl⟩
              subst hx3
              obtain ⟨j, l3, rfl, hj, rfl, hl3, HL3, HB3, HG3⟩ := hrel
              obtain rfl : j = 0 := by omega
              have HC3 : Hid (BufAt x3 E V ((([] ++ [45] ++ [48] ++ [46]) ++ List.replicate z (48 : UInt8)) ++ dl u n 0 k)) := HB3
              have hm3 : Hid (l3 = l2) := Lib.hid (by have := HL3.out; omega)
              have HLL : Hid (l3 = ((([] ++ [45] ++ [48] ++ [46]) ++ List.replicate z (48 : UInt8)) ++ dl u n 0 k).length) := Lib.hid (by have hhm1 := hm1.out; have hhm2 := hm2.out; have hhm3 := hm3.out; simp [dl_len]; omega)
              go_wp2_with fail
              go_ret
              exact ⟨(([] ++ [45] ++ [48] ++ [46]) ++ List.replicate z (48 : UInt8)) ++ dl u n 0 k, by rw [← HLL.out]; rfl, by simp [dl], HC3.out, HG3.out⟩

end Go.Proofs.YtkincdcknmdboaaDoor
