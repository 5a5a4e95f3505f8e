/- The walk of zzDecimal. -/
import Derived.Test.YthcjepmdejljiaaGreatDoorRows
import Derived.WalkKit
import Derived.ProofKit
import Derived.OpenShut
import Derived.WalkSpells
import Derived.WalkLawsBesides
import Derived.Outline
import Derived.Lib.Hide
import Derived.LoopTactic
import Derived.Test.YthcjepmdejljiaaGreatDoorCom
import Derived.Test.YthcjepmdejljiaaGreatDoorPN
import Derived.Test.YthcjepmdejljiaaGreatDoorDE
namespace Go.Proofs.YthcjepmdejljiaaGreatDoor
open Go.RowKit
set_option linter.unusedVariables false

theorem size_list (s : ByteArray) : s.size = s.data.toList.length := by cases s; simp [ByteArray.size]

theorem get_list (s : ByteArray) (k : Nat) (h : k < s.size) : (s[k]'h) = s.data.toList.getD k 0 := by
  have hk : k < s.data.toList.length := by rw [← size_list]; exact h
  rw [List.getD_eq_getElem?_getD, List.getElem?_eq_getElem hk]
  cases s
  rfl

/-- what zzDecimal says -/
def Said (s : ByteArray) (r : Ending) : Prop :=
  r = .returned (.tuple #[.int .i64 0, .bool false]) ∨ ∃ n : Int, r = .returned (.tuple #[.int .i64 n, .bool true]) ∧ Lib.parseIntB 64 s.data.toList = .ok n ∧ -9223372036854775808 ≤ n ∧ n ≤ 9223372036854775807

theorem decimal_any (s : ByteArray) (w : World) (hs : s.size ≤ 1048576) :
    Calls Tryz.prog 5 #[.string s] w fun r w' => Said s r ∧ w = w' := by
  obtain ⟨L0, hL0⟩ : ∃ L0, s.data.toList = L0 := ⟨_, rfl⟩
  have hz := size_list s
  rw [hL0] at hz
  cases L0 with
  | nil =>
    have h0 : s.size = 0 := hz
    go_enter Tryz.func5, Tryz.ntmps5
    go_wp2
    go_ret2
    exact ⟨Or.inl rfl, rfl⟩
  | cons c L =>
    have h0 : s.size = L.length + 1 := hz
    have g0 : ((s[0]'(by omega)).toNat : Int) = (c.toNat : Int) := by rw [get_list, hL0, List.getD_cons_zero]
    by_cases hc : c = 45
    · subst hc
      replace g0 : ((s[0]'(by omega)).toNat : Int) = 45 := g0
      have hL := hL0
      by_cases hl : L.length < 1 ∨ 18 < L.length
      · clear hL hL0
        go_enter Tryz.func5, Tryz.ntmps5
        go_wp2
        all_goals first | (go_ret2; exact ⟨Or.inl rfl, rfl⟩) | (exfalso; omega)
      have h18 : L.length ≤ 18 := by omega
      have HS := Lib.hid (dec_start L)
      go_enter Tryz.func5, Tryz.ntmps5
      go_wp2
      go_loop [5, 6] (fun vi vv => ∃ k v : Nat, vi = .int .i64 ((k + 1 : Nat) : Int) ∧ vv = .int .i64 (v : Int) ∧ k ≤ L.length ∧ v ≤ 2000000000000000000 ∧ Hid (DecInv L k v)) (fun vi _ => (s.size + 1) - (intOf vi).toNat)
      case atStart => exact ⟨0, 0, rfl, rfl, by omega, by omega, HS⟩
      case round =>
        obtain ⟨k, v, rfl, rfl, hk, hv, HI⟩ := hrel
        by_cases hlt : k < L.length
        · have hv2 := dec_bound HI.out h18 hlt
          obtain ⟨cv, hcv⟩ : ∃ cv : Int, cv = ((L.getD k 0).toNat : Int) := ⟨_, rfl⟩
          have c0 : 0 ≤ cv := by omega
          have c1 : cv ≤ 255 := by have := byte_lt (L.getD k 0); omega
          have gk : ((s[k + 1]'(by omega)).toNat : Int) = cv := by rw [get_list, hL, List.getD_cons_succ, hcv]
          have HC := Lib.hid hcv
          clear hcv
          by_cases hd : 48 ≤ cv ∧ cv ≤ 57
          · have HI2 := Lib.hid (dec_step HI.out hlt HC.out hd.1 hd.2)
            have e1 : ((v * 10 + (cv.toNat - 48) : Nat) : Int) = (v : Int) * 10 + (cv - 48) := by omega
            go_wp2
            go_round
            case rel => exact ⟨k + 1, v * 10 + (cv.toNat - 48), by first | rfl | (simp; done) | go_num, by rw [e1], by omega, by omega, HI2⟩
            case measure => simp [intOf]; omega
          · go_wp2
            all_goals first | (go_ret2; exact ⟨Or.inl rfl, rfl⟩) | (exfalso; omega)
        · obtain rfl : k = L.length := by omega
          obtain ⟨d1, d2⟩ := dec_end HI.out
          have HP := Lib.hid (show Lib.parseIntB 64 s.data.toList = .ok (-(v : Int)) by rw [hL, d1]; exact parse_neg L (by intro e; rw [e] at hl; simp at hl) d2 (by omega))
          have HN : -9223372036854775808 ≤ -(v : Int) ∧ -(v : Int) ≤ 9223372036854775807 := by omega
          clear d1 d2
          go_wp2
          go_ret2
          exact ⟨Or.inr ⟨_, rfl, HP.out, HN.1, HN.2⟩, rfl⟩
    · have hc2 : ((c.toNat : Int) == 45) = false := by
        refine beq_false_of_ne fun e => hc ?_
        have e' : c.toNat = 45 := by omega
        exact UInt8.toNat_inj.1 e'
      obtain ⟨c1, hc1⟩ : ∃ c1 : Int, c1 = (c.toNat : Int) := ⟨_, rfl⟩
      rw [← hc1] at g0 hc2
      clear hc1
      obtain ⟨L', hLe⟩ : ∃ L', L' = c :: L := ⟨_, rfl⟩
      have hL : s.data.toList = L' := by rw [hLe]; exact hL0
      have h0' : s.size = L'.length := by rw [hLe]; exact h0
      have hpos : 0 < s.size := by omega
      have g1 : ((s[0]'hpos).toNat : Int) = c1 := g0
      have hne : L' ≠ [] := by rw [hLe]; simp
      have hge : 1 ≤ L'.length := by omega
      clear hL0 g0 hLe h0 hz
      by_cases hl : 18 < L'.length
      · go_enter Tryz.func5, Tryz.ntmps5
        go_wp2
        all_goals first | (go_ret2; exact ⟨Or.inl rfl, rfl⟩) | (exfalso; omega)
      have h18 : L'.length ≤ 18 := by omega
      have HS := Lib.hid (dec_start L')
      go_enter Tryz.func5, Tryz.ntmps5
      go_wp2
      go_loop [5, 6] (fun vi vv => ∃ k v : Nat, vi = .int .i64 (k : Int) ∧ vv = .int .i64 (v : Int) ∧ k ≤ L'.length ∧ v ≤ 2000000000000000000 ∧ Hid (DecInv L' k v)) (fun vi _ => (s.size + 1) - (intOf vi).toNat)
      case atStart => exact ⟨0, 0, rfl, rfl, by omega, by omega, HS⟩
      case round =>
        obtain ⟨k, v, rfl, rfl, hk, hv, HI⟩ := hrel
        by_cases hlt : k < L'.length
        · have hv2 := dec_bound HI.out h18 hlt
          obtain ⟨cv, hcv⟩ : ∃ cv : Int, cv = ((L'.getD k 0).toNat : Int) := ⟨_, rfl⟩
          have c0 : 0 ≤ cv := by omega
          have c2 : cv ≤ 255 := by have := byte_lt (L'.getD k 0); omega
          have gk : ((s[k]'(by omega)).toNat : Int) = cv := by rw [get_list, hL, hcv]
          have HC := Lib.hid hcv
          clear hcv
          by_cases hd : 48 ≤ cv ∧ cv ≤ 57
          · have HI2 := Lib.hid (dec_step HI.out hlt HC.out hd.1 hd.2)
            have e1 : ((v * 10 + (cv.toNat - 48) : Nat) : Int) = (v : Int) * 10 + (cv - 48) := by omega
            go_wp2
            go_round
            case rel => exact ⟨k + 1, v * 10 + (cv.toNat - 48), by first | rfl | (simp; done) | go_num, by rw [e1], by omega, by omega, HI2⟩
            case measure => simp [intOf]; omega
          · go_wp2
            all_goals first | (go_ret2; exact ⟨Or.inl rfl, rfl⟩) | (exfalso; omega)
        · obtain rfl : k = L'.length := by omega
          obtain ⟨d1, d2⟩ := dec_end HI.out
          have HP := Lib.hid (show Lib.parseIntB 64 s.data.toList = .ok (v : Int) by rw [hL, d1]; exact parse_pos L' hne d2 (by omega))
          have HN : -9223372036854775808 ≤ (v : Int) ∧ (v : Int) ≤ 9223372036854775807 := by omega
          clear d1 d2
          go_wp2
          go_ret2
          exact ⟨Or.inr ⟨_, rfl, HP.out, HN.1, HN.2⟩, rfl⟩
end Go.Proofs.YthcjepmdejljiaaGreatDoor
