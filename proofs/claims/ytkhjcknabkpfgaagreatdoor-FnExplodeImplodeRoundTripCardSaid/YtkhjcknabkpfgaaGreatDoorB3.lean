/- The walk of b1Decode: with enough bytes; and at every place. -/
import Derived.Test.YtkhjcknabkpfgaaGreatDoorOR
import Derived.Test.YtkhjcknabkpfgaaGreatDoorGG
import Derived.LoopTactic
namespace Go.Proofs.YtkhjcknabkpfgaaGreatDoor
open Go.RowKit
set_option linter.unusedVariables false

/-- the bytes 1..k behind i all go on -/
def conts (s : ByteArray) (i k : Nat) : Prop := ∀ j, 1 ≤ j → j ≤ k → 128 ≤ (s.get! (i + j)).toNat ∧ (s.get! (i + j)).toNat ≤ 191
theorem conts_snoc {s : ByteArray} {i k c : Nat} (h : conts s i k) (e : (s.get! (i + (k + 1))).toNat = c) (a : 128 ≤ c) (b : c ≤ 191) : conts s i (k + 1) := by
  intro j j0 j1
  by_cases q : j = k + 1
  · subst q; omega
  · exact h j j0 (by omega)
theorem pv_lt (s : ByteArray) (i m : Nat) (h : m < 32) : ∀ k, k ≤ 3 → pv s i m k < 32 * 64 ^ k
  | 0, _ => by simpa [pv] using h
  | k + 1, hk => by
    have := pv_lt s i m h k (by omega)
    unfold pv
    rw [Nat.pow_succ]
    omega
theorem pv_small (s : ByteArray) (i m : Nat) (h : m < 32) (k : Nat) (hk : k ≤ 3) : pv s i m k < 8388608 := by
  have h1 := pv_lt s i m h k hk
  have h2 : 64 ^ k ≤ 64 ^ 3 := Nat.pow_le_pow_right (by decide) hk
  omega
/-- the last test of b1Decode -/
def okv (least v : Nat) : Bool := decide (least ≤ v) && decide (v ≤ 1114111) && !(decide (55296 ≤ v) && decide (v ≤ 57343))


theorem full1_dec (s : ByteArray) (i c0 : Nat) (e0 : (s.get! i).toNat = c0) (hi : i + 1 < s.size) (a : 192 ≤ c0) (b : c0 ≤ 223) (hc : conts s i 1) :
    Utf8.decode s i = if okv 128 (pv s i (c0 % 32) 1) = true then (pv s i (c0 % 32) 1, 2) else (65533, 1) := by
  have h1 := hc 1 (by omega) (by omega)
  rw [dec_two s i c0 _ e0 rfl (by omega) a b h1.1 h1.2]
  have e : pv s i (c0 % 32) 1 = c0 % 32 * 64 + (s.get! (i + 1)).toNat % 64 := by simp only [pv, Nat.reduceAdd]; try omega
  rw [e]
  obtain ⟨y, hy⟩ : ∃ y, y = c0 % 32 * 64 + (s.get! (i + 1)).toNat % 64 := ⟨_, rfl⟩
  have hy2 : y ≤ 2047 := by omega
  rw [← hy]
  clear hy e
  by_cases q : y ≥ 128
  · rw [if_pos q, if_pos (by simp [okv]; omega)]
  · rw [if_neg q, if_neg (by simp [okv]; omega)]

set_option maxRecDepth 100000 in
theorem b1_full1 (s : ByteArray) (i : Nat) (w : World) (hs : s.size ≤ 1048576) (hi : i + 1 < s.size) (a : 192 ≤ (s.get! i).toNat) (b : (s.get! i).toNat ≤ 223) :
    Calls Tryz.prog 7 #[.string s, .int .i64 i] w fun r w' => r = .returned (.tuple #[.int .i64 (Utf8.decode s i).1, .int .i64 (Utf8.decode s i).2, .bool (good s i)]) ∧ Below w.heap.size w w' := by
  have hn : need (s.get! i).toNat = 1 := by rcases need_cases (s.get! i).toNat with h | h | h | h <;> omega
  have HBAD : Hid (∀ k, 1 ≤ k → k ≤ 1 → ((s.get! (i + k)).toNat < 128 ∨ 191 < (s.get! (i + k)).toNat) → Utf8.decode s i = (65533, 1)) := Lib.hid (fun k k0 k1 h => dec_bad s i _ rfl (by omega) (Or.inr (Or.inr ⟨k, k0, by omega, h⟩)))
  have HFUL := Lib.hid (full1_dec s i _ rfl hi a b)
  have HGD : Hid (good s i = decide (Utf8.decode s i ≠ (65533, 1))) := Lib.hid rfl
  obtain ⟨D, hD⟩ : ∃ D, D = Utf8.decode s i := ⟨_, rfl⟩
  obtain ⟨gd, hgd⟩ : ∃ gd, gd = good s i := ⟨_, rfl⟩
  rw [← hD] at HBAD HFUL HGD
  rw [← hgd] at HGD
  rw [← hD, ← hgd]
  clear hD hgd hn
  obtain ⟨c0, e0⟩ : ∃ c, (s.get! i).toNat = c := ⟨_, rfl⟩
  rw [e0] at a b HFUL
  rw [get_bang s i (by omega)] at e0
  have g0 : ((s[i]'(by omega)).toNat : Int) = (c0 : Int) := by rw [e0]
  have hi2 : (i : Int) < (s.size : Int) := by omega
  have t : ¬ (c0 : Int) < 128 := by omega
  have hm := mask_low c0 32 31 (by omega) (by omega)
  have hz2 : decide ((s.size : Int) - (i : Int) < 2) = false := decide_eq_false (by omega)
  have t1 : decide ((c0 : Int) ≥ 192) = true := decide_eq_true (by omega)
  have u1 : decide ((c0 : Int) ≤ 223) = true := decide_eq_true (by omega)
  obtain ⟨m0, hm0⟩ : ∃ m0, m0 = c0 % 32 := ⟨_, rfl⟩
  have hm1 : m0 < 32 := by omega
  rw [← hm0] at hm HFUL
  have HPS := Lib.hid (pv_small s i m0 hm1)
  have HM : Hid (bits .and .i64 (c0 : Int) 31 = (m0 : Int)) := Lib.hid hm
  clear e0 hm0 hm
  go_enter Tryz.func7, Tryz.ntmps7
  go_wp2_with fail
  go_loopw [11, 12] (fun vv vk wr => ∃ k p : Nat, vk = .int .i64 (k + 1 : Nat) ∧ k ≤ 1 ∧ vv = .int .i64 (p : Nat) ∧ p < 8388608 ∧ Hid (p = pv s i m0 k) ∧ Hid (conts s i k) ∧ w = wr) (fun _ vk _ => 2 - (intOf vk).toNat)
  case atStart => exact ⟨0, m0, rfl, by omega, by rw [HM.out], by omega, Lib.hid rfl, Lib.hid (fun j j0 j1 => by omega), rfl⟩
  case round =>
    obtain ⟨k, p, rfl, hk, rfl, hp, HP, HC, rfl⟩ := hrel
    by_cases hlt : k < 1
    · have HBK := Lib.hid (HBAD.out (k + 1) (by omega) (by omega))
      obtain ⟨c, hc⟩ : ∃ c, (s.get! (i + (k + 1))).toNat = c := ⟨_, rfl⟩
      have hcb : c < 256 := by have := (s.get! (i + (k + 1))).toNat_lt; omega
      rw [hc] at HBK
      have HCN : Hid (128 ≤ c → c ≤ 191 → conts s i (k + 1)) := Lib.hid (fun x y => conts_snoc HC.out hc x y)
      have HPN : Hid (p * 64 + c % 64 = pv s i m0 (k + 1)) := Lib.hid (by rw [HP.out]; show _ = pv s i m0 k * 64 + (s.get! (i + (k + 1))).toNat % 64; rw [hc])
      have hps : p * 64 + c % 64 < 8388608 := by rw [HPN.out]; exact HPS.out (k + 1) (by omega)
      rw [get_bang s (i + (k + 1)) (by omega)] at hc
      have g1 : ((s[i + (k + 1)]'(by omega)).toNat : Int) = (c : Int) := by rw [hc]
      have hm : bits .and .i64 (c : Int) 63 = ((c % 64 : Nat) : Int) := mask_low c 64 63 (by omega) (by omega)
      have HQ : Hid (bits .or .i64 ((p : Int) * 64) (bits .and .i64 (c : Int) 63) = ((p * 64 + c % 64 : Nat) : Int)) := Lib.hid (by rw [hm, ← or_six p (c % 64) (by omega) (by omega), Int.natCast_mul]; rfl)
      clear hc hm
      by_cases q : c < 128 ∨ 191 < c
      · have HD := Lib.hid (HBK.out q)
        go_wp2_with fail
        all_goals first
        | (go_ret3
           have e := HGD.out
           rw [HD.out] at e
           exact ⟨by rw [HD.out, e]; rfl, Below.refl _ _⟩)
        | (exfalso; omega)
      · have HC2 := Lib.hid (HCN.out (by omega) (by omega))
        have t1 : ¬ (c : Int) < 128 := by omega
        have t2 : ¬ (191 : Int) < c := by omega
        clear q HBK HCN
        go_wp2_with fail
        go_roundw
        case rel => exact ⟨k + 1, p * 64 + c % 64, by go_num, by omega, by rw [HQ.out], hps, HPN, HC2, by trivial⟩
        case measure => simp [intOf]; omega
    · obtain rfl : k = 1 := by omega
      have HE := Lib.hid (HFUL.out HC.out)
      rw [← HP.out] at HE
      by_cases q : 128 ≤ p ∧ p ≤ 1114111 ∧ ¬ (55296 ≤ p ∧ p ≤ 57343)
      · have HD : Hid (D = (p, 2)) := Lib.hid (by rw [HE.out, if_pos (by simp [okv]; omega)])
        go_wp2_with fail
        all_goals first
        | (exfalso; omega)
        | (go_ret3
           have e := HGD.out
           rw [HD.out] at e
           exact ⟨by rw [HD.out, e]; simp, Below.refl _ _⟩)
      · have HD : Hid (D = (65533, 1)) := Lib.hid (by rw [HE.out, if_neg (by simp [okv]; omega)])
        go_wp2_with fail
        all_goals first
        | (exfalso; omega)
        | (go_ret3
           have e := HGD.out
           rw [HD.out] at e
           exact ⟨by rw [HD.out, e]; rfl, Below.refl _ _⟩)

theorem full2_dec (s : ByteArray) (i c0 : Nat) (e0 : (s.get! i).toNat = c0) (hi : i + 2 < s.size) (a : 224 ≤ c0) (b : c0 ≤ 239) (hc : conts s i 2) :
    Utf8.decode s i = if okv 2048 (pv s i (c0 % 16) 2) = true then (pv s i (c0 % 16) 2, 3) else (65533, 1) := by
  have h1 := hc 1 (by omega) (by omega)
  have h2 := hc 2 (by omega) (by omega)
  rw [dec_three s i c0 _ _ e0 rfl rfl (by omega) a b h1.1 h1.2 h2.1 h2.2]
  have e : pv s i (c0 % 16) 2 = c0 % 16 * 4096 + (s.get! (i + 1)).toNat % 64 * 64 + (s.get! (i + 2)).toNat % 64 := by simp only [pv, Nat.reduceAdd]; try omega
  rw [e]
  obtain ⟨y, hy⟩ : ∃ y, y = c0 % 16 * 4096 + (s.get! (i + 1)).toNat % 64 * 64 + (s.get! (i + 2)).toNat % 64 := ⟨_, rfl⟩
  have hy2 : y ≤ 65535 := by omega
  rw [← hy]
  clear hy e
  by_cases q : 2048 ≤ y ∧ y ≤ 1114111 ∧ ¬ (55296 ≤ y ∧ y ≤ 57343)
  · rw [if_pos (by simp [Utf8.valid]; omega), if_pos (by simp [okv]; omega)]
  · rw [if_neg (by simp [Utf8.valid]; omega), if_neg (by simp [okv]; omega)]

set_option maxRecDepth 100000 in
theorem b1_full2 (s : ByteArray) (i : Nat) (w : World) (hs : s.size ≤ 1048576) (hi : i + 2 < s.size) (a : 224 ≤ (s.get! i).toNat) (b : (s.get! i).toNat ≤ 239) :
    Calls Tryz.prog 7 #[.string s, .int .i64 i] w fun r w' => r = .returned (.tuple #[.int .i64 (Utf8.decode s i).1, .int .i64 (Utf8.decode s i).2, .bool (good s i)]) ∧ Below w.heap.size w w' := by
  have hn : need (s.get! i).toNat = 2 := by rcases need_cases (s.get! i).toNat with h | h | h | h <;> omega
  have HBAD : Hid (∀ k, 1 ≤ k → k ≤ 2 → ((s.get! (i + k)).toNat < 128 ∨ 191 < (s.get! (i + k)).toNat) → Utf8.decode s i = (65533, 1)) := Lib.hid (fun k k0 k1 h => dec_bad s i _ rfl (by omega) (Or.inr (Or.inr ⟨k, k0, by omega, h⟩)))
  have HFUL := Lib.hid (full2_dec s i _ rfl hi a b)
  have HGD : Hid (good s i = decide (Utf8.decode s i ≠ (65533, 1))) := Lib.hid rfl
  obtain ⟨D, hD⟩ : ∃ D, D = Utf8.decode s i := ⟨_, rfl⟩
  obtain ⟨gd, hgd⟩ : ∃ gd, gd = good s i := ⟨_, rfl⟩
  rw [← hD] at HBAD HFUL HGD
  rw [← hgd] at HGD
  rw [← hD, ← hgd]
  clear hD hgd hn
  obtain ⟨c0, e0⟩ : ∃ c, (s.get! i).toNat = c := ⟨_, rfl⟩
  rw [e0] at a b HFUL
  rw [get_bang s i (by omega)] at e0
  have g0 : ((s[i]'(by omega)).toNat : Int) = (c0 : Int) := by rw [e0]
  have hi2 : (i : Int) < (s.size : Int) := by omega
  have t : ¬ (c0 : Int) < 128 := by omega
  have hm := mask_low c0 16 15 (by omega) (by omega)
  have hz2 : decide ((s.size : Int) - (i : Int) < 3) = false := decide_eq_false (by omega)
  have t1 : decide ((c0 : Int) ≥ 192) = true := decide_eq_true (by omega)
  have u1 : decide ((c0 : Int) ≤ 223) = false := decide_eq_false (by omega)
  have t2 : decide ((c0 : Int) ≥ 224) = true := decide_eq_true (by omega)
  have u2 : decide ((c0 : Int) ≤ 239) = true := decide_eq_true (by omega)
  obtain ⟨m0, hm0⟩ : ∃ m0, m0 = c0 % 16 := ⟨_, rfl⟩
  have hm1 : m0 < 32 := by omega
  rw [← hm0] at hm HFUL
  have HPS := Lib.hid (pv_small s i m0 hm1)
  have HM : Hid (bits .and .i64 (c0 : Int) 15 = (m0 : Int)) := Lib.hid hm
  clear e0 hm0 hm
  go_enter Tryz.func7, Tryz.ntmps7
  go_wp2_with fail
  go_loopw [11, 12] (fun vv vk wr => ∃ k p : Nat, vk = .int .i64 (k + 1 : Nat) ∧ k ≤ 2 ∧ vv = .int .i64 (p : Nat) ∧ p < 8388608 ∧ Hid (p = pv s i m0 k) ∧ Hid (conts s i k) ∧ w = wr) (fun _ vk _ => 3 - (intOf vk).toNat)
  case atStart => exact ⟨0, m0, rfl, by omega, by rw [HM.out], by omega, Lib.hid rfl, Lib.hid (fun j j0 j1 => by omega), rfl⟩
  case round =>
    obtain ⟨k, p, rfl, hk, rfl, hp, HP, HC, rfl⟩ := hrel
    by_cases hlt : k < 2
    · have HBK := Lib.hid (HBAD.out (k + 1) (by omega) (by omega))
      obtain ⟨c, hc⟩ : ∃ c, (s.get! (i + (k + 1))).toNat = c := ⟨_, rfl⟩
      have hcb : c < 256 := by have := (s.get! (i + (k + 1))).toNat_lt; omega
      rw [hc] at HBK
      have HCN : Hid (128 ≤ c → c ≤ 191 → conts s i (k + 1)) := Lib.hid (fun x y => conts_snoc HC.out hc x y)
      have HPN : Hid (p * 64 + c % 64 = pv s i m0 (k + 1)) := Lib.hid (by rw [HP.out]; show _ = pv s i m0 k * 64 + (s.get! (i + (k + 1))).toNat % 64; rw [hc])
      have hps : p * 64 + c % 64 < 8388608 := by rw [HPN.out]; exact HPS.out (k + 1) (by omega)
      rw [get_bang s (i + (k + 1)) (by omega)] at hc
      have g1 : ((s[i + (k + 1)]'(by omega)).toNat : Int) = (c : Int) := by rw [hc]
      have hm : bits .and .i64 (c : Int) 63 = ((c % 64 : Nat) : Int) := mask_low c 64 63 (by omega) (by omega)
      have HQ : Hid (bits .or .i64 ((p : Int) * 64) (bits .and .i64 (c : Int) 63) = ((p * 64 + c % 64 : Nat) : Int)) := Lib.hid (by rw [hm, ← or_six p (c % 64) (by omega) (by omega), Int.natCast_mul]; rfl)
      clear hc hm
      by_cases q : c < 128 ∨ 191 < c
      · have HD := Lib.hid (HBK.out q)
        go_wp2_with fail
        all_goals first
        | (go_ret3
           have e := HGD.out
           rw [HD.out] at e
           exact ⟨by rw [HD.out, e]; rfl, Below.refl _ _⟩)
        | (exfalso; omega)
      · have HC2 := Lib.hid (HCN.out (by omega) (by omega))
        have t1 : ¬ (c : Int) < 128 := by omega
        have t2 : ¬ (191 : Int) < c := by omega
        clear q HBK HCN
        go_wp2_with fail
        go_roundw
        case rel => exact ⟨k + 1, p * 64 + c % 64, by go_num, by omega, by rw [HQ.out], hps, HPN, HC2, by trivial⟩
        case measure => simp [intOf]; omega
    · obtain rfl : k = 2 := by omega
      have HE := Lib.hid (HFUL.out HC.out)
      rw [← HP.out] at HE
      by_cases q : 2048 ≤ p ∧ p ≤ 1114111 ∧ ¬ (55296 ≤ p ∧ p ≤ 57343)
      · have HD : Hid (D = (p, 3)) := Lib.hid (by rw [HE.out, if_pos (by simp [okv]; omega)])
        go_wp2_with fail
        all_goals first
        | (exfalso; omega)
        | (go_ret3
           have e := HGD.out
           rw [HD.out] at e
           exact ⟨by rw [HD.out, e]; simp, Below.refl _ _⟩)
      · have HD : Hid (D = (65533, 1)) := Lib.hid (by rw [HE.out, if_neg (by simp [okv]; omega)])
        go_wp2_with fail
        all_goals first
        | (exfalso; omega)
        | (go_ret3
           have e := HGD.out
           rw [HD.out] at e
           exact ⟨by rw [HD.out, e]; rfl, Below.refl _ _⟩)

theorem full3_dec (s : ByteArray) (i c0 : Nat) (e0 : (s.get! i).toNat = c0) (hi : i + 3 < s.size) (a : 240 ≤ c0) (b : c0 ≤ 247) (hc : conts s i 3) :
    Utf8.decode s i = if okv 65536 (pv s i (c0 % 8) 3) = true then (pv s i (c0 % 8) 3, 4) else (65533, 1) := by
  have h1 := hc 1 (by omega) (by omega)
  have h2 := hc 2 (by omega) (by omega)
  have h3 := hc 3 (by omega) (by omega)
  rw [dec_four s i c0 _ _ _ e0 rfl rfl rfl (by omega) a b h1.1 h1.2 h2.1 h2.2 h3.1 h3.2]
  have e : pv s i (c0 % 8) 3 = c0 % 8 * 262144 + (s.get! (i + 1)).toNat % 64 * 4096 + (s.get! (i + 2)).toNat % 64 * 64 + (s.get! (i + 3)).toNat % 64 := by simp only [pv, Nat.reduceAdd]; try omega
  rw [e]
  obtain ⟨y, hy⟩ : ∃ y, y = c0 % 8 * 262144 + (s.get! (i + 1)).toNat % 64 * 4096 + (s.get! (i + 2)).toNat % 64 * 64 + (s.get! (i + 3)).toNat % 64 := ⟨_, rfl⟩
  have hy2 : y ≤ 2097151 := by omega
  rw [← hy]
  clear hy e
  by_cases q : 65536 ≤ y ∧ y ≤ 1114111 ∧ ¬ (55296 ≤ y ∧ y ≤ 57343)
  · rw [if_pos (by simp [Utf8.valid]; omega), if_pos (by simp [okv]; omega)]
  · rw [if_neg (by simp [Utf8.valid]; omega), if_neg (by simp [okv]; omega)]

set_option maxRecDepth 100000 in
theorem b1_full3 (s : ByteArray) (i : Nat) (w : World) (hs : s.size ≤ 1048576) (hi : i + 3 < s.size) (a : 240 ≤ (s.get! i).toNat) (b : (s.get! i).toNat ≤ 247) :
    Calls Tryz.prog 7 #[.string s, .int .i64 i] w fun r w' => r = .returned (.tuple #[.int .i64 (Utf8.decode s i).1, .int .i64 (Utf8.decode s i).2, .bool (good s i)]) ∧ Below w.heap.size w w' := by
  have hn : need (s.get! i).toNat = 3 := by rcases need_cases (s.get! i).toNat with h | h | h | h <;> omega
  have HBAD : Hid (∀ k, 1 ≤ k → k ≤ 3 → ((s.get! (i + k)).toNat < 128 ∨ 191 < (s.get! (i + k)).toNat) → Utf8.decode s i = (65533, 1)) := Lib.hid (fun k k0 k1 h => dec_bad s i _ rfl (by omega) (Or.inr (Or.inr ⟨k, k0, by omega, h⟩)))
  have HFUL := Lib.hid (full3_dec s i _ rfl hi a b)
  have HGD : Hid (good s i = decide (Utf8.decode s i ≠ (65533, 1))) := Lib.hid rfl
  obtain ⟨D, hD⟩ : ∃ D, D = Utf8.decode s i := ⟨_, rfl⟩
  obtain ⟨gd, hgd⟩ : ∃ gd, gd = good s i := ⟨_, rfl⟩
  rw [← hD] at HBAD HFUL HGD
  rw [← hgd] at HGD
  rw [← hD, ← hgd]
  clear hD hgd hn
  obtain ⟨c0, e0⟩ : ∃ c, (s.get! i).toNat = c := ⟨_, rfl⟩
  rw [e0] at a b HFUL
  rw [get_bang s i (by omega)] at e0
  have g0 : ((s[i]'(by omega)).toNat : Int) = (c0 : Int) := by rw [e0]
  have hi2 : (i : Int) < (s.size : Int) := by omega
  have t : ¬ (c0 : Int) < 128 := by omega
  have hm := mask_low c0 8 7 (by omega) (by omega)
  have hz2 : decide ((s.size : Int) - (i : Int) < 4) = false := decide_eq_false (by omega)
  have t1 : decide ((c0 : Int) ≥ 192) = true := decide_eq_true (by omega)
  have u1 : decide ((c0 : Int) ≤ 223) = false := decide_eq_false (by omega)
  have t2 : decide ((c0 : Int) ≥ 224) = true := decide_eq_true (by omega)
  have u2 : decide ((c0 : Int) ≤ 239) = false := decide_eq_false (by omega)
  have t3 : decide ((c0 : Int) ≥ 240) = true := decide_eq_true (by omega)
  have u3 : decide ((c0 : Int) ≤ 247) = true := decide_eq_true (by omega)
  obtain ⟨m0, hm0⟩ : ∃ m0, m0 = c0 % 8 := ⟨_, rfl⟩
  have hm1 : m0 < 32 := by omega
  rw [← hm0] at hm HFUL
  have HPS := Lib.hid (pv_small s i m0 hm1)
  have HM : Hid (bits .and .i64 (c0 : Int) 7 = (m0 : Int)) := Lib.hid hm
  clear e0 hm0 hm
  go_enter Tryz.func7, Tryz.ntmps7
  go_wp2_with fail
  go_loopw [11, 12] (fun vv vk wr => ∃ k p : Nat, vk = .int .i64 (k + 1 : Nat) ∧ k ≤ 3 ∧ vv = .int .i64 (p : Nat) ∧ p < 8388608 ∧ Hid (p = pv s i m0 k) ∧ Hid (conts s i k) ∧ w = wr) (fun _ vk _ => 4 - (intOf vk).toNat)
  case atStart => exact ⟨0, m0, rfl, by omega, by rw [HM.out], by omega, Lib.hid rfl, Lib.hid (fun j j0 j1 => by omega), rfl⟩
  case round =>
    obtain ⟨k, p, rfl, hk, rfl, hp, HP, HC, rfl⟩ := hrel
    by_cases hlt : k < 3
    · have HBK := Lib.hid (HBAD.out (k + 1) (by omega) (by omega))
      obtain ⟨c, hc⟩ : ∃ c, (s.get! (i + (k + 1))).toNat = c := ⟨_, rfl⟩
      have hcb : c < 256 := by have := (s.get! (i + (k + 1))).toNat_lt; omega
      rw [hc] at HBK
      have HCN : Hid (128 ≤ c → c ≤ 191 → conts s i (k + 1)) := Lib.hid (fun x y => conts_snoc HC.out hc x y)
      have HPN : Hid (p * 64 + c % 64 = pv s i m0 (k + 1)) := Lib.hid (by rw [HP.out]; show _ = pv s i m0 k * 64 + (s.get! (i + (k + 1))).toNat % 64; rw [hc])
      have hps : p * 64 + c % 64 < 8388608 := by rw [HPN.out]; exact HPS.out (k + 1) (by omega)
      rw [get_bang s (i + (k + 1)) (by omega)] at hc
      have g1 : ((s[i + (k + 1)]'(by omega)).toNat : Int) = (c : Int) := by rw [hc]
      have hm : bits .and .i64 (c : Int) 63 = ((c % 64 : Nat) : Int) := mask_low c 64 63 (by omega) (by omega)
      have HQ : Hid (bits .or .i64 ((p : Int) * 64) (bits .and .i64 (c : Int) 63) = ((p * 64 + c % 64 : Nat) : Int)) := Lib.hid (by rw [hm, ← or_six p (c % 64) (by omega) (by omega), Int.natCast_mul]; rfl)
      clear hc hm
      by_cases q : c < 128 ∨ 191 < c
      · have HD := Lib.hid (HBK.out q)
        go_wp2_with fail
        all_goals first
        | (go_ret3
           have e := HGD.out
           rw [HD.out] at e
           exact ⟨by rw [HD.out, e]; rfl, Below.refl _ _⟩)
        | (exfalso; omega)
      · have HC2 := Lib.hid (HCN.out (by omega) (by omega))
        have t1 : ¬ (c : Int) < 128 := by omega
        have t2 : ¬ (191 : Int) < c := by omega
        clear q HBK HCN
        go_wp2_with fail
        go_roundw
        case rel => exact ⟨k + 1, p * 64 + c % 64, by go_num, by omega, by rw [HQ.out], hps, HPN, HC2, by trivial⟩
        case measure => simp [intOf]; omega
    · obtain rfl : k = 3 := by omega
      have HE := Lib.hid (HFUL.out HC.out)
      rw [← HP.out] at HE
      by_cases q : 65536 ≤ p ∧ p ≤ 1114111 ∧ ¬ (55296 ≤ p ∧ p ≤ 57343)
      · have HD : Hid (D = (p, 4)) := Lib.hid (by rw [HE.out, if_pos (by simp [okv]; omega)])
        go_wp2_with fail
        all_goals first
        | (exfalso; omega)
        | (go_ret3
           have e := HGD.out
           rw [HD.out] at e
           exact ⟨by rw [HD.out, e]; simp, Below.refl _ _⟩)
      · have HD : Hid (D = (65533, 1)) := Lib.hid (by rw [HE.out, if_neg (by simp [okv]; omega)])
        go_wp2_with fail
        all_goals first
        | (exfalso; omega)
        | (go_ret3
           have e := HGD.out
           rw [HD.out] at e
           exact ⟨by rw [HD.out, e]; rfl, Below.refl _ _⟩)

theorem b1_any (s : ByteArray) (i : Nat) (w : World) (hs : s.size ≤ 1048576) (hi : i < s.size) :
    Calls Tryz.prog 7 #[.string s, .int .i64 i] w fun r w' => r = .returned (.tuple #[.int .i64 (Utf8.decode s i).1, .int .i64 (Utf8.decode s i).2, .bool (good s i)]) ∧ Below w.heap.size w w' := by
  by_cases a : (s.get! i).toNat < 128
  · have e : good s i = true := by
      unfold good
      rw [dec_one s i _ rfl a, decide_eq_true_eq]
      intro h
      simp only [Prod.mk.injEq] at h
      omega
    rw [e]
    exact b1_one s i w hs hi a
  have fls : ∀ (h : need (s.get! i).toNat = 0 ∨ s.size ≤ i + need (s.get! i).toNat), good s i = false := by
    intro h
    unfold good
    rw [dec_bad s i _ rfl (by omega) (by rcases h with h | h; exact Or.inl h; exact Or.inr (Or.inl h))]
    rfl
  rcases need_cases (s.get! i).toNat with ⟨hn, l0, l1⟩ | ⟨hn, l0, l1⟩ | ⟨hn, l0, l1⟩ | ⟨hn, h⟩
  · by_cases q : s.size ≤ i + 1
    · rw [fls (Or.inr (by omega))]
      exact b1_short1 s i w hs hi l0 l1 q
    · exact b1_full1 s i w hs (by omega) l0 l1
  · by_cases q : s.size ≤ i + 2
    · rw [fls (Or.inr (by omega))]
      exact b1_short2 s i w hs hi l0 l1 q
    · exact b1_full2 s i w hs (by omega) l0 l1
  · by_cases q : s.size ≤ i + 3
    · rw [fls (Or.inr (by omega))]
      exact b1_short3 s i w hs hi l0 l1 q
    · exact b1_full3 s i w hs (by omega) l0 l1
  · rw [fls (Or.inl hn)]
    exact b1_none s i w hs hi (by omega) hn
end Go.Proofs.YtkhjcknabkpfgaaGreatDoor
