/- The walk of b1Decode: too few bytes. -/
import Derived.Test.YtkhjcknabkpfgaaGreatDoorB1
namespace Go.Proofs.YtkhjcknabkpfgaaGreatDoor
open Go.RowKit
set_option linter.unusedVariables false

theorem need_cases (c : Nat) : (need c = 1 ∧ 192 ≤ c ∧ c ≤ 223) ∨ (need c = 2 ∧ 224 ≤ c ∧ c ≤ 239) ∨ (need c = 3 ∧ 240 ≤ c ∧ c ≤ 247) ∨ (need c = 0 ∧ (c < 192 ∨ 247 < c)) := by
  unfold need
  split
  · omega
  split
  · omega
  split <;> omega

theorem mask_low (c k : Nat) (K : Nat) (h : c < 256) (hk : (K = 31 ∧ k = 32) ∨ (K = 15 ∧ k = 16) ∨ (K = 7 ∧ k = 8) ∨ (K = 63 ∧ k = 64)) : bits .and .i64 (c : Int) (K : Int) = ((c % k : Nat) : Int) := by
  have hd : ∀ c : Nat, c < 256 → bits .and .i64 (c : Int) 31 = ((c % 32 : Nat) : Int) ∧ bits .and .i64 (c : Int) 15 = ((c % 16 : Nat) : Int) ∧ bits .and .i64 (c : Int) 7 = ((c % 8 : Nat) : Int) ∧ bits .and .i64 (c : Int) 63 = ((c % 64 : Nat) : Int) := by decide +kernel
  obtain ⟨a, b, d, e⟩ := hd c h
  rcases hk with ⟨rfl, rfl⟩ | ⟨rfl, rfl⟩ | ⟨rfl, rfl⟩ | ⟨rfl, rfl⟩
  · exact a
  · exact b
  · exact d
  · exact e

set_option maxRecDepth 100000 in
theorem b1_short1 (s : ByteArray) (i : Nat) (w : World) (hs : s.size ≤ 1048576) (hi : i < s.size) (a : 192 ≤ (s.get! i).toNat) (b : (s.get! i).toNat ≤ 223) (hz : s.size ≤ i + 1) :
    Calls Tryz.prog 7 #[.string s, .int .i64 i] w fun r w' => r = .returned (.tuple #[.int .i64 (Utf8.decode s i).1, .int .i64 (Utf8.decode s i).2, .bool false]) ∧ Below w.heap.size w w' := by
  have hn : need (s.get! i).toNat = 1 := by rcases need_cases (s.get! i).toNat with h | h | h | h <;> omega
  rw [dec_bad s i _ rfl (by omega) (Or.inr (Or.inl (by rw [hn]; exact hz)))]
  obtain ⟨c0, e0⟩ : ∃ c, (s.get! i).toNat = c := ⟨_, rfl⟩
  rw [e0] at a b
  rw [get_bang s i hi] at e0
  have g0 : ((s[i]'hi).toNat : Int) = (c0 : Int) := by rw [e0]
  have hi2 : (i : Int) < (s.size : Int) := by omega
  have t : ¬ (c0 : Int) < 128 := by omega
  have hm := mask_low c0 32 31 (by omega) (by omega)
  have hz2 : decide ((s.size : Int) - (i : Int) < 2) = true := decide_eq_true (by omega)
  clear e0 hn
  have t1 : decide ((c0 : Int) ≥ 192) = true := decide_eq_true (by omega)
  have u1 : decide ((c0 : Int) ≤ 223) = true := decide_eq_true (by omega)
  go_enter Tryz.func7, Tryz.ntmps7
  go_wp2_with fail
  go_ret3
  exact ⟨rfl, Below.refl _ _⟩

set_option maxRecDepth 100000 in
theorem b1_short2 (s : ByteArray) (i : Nat) (w : World) (hs : s.size ≤ 1048576) (hi : i < s.size) (a : 224 ≤ (s.get! i).toNat) (b : (s.get! i).toNat ≤ 239) (hz : s.size ≤ i + 2) :
    Calls Tryz.prog 7 #[.string s, .int .i64 i] w fun r w' => r = .returned (.tuple #[.int .i64 (Utf8.decode s i).1, .int .i64 (Utf8.decode s i).2, .bool false]) ∧ Below w.heap.size w w' := by
  have hn : need (s.get! i).toNat = 2 := by rcases need_cases (s.get! i).toNat with h | h | h | h <;> omega
  rw [dec_bad s i _ rfl (by omega) (Or.inr (Or.inl (by rw [hn]; exact hz)))]
  obtain ⟨c0, e0⟩ : ∃ c, (s.get! i).toNat = c := ⟨_, rfl⟩
  rw [e0] at a b
  rw [get_bang s i hi] at e0
  have g0 : ((s[i]'hi).toNat : Int) = (c0 : Int) := by rw [e0]
  have hi2 : (i : Int) < (s.size : Int) := by omega
  have t : ¬ (c0 : Int) < 128 := by omega
  have hm := mask_low c0 16 15 (by omega) (by omega)
  have hz2 : decide ((s.size : Int) - (i : Int) < 3) = true := decide_eq_true (by omega)
  clear e0 hn
  have t1 : decide ((c0 : Int) ≥ 192) = true := decide_eq_true (by omega)
  have u1 : decide ((c0 : Int) ≤ 223) = false := decide_eq_false (by omega)
  have t2 : decide ((c0 : Int) ≥ 224) = true := decide_eq_true (by omega)
  have u2 : decide ((c0 : Int) ≤ 239) = true := decide_eq_true (by omega)
  go_enter Tryz.func7, Tryz.ntmps7
  go_wp2_with fail
  go_ret3
  exact ⟨rfl, Below.refl _ _⟩

set_option maxRecDepth 100000 in
theorem b1_short3 (s : ByteArray) (i : Nat) (w : World) (hs : s.size ≤ 1048576) (hi : i < s.size) (a : 240 ≤ (s.get! i).toNat) (b : (s.get! i).toNat ≤ 247) (hz : s.size ≤ i + 3) :
    Calls Tryz.prog 7 #[.string s, .int .i64 i] w fun r w' => r = .returned (.tuple #[.int .i64 (Utf8.decode s i).1, .int .i64 (Utf8.decode s i).2, .bool false]) ∧ Below w.heap.size w w' := by
  have hn : need (s.get! i).toNat = 3 := by rcases need_cases (s.get! i).toNat with h | h | h | h <;> omega
  rw [dec_bad s i _ rfl (by omega) (Or.inr (Or.inl (by rw [hn]; exact hz)))]
  obtain ⟨c0, e0⟩ : ∃ c, (s.get! i).toNat = c := ⟨_, rfl⟩
  rw [e0] at a b
  rw [get_bang s i hi] at e0
  have g0 : ((s[i]'hi).toNat : Int) = (c0 : Int) := by rw [e0]
  have hi2 : (i : Int) < (s.size : Int) := by omega
  have t : ¬ (c0 : Int) < 128 := by omega
  have hm := mask_low c0 8 7 (by omega) (by omega)
  have hz2 : decide ((s.size : Int) - (i : Int) < 4) = true := decide_eq_true (by omega)
  clear e0 hn
  have t1 : decide ((c0 : Int) ≥ 192) = true := decide_eq_true (by omega)
  have u1 : decide ((c0 : Int) ≤ 223) = false := decide_eq_false (by omega)
  have t2 : decide ((c0 : Int) ≥ 224) = true := decide_eq_true (by omega)
  have u2 : decide ((c0 : Int) ≤ 239) = false := decide_eq_false (by omega)
  have t3 : decide ((c0 : Int) ≥ 240) = true := decide_eq_true (by omega)
  have u3 : decide ((c0 : Int) ≤ 247) = true := decide_eq_true (by omega)
  go_enter Tryz.func7, Tryz.ntmps7
  go_wp2_with fail
  go_ret3
  exact ⟨rfl, Below.refl _ _⟩
end Go.Proofs.YtkhjcknabkpfgaaGreatDoor
