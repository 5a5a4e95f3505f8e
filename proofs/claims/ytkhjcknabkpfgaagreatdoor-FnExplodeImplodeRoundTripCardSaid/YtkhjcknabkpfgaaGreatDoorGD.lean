/- Decoding by classes of first bytes: plain Lean. -/
import Derived.Test.YtkhjcknabkpfgaaGreatDoorDC
namespace Go.Proofs.YtkhjcknabkpfgaaGreatDoor
open Go
set_option linter.unusedVariables false

theorem dec_one (s : ByteArray) (i c0 : Nat) (e0 : (s.get! i).toNat = c0) (a : c0 < 128) : Utf8.decode s i = (c0, 1) := by
  simp only [Utf8.decode, Nat.add_zero, e0]
  rw [if_pos a]

theorem dec_two (s : ByteArray) (i c0 c1 : Nat) (e0 : (s.get! i).toNat = c0) (e1 : (s.get! (i + 1)).toNat = c1) (h : i + 1 < s.size) (a : 192 ≤ c0) (b : c0 ≤ 223) (k0 : 128 ≤ c1) (k1 : c1 ≤ 191) :
    Utf8.decode s i = if c0 % 32 * 64 + c1 % 64 ≥ 128 then (c0 % 32 * 64 + c1 % 64, 2) else (65533, 1) := by
  simp only [Utf8.decode, Nat.add_zero, e0, e1]
  rw [if_neg (by omega), if_pos (by simp; omega)]
  rfl

theorem dec_three (s : ByteArray) (i c0 c1 c2 : Nat) (e0 : (s.get! i).toNat = c0) (e1 : (s.get! (i + 1)).toNat = c1) (e2 : (s.get! (i + 2)).toNat = c2) (h : i + 2 < s.size) (a : 224 ≤ c0) (b : c0 ≤ 239) (k0 : 128 ≤ c1) (k1 : c1 ≤ 191) (l0 : 128 ≤ c2) (l1 : c2 ≤ 191) :
    Utf8.decode s i = if (c0 % 16 * 4096 + c1 % 64 * 64 + c2 % 64 ≥ 2048 && Utf8.valid (c0 % 16 * 4096 + c1 % 64 * 64 + c2 % 64 : Nat)) = true then (c0 % 16 * 4096 + c1 % 64 * 64 + c2 % 64, 3) else (65533, 1) := by
  simp only [Utf8.decode, Nat.add_zero, e0, e1, e2]
  rw [if_neg (by omega), if_neg (by simp; omega), if_pos (by simp; omega)]
  rfl

theorem dec_four (s : ByteArray) (i c0 c1 c2 c3 : Nat) (e0 : (s.get! i).toNat = c0) (e1 : (s.get! (i + 1)).toNat = c1) (e2 : (s.get! (i + 2)).toNat = c2) (e3 : (s.get! (i + 3)).toNat = c3) (h : i + 3 < s.size) (a : 240 ≤ c0) (b : c0 ≤ 247) (k0 : 128 ≤ c1) (k1 : c1 ≤ 191) (l0 : 128 ≤ c2) (l1 : c2 ≤ 191) (m0 : 128 ≤ c3) (m1 : c3 ≤ 191) :
    Utf8.decode s i = if (c0 % 8 * 262144 + c1 % 64 * 4096 + c2 % 64 * 64 + c3 % 64 ≥ 65536 && Utf8.valid (c0 % 8 * 262144 + c1 % 64 * 4096 + c2 % 64 * 64 + c3 % 64 : Nat)) = true then (c0 % 8 * 262144 + c1 % 64 * 4096 + c2 % 64 * 64 + c3 % 64, 4) else (65533, 1) := by
  simp only [Utf8.decode, Nat.add_zero, e0, e1, e2, e3]
  rw [if_neg (by omega), if_neg (by simp; omega), if_neg (by simp; omega), if_pos (by simp; omega)]
  rfl

/-- need: how many further bytes the first byte wants -/
def need (c : Nat) : Nat := if 192 ≤ c ∧ c ≤ 223 then 1 else if 224 ≤ c ∧ c ≤ 239 then 2 else if 240 ≤ c ∧ c ≤ 247 then 3 else 0

/-- a first byte that wants none, or too few bytes, or a byte that does not go on -/
theorem dec_bad (s : ByteArray) (i c0 : Nat) (e0 : (s.get! i).toNat = c0) (a : 128 ≤ c0) (h : need c0 = 0 ∨ s.size ≤ i + need c0 ∨ ∃ k, 1 ≤ k ∧ k ≤ need c0 ∧ ((s.get! (i + k)).toNat < 128 ∨ 191 < (s.get! (i + k)).toNat)) :
    Utf8.decode s i = (65533, 1) := by
  have hb : ∀ k, (s.get! k).toNat < 256 := fun k => (s.get! k).toNat_lt
  have h0 := hb i; have h1 := hb (i + 1); have h2 := hb (i + 2); have h3 := hb (i + 3)
  have hk : (need c0 = 0 ∨ s.size ≤ i + need c0) ∨ (1 ≤ need c0 ∧ ((s.get! (i + 1)).toNat < 128 ∨ 191 < (s.get! (i + 1)).toNat)) ∨ (2 ≤ need c0 ∧ ((s.get! (i + 2)).toNat < 128 ∨ 191 < (s.get! (i + 2)).toNat)) ∨ (3 ≤ need c0 ∧ ((s.get! (i + 3)).toNat < 128 ∨ 191 < (s.get! (i + 3)).toNat)) := by
    have hn : need c0 ≤ 3 := by
      unfold need
      split
      · omega
      split
      · omega
      split <;> omega
    rcases h with h | h | ⟨k, k0, k1, h⟩
    · exact Or.inl (Or.inl h)
    · exact Or.inl (Or.inr h)
    · rcases (show k = 1 ∨ k = 2 ∨ k = 3 by omega) with rfl | rfl | rfl
      · exact Or.inr (Or.inl ⟨k1, h⟩)
      · exact Or.inr (Or.inr (Or.inl ⟨k1, h⟩))
      · exact Or.inr (Or.inr (Or.inr ⟨k1, h⟩))
  clear h hb
  rw [e0] at h0
  obtain ⟨c1, e1⟩ : ∃ c, (s.get! (i + 1)).toNat = c := ⟨_, rfl⟩
  obtain ⟨c2, e2⟩ : ∃ c, (s.get! (i + 2)).toNat = c := ⟨_, rfl⟩
  obtain ⟨c3, e3⟩ : ∃ c, (s.get! (i + 3)).toNat = c := ⟨_, rfl⟩
  rw [e1] at h1 hk; rw [e2] at h2 hk; rw [e3] at h3 hk
  simp only [Utf8.decode, Nat.add_zero, e0, e1, e2, e3]
  clear e0 e1 e2 e3
  obtain ⟨z, hz⟩ : ∃ z, z = s.size := ⟨_, rfl⟩
  rw [← hz] at hk ⊢
  clear hz
  rw [if_neg (by omega)]
  by_cases q1 : 192 ≤ c0 ∧ c0 ≤ 223
  · have hn : need c0 = 1 := by unfold need; rw [if_pos q1]
    rw [hn] at hk
    rw [if_neg (by simp; omega), if_neg (by simp; omega), if_neg (by simp; omega)]
    rfl
  by_cases q2 : 224 ≤ c0 ∧ c0 ≤ 239
  · have hn : need c0 = 2 := by unfold need; rw [if_neg q1, if_pos q2]
    rw [hn] at hk
    rw [if_neg (by simp; omega), if_neg (by simp; omega), if_neg (by simp; omega)]
    rfl
  by_cases q3 : 240 ≤ c0 ∧ c0 ≤ 247
  · have hn : need c0 = 3 := by unfold need; rw [if_neg q1, if_neg q2, if_pos q3]
    rw [hn] at hk
    rw [if_neg (by simp; omega), if_neg (by simp; omega), if_neg (by simp; omega)]
    rfl
  · rw [if_neg (by simp; omega), if_neg (by simp; omega), if_neg (by simp; omega)]
    rfl
end Go.Proofs.YtkhjcknabkpfgaaGreatDoor
