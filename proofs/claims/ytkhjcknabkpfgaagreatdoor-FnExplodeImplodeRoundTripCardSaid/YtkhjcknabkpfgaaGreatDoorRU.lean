/- Where a string's code points begin, as Go's decoder steps: plain Lean. -/
import Derived.Laws.RangeAny
import Derived.Laws.IdiomStrings
import Derived.Lib.Hide
namespace Go.Proofs.YtkhjcknabkpfgaaGreatDoor
open Go
set_option linter.unusedVariables false

theorem width_pos (s : ByteArray) (pos : Nat) (h : pos < s.size) : 1 ≤ (Utf8.decode s pos).2 := by
  by_cases ha : (s[pos]'h).toNat < 128
  · rw [decode_ascii s pos h ha]
    exact Nat.le_refl _
  · exact (decode_high s pos h (by omega)).2

theorem width_le (s : ByteArray) (pos : Nat) (h : pos < s.size) : pos + (Utf8.decode s pos).2 ≤ s.size := by
  simp only [Utf8.decode]
  repeat' split
  all_goals simp_all
  all_goals omega

/-- where the k-th code point begins -/
def runeAt (s : ByteArray) : Nat → Nat
  | 0 => 0
  | k + 1 => if runeAt s k < s.size then runeAt s k + (Utf8.decode s (runeAt s k)).2 else runeAt s k

theorem runeAt_le (s : ByteArray) : ∀ k, runeAt s k ≤ s.size
  | 0 => Nat.zero_le _
  | k + 1 => by
    unfold runeAt
    split
    · exact width_le s _ (by assumption)
    · exact runeAt_le s k
theorem runeAt_mono (s : ByteArray) (k : Nat) : runeAt s k ≤ runeAt s (k + 1) := by
  show _ ≤ (if runeAt s k < s.size then runeAt s k + (Utf8.decode s (runeAt s k)).2 else runeAt s k)
  split <;> omega
theorem runeAt_step (s : ByteArray) (k : Nat) (h : runeAt s k < s.size) : runeAt s (k + 1) = runeAt s k + (Utf8.decode s (runeAt s k)).2 := by
  show (if runeAt s k < s.size then runeAt s k + (Utf8.decode s (runeAt s k)).2 else runeAt s k) = _
  rw [if_pos h]
theorem runeAt_mono_le (s : ByteArray) (a : Nat) : ∀ d, runeAt s a ≤ runeAt s (a + d)
  | 0 => Nat.le_refl _
  | d + 1 => Nat.le_trans (runeAt_mono_le s a d) (runeAt_mono s (a + d))

/-- how many code points -/
def runeLen (s : ByteArray) : Nat := (Conv.runesFrom s s.size 0 #[]).size

theorem runes_size (s : ByteArray) : ∀ (bound k : Nat) (acc : Array Value), s.size ≤ runeAt s k + bound →
    ∃ m, (Conv.runesFrom s bound (runeAt s k) acc).size = acc.size + m ∧ m ≤ bound ∧ runeAt s (k + m) = s.size ∧ ∀ j, j < m → runeAt s (k + j) < s.size
  | 0, k, acc, h => ⟨0, rfl, Nat.le_refl _, by have := runeAt_le s k; show runeAt s k = _; omega, fun j hj => absurd hj (by omega)⟩
  | bound + 1, k, acc, h => by
    unfold Conv.runesFrom
    by_cases hp : runeAt s k < s.size
    · rw [if_pos hp]
      have hw := width_pos s _ hp
      have hs := runeAt_step s k hp
      obtain ⟨m, h1, h2, h3, h4⟩ := runes_size s bound (k + 1) (acc.push (.int .i32 (Int.ofNat (Utf8.decode s (runeAt s k)).1))) (by omega)
      refine ⟨m + 1, ?_, by omega, ?_, ?_⟩
      · simp only []
        rw [← hs, h1]
        simp
        omega
      · rw [← h3]; congr 1; omega
      · intro j hj
        cases j with
        | zero => exact hp
        | succ j => have := h4 j (by omega); rwa [show k + (j + 1) = k + 1 + j by omega]
    · rw [if_neg hp]
      exact ⟨0, rfl, Nat.zero_le _, by have := runeAt_le s k; show runeAt s k = _; omega, fun j hj => absurd hj (by omega)⟩

theorem runeLen_spec (s : ByteArray) : runeLen s ≤ s.size ∧ runeAt s (runeLen s) = s.size ∧ ∀ j, j < runeLen s → runeAt s j < s.size := by
  obtain ⟨m, h1, h2, h3, h4⟩ := runes_size s s.size 0 #[] (by show s.size ≤ runeAt s 0 + s.size; omega)
  have e : runeLen s = m := by
    unfold runeLen
    have : runeAt s 0 = 0 := rfl
    rw [this] at h1
    rw [h1]
    simp
  rw [e]
  refine ⟨h2, by rw [← h3]; congr 1; omega, fun j hj => by have := h4 j hj; rwa [Nat.zero_add] at this⟩
end Go.Proofs.YtkhjcknabkpfgaaGreatDoor
