/- Decoding and encoding again: plain Lean. -/
import Derived.Test.YtkhjcknabkpfgaaGreatDoorGD
import Derived.Test.YtkhjcknabkpfgaaGreatDoorB2
namespace Go.Proofs.YtkhjcknabkpfgaaGreatDoor
open Go
set_option linter.unusedVariables false

/-- what decode can give -/
theorem dec_all (s : ByteArray) (i : Nat) (hi : i < s.size) :
    (∃ c0, (s.get! i).toNat = c0 ∧ c0 < 128 ∧ Utf8.decode s i = (c0, 1)) ∨ Utf8.decode s i = (65533, 1) ∨
    (∃ c0 c1, (s.get! i).toNat = c0 ∧ (s.get! (i + 1)).toNat = c1 ∧ i + 1 < s.size ∧ 192 ≤ c0 ∧ c0 ≤ 223 ∧ 128 ≤ c1 ∧ c1 ≤ 191 ∧ 128 ≤ c0 % 32 * 64 + c1 % 64 ∧ Utf8.decode s i = (c0 % 32 * 64 + c1 % 64, 2)) ∨
    (∃ c0 c1 c2, (s.get! i).toNat = c0 ∧ (s.get! (i + 1)).toNat = c1 ∧ (s.get! (i + 2)).toNat = c2 ∧ i + 2 < s.size ∧ 224 ≤ c0 ∧ c0 ≤ 239 ∧ 128 ≤ c1 ∧ c1 ≤ 191 ∧ 128 ≤ c2 ∧ c2 ≤ 191 ∧ 2048 ≤ c0 % 16 * 4096 + c1 % 64 * 64 + c2 % 64 ∧ ¬ (55296 ≤ c0 % 16 * 4096 + c1 % 64 * 64 + c2 % 64 ∧ c0 % 16 * 4096 + c1 % 64 * 64 + c2 % 64 ≤ 57343) ∧ Utf8.decode s i = (c0 % 16 * 4096 + c1 % 64 * 64 + c2 % 64, 3)) ∨
    (∃ c0 c1 c2 c3, (s.get! i).toNat = c0 ∧ (s.get! (i + 1)).toNat = c1 ∧ (s.get! (i + 2)).toNat = c2 ∧ (s.get! (i + 3)).toNat = c3 ∧ i + 3 < s.size ∧ 240 ≤ c0 ∧ c0 ≤ 247 ∧ 128 ≤ c1 ∧ c1 ≤ 191 ∧ 128 ≤ c2 ∧ c2 ≤ 191 ∧ 128 ≤ c3 ∧ c3 ≤ 191 ∧ 65536 ≤ c0 % 8 * 262144 + c1 % 64 * 4096 + c2 % 64 * 64 + c3 % 64 ∧ c0 % 8 * 262144 + c1 % 64 * 4096 + c2 % 64 * 64 + c3 % 64 ≤ 1114111 ∧ Utf8.decode s i = (c0 % 8 * 262144 + c1 % 64 * 4096 + c2 % 64 * 64 + c3 % 64, 4)) := by
  by_cases a : (s.get! i).toNat < 128
  · exact Or.inl ⟨_, rfl, a, dec_one s i _ rfl a⟩
  right
  by_cases h : need (s.get! i).toNat = 0 ∨ s.size ≤ i + need (s.get! i).toNat ∨ ∃ k, 1 ≤ k ∧ k ≤ need (s.get! i).toNat ∧ ((s.get! (i + k)).toNat < 128 ∨ 191 < (s.get! (i + k)).toNat)
  · exact Or.inl (dec_bad s i _ rfl (by omega) h)
  have h1 : ¬ need (s.get! i).toNat = 0 := fun e => h (Or.inl e)
  have h2 : ¬ s.size ≤ i + need (s.get! i).toNat := fun e => h (Or.inr (Or.inl e))
  have h3 : ∀ k, 1 ≤ k → k ≤ need (s.get! i).toNat → 128 ≤ (s.get! (i + k)).toNat ∧ (s.get! (i + k)).toNat ≤ 191 := by
    intro k k0 k1
    by_cases q : (s.get! (i + k)).toNat < 128 ∨ 191 < (s.get! (i + k)).toNat
    · exact absurd (Or.inr (Or.inr ⟨k, k0, k1, q⟩)) h
    · omega
  clear h
  rcases need_cases (s.get! i).toNat with ⟨hn, l0, l1⟩ | ⟨hn, l0, l1⟩ | ⟨hn, l0, l1⟩ | ⟨hn, _⟩
  · rw [hn] at h2 h3
    have g1 := h3 1 (by omega) (by omega)
    have e := dec_two s i _ _ rfl rfl (by omega) l0 l1 g1.1 g1.2
    by_cases q : (s.get! i).toNat % 32 * 64 + (s.get! (i + 1)).toNat % 64 ≥ 128
    · rw [if_pos q] at e
      exact Or.inr (Or.inl ⟨_, _, rfl, rfl, by omega, l0, l1, g1.1, g1.2, q, e⟩)
    · rw [if_neg q] at e
      exact Or.inl e
  · rw [hn] at h2 h3
    have g1 := h3 1 (by omega) (by omega)
    have g2 := h3 2 (by omega) (by omega)
    have e := dec_three s i _ _ _ rfl rfl rfl (by omega) l0 l1 g1.1 g1.2 g2.1 g2.2
    by_cases q : ((s.get! i).toNat % 16 * 4096 + (s.get! (i + 1)).toNat % 64 * 64 + (s.get! (i + 2)).toNat % 64 ≥ 2048 && Utf8.valid ((s.get! i).toNat % 16 * 4096 + (s.get! (i + 1)).toNat % 64 * 64 + (s.get! (i + 2)).toNat % 64 : Nat)) = true
    · rw [if_pos q] at e
      refine Or.inr (Or.inr (Or.inl ⟨_, _, _, rfl, rfl, rfl, by omega, l0, l1, g1.1, g1.2, g2.1, g2.2, ?_, ?_, e⟩))
      · simp [Utf8.valid] at q; omega
      · simp [Utf8.valid] at q; omega
    · rw [if_neg q] at e
      exact Or.inl e
  · rw [hn] at h2 h3
    have g1 := h3 1 (by omega) (by omega)
    have g2 := h3 2 (by omega) (by omega)
    have g3 := h3 3 (by omega) (by omega)
    have e := dec_four s i _ _ _ _ rfl rfl rfl rfl (by omega) l0 l1 g1.1 g1.2 g2.1 g2.2 g3.1 g3.2
    by_cases q : ((s.get! i).toNat % 8 * 262144 + (s.get! (i + 1)).toNat % 64 * 4096 + (s.get! (i + 2)).toNat % 64 * 64 + (s.get! (i + 3)).toNat % 64 ≥ 65536 && Utf8.valid ((s.get! i).toNat % 8 * 262144 + (s.get! (i + 1)).toNat % 64 * 4096 + (s.get! (i + 2)).toNat % 64 * 64 + (s.get! (i + 3)).toNat % 64 : Nat)) = true
    · rw [if_pos q] at e
      refine Or.inr (Or.inr (Or.inr ⟨_, _, _, _, rfl, rfl, rfl, rfl, by omega, l0, l1, g1.1, g1.2, g2.1, g2.2, g3.1, g3.2, ?_, ?_, e⟩))
      · simp [Utf8.valid] at q; omega
      · simp [Utf8.valid] at q; omega
    · rw [if_neg q] at e
      exact Or.inl e
  · exact absurd hn h1

/-- every code point that decode gives is a Unicode scalar value -/
theorem dec_scalar (s : ByteArray) (i : Nat) (hi : i < s.size) : (Utf8.decode s i).1 ≤ 1114111 ∧ ¬ (55296 ≤ (Utf8.decode s i).1 ∧ (Utf8.decode s i).1 ≤ 57343) := by
  rcases dec_all s i hi with ⟨c0, _, h, e⟩ | e | ⟨c0, c1, _, _, _, _, _, _, _, h, e⟩ | ⟨c0, c1, c2, _, _, _, _, _, _, _, _, _, _, h, h2, e⟩ | ⟨c0, c1, c2, c3, _, _, _, _, _, _, _, _, _, _, _, _, _, h, h2, e⟩
  all_goals
    rw [e]
    simp only []
    omega

/-- may the code point at i be read? -/
def good (s : ByteArray) (i : Nat) : Bool := decide (Utf8.decode s i ≠ (65533, 1))
/-- the bytes from i on, n of them -/
def seg (s : ByteArray) (i n : Nat) : List UInt8 := (s.data.toList.drop i).take n

theorem seg_snoc (s : ByteArray) (i n : Nat) (h : i + n < s.size) : seg s i n ++ [s.get! (i + n)] = seg s i (n + 1) := by
  have hl : i + n < s.data.toList.length := by simpa using h
  have hd : n < (s.data.toList.drop i).length := by rw [List.length_drop]; omega
  unfold seg
  rw [List.take_add_one, List.getElem?_eq_getElem hd, List.getElem_drop]
  have e : s.get! (i + n) = s.data.toList[i + n]'hl := by
    show s.data[i + n]! = _
    rw [getElem!_pos s.data (i + n) (by simpa using hl)]
    simp
  rw [e]
  rfl

theorem seg_zero (s : ByteArray) (i : Nat) : seg s i 0 = [] := by simp [seg]

theorem byte_eq {b : UInt8} {n c : Nat} (h : b.toNat = c) (e : c = n) : b = UInt8.ofNat n := by
  subst e; subst h; simp

/-- a code point that may be read stands in the string as encodeRune writes it -/
theorem good_bytes (s : ByteArray) (i : Nat) (hi : i < s.size) (h : good s i = true) : Lib.encodeRune ((Utf8.decode s i).1 : Int) = seg s i (Utf8.decode s i).2 := by
  unfold good at h
  rw [decide_eq_true_eq] at h
  rcases dec_all s i hi with ⟨c0, g0, h0, e⟩ | e | ⟨c0, c1, g0, g1, z, _, _, _, _, h1, e⟩ | ⟨c0, c1, c2, g0, g1, g2, z, _, _, _, _, _, _, h1, h2, e⟩ | ⟨c0, c1, c2, c3, g0, g1, g2, g3, z, _, _, _, _, _, _, _, _, h1, h2, e⟩
  · rw [e]
    simp only []
    have e1 := seg_snoc s i 0 (by omega)
    rw [seg_zero, Nat.add_zero] at e1
    rw [← e1]
    unfold Lib.encodeRune
    rw [Lib.encodeRuneZ_one (by omega) (by omega)]
    simp only [List.map_cons, List.map_nil, List.nil_append]
    congr 1
    rw [byte_eq g0 rfl]
    simp
  · exact absurd e h
  · rw [e]
    simp only []
    have e1 := seg_snoc s i 0 (by omega)
    have e2 := seg_snoc s i 1 (by omega)
    rw [seg_zero, Nat.add_zero] at e1
    rw [← e1, byte_eq g0 (show c0 = 192 + (c0 % 32 * 64 + c1 % 64) / 64 by omega), byte_eq g1 (show c1 = 128 + (c0 % 32 * 64 + c1 % 64) % 64 by omega)] at e2
    rw [← e2]
    clear e1 e2
    have hy : c0 % 32 * 64 + c1 % 64 ≤ 2047 := by omega
    generalize c0 % 32 * 64 + c1 % 64 = y at *
    unfold Lib.encodeRune
    rw [Lib.encodeRuneZ_two (by omega) (by omega)]
    simp only [List.map_cons, List.map_nil]
    rw [show ((192 : Int) + (y : Int) / 64).toNat = 192 + y / 64 by omega, show ((128 : Int) + (y : Int) % 64).toNat = 128 + y % 64 by omega]
    rfl
  · rw [e]
    simp only []
    have e1 := seg_snoc s i 0 (by omega)
    have e2 := seg_snoc s i 1 (by omega)
    have e3 := seg_snoc s i 2 (by omega)
    rw [seg_zero, Nat.add_zero] at e1
    have hy : c0 % 16 * 4096 + c1 % 64 * 64 + c2 % 64 ≤ 65535 := by omega
    rw [← e2, ← e1, byte_eq g0 (show c0 = 224 + (c0 % 16 * 4096 + c1 % 64 * 64 + c2 % 64) / 4096 by omega), byte_eq g1 (show c1 = 128 + (c0 % 16 * 4096 + c1 % 64 * 64 + c2 % 64) / 64 % 64 by omega), byte_eq g2 (show c2 = 128 + (c0 % 16 * 4096 + c1 % 64 * 64 + c2 % 64) % 64 by omega)] at e3
    rw [← e3]
    clear e1 e2 e3
    generalize c0 % 16 * 4096 + c1 % 64 * 64 + c2 % 64 = y at *
    unfold Lib.encodeRune
    rw [Lib.encodeRuneZ_three (by omega)]
    simp only [List.map_cons, List.map_nil]
    rw [show ((224 : Int) + (y : Int) / 4096).toNat = 224 + y / 4096 by omega, show ((128 : Int) + (y : Int) / 64 % 64).toNat = 128 + y / 64 % 64 by omega, show ((128 : Int) + (y : Int) % 64).toNat = 128 + y % 64 by omega]
    rfl
  · rw [e]
    simp only []
    have e1 := seg_snoc s i 0 (by omega)
    have e2 := seg_snoc s i 1 (by omega)
    have e3 := seg_snoc s i 2 (by omega)
    have e4 := seg_snoc s i 3 (by omega)
    rw [seg_zero, Nat.add_zero] at e1
    rw [← e3, ← e2, ← e1, byte_eq g0 (show c0 = 240 + (c0 % 8 * 262144 + c1 % 64 * 4096 + c2 % 64 * 64 + c3 % 64) / 262144 by omega), byte_eq g1 (show c1 = 128 + (c0 % 8 * 262144 + c1 % 64 * 4096 + c2 % 64 * 64 + c3 % 64) / 4096 % 64 by omega), byte_eq g2 (show c2 = 128 + (c0 % 8 * 262144 + c1 % 64 * 4096 + c2 % 64 * 64 + c3 % 64) / 64 % 64 by omega), byte_eq g3 (show c3 = 128 + (c0 % 8 * 262144 + c1 % 64 * 4096 + c2 % 64 * 64 + c3 % 64) % 64 by omega)] at e4
    rw [← e4]
    clear e1 e2 e3 e4
    generalize c0 % 8 * 262144 + c1 % 64 * 4096 + c2 % 64 * 64 + c3 % 64 = y at *
    unfold Lib.encodeRune
    rw [Lib.encodeRuneZ_four (by omega) (by omega)]
    simp only [List.map_cons, List.map_nil]
    rw [show ((240 : Int) + (y : Int) / 262144).toNat = 240 + y / 262144 by omega, show ((128 : Int) + (y : Int) / 4096 % 64).toNat = 128 + y / 4096 % 64 by omega, show ((128 : Int) + (y : Int) / 64 % 64).toNat = 128 + y / 64 % 64 by omega, show ((128 : Int) + (y : Int) % 64).toNat = 128 + y % 64 by omega]
    rfl

theorem bad_val (s : ByteArray) (i : Nat) (h : good s i = false) : Utf8.decode s i = (65533, 1) := by
  unfold good at h
  rw [decide_eq_false_iff_not] at h
  exact Classical.byContradiction fun q => h q

/-- one code point more of what implode writes -/
theorem encs_step (s : ByteArray) (k : Nat) (h : k < runeLen s) : encs ((runeInts s).take (k + 1)) = encs ((runeInts s).take k) ++ Lib.encodeRune ((Utf8.decode s (runeAt s k)).1 : Int) := by
  rw [← encs_snoc _ k (by rw [runeInts_len]; exact h), runeInts_get s k h]
  rfl

theorem seg_join (s : ByteArray) (p n : Nat) : seg s 0 p ++ seg s p n = seg s 0 (p + n) := by
  unfold seg
  rw [List.drop_zero, List.take_add]

/-- while all is good, what implode writes is the string itself -/
theorem encs_good (s : ByteArray) : ∀ k, k ≤ runeLen s → (∀ j, j < k → good s (runeAt s j) = true) → encs ((runeInts s).take k) = seg s 0 (runeAt s k)
  | 0, _, _ => by simp [encs, seg, runeAt]
  | k + 1, h, hg => by
    have hp := (runeLen_spec s).2.2 k (by omega)
    rw [encs_step s k (by omega), encs_good s k (by omega) (fun j hj => hg j (by omega)), good_bytes s _ hp (hg k (by omega)), seg_join, runeAt_step s k hp]

theorem seg_all (s : ByteArray) : seg s 0 s.size = s.data.toList := by
  unfold seg
  rw [List.drop_zero, List.take_of_length_le (by simp)]

theorem encs_all (s : ByteArray) (hg : ∀ j, j < runeLen s → good s (runeAt s j) = true) : (⟨(encs (runeInts s)).toArray⟩ : ByteArray) = s := by
  have h := encs_good s (runeLen s) (Nat.le_refl _) hg
  rw [List.take_of_length_le (by rw [runeInts_len]; exact Nat.le_refl _), (runeLen_spec s).2.1, seg_all] at h
  rw [h]

/-- at the first code point that may not be read, what implode writes is not the string -/
theorem encs_bad (s : ByteArray) (k : Nat) (h : k < runeLen s) (hg : ∀ j, j < k → good s (runeAt s j) = true) (hb : good s (runeAt s k) = false) : (⟨(encs (runeInts s)).toArray⟩ : ByteArray) ≠ s := by
  intro e
  have hp := (runeLen_spec s).2.2 k h
  have hs : encs (runeInts s) = encs ((runeInts s).take k) ++ Lib.encodeRune 65533 ++ encs ((runeInts s).drop (k + 1)) := by
    have e1 := encs_step s k h
    rw [bad_val s _ hb] at e1
    rw [show Lib.encodeRune 65533 = Lib.encodeRune (((65533, 1) : Nat × Nat).1 : Int) from rfl, ← e1]
    unfold encs
    rw [← List.flatMap_append, List.take_append_drop]
  have hd := decode_enc (encs ((runeInts s).take k)) (encs ((runeInts s).drop (k + 1))) 65533
  rw [← hs, e, encs_good s k (by omega) hg] at hd
  have hl : (seg s 0 (runeAt s k)).length = runeAt s k := by
    unfold seg
    rw [List.drop_zero, List.length_take]
    have : s.data.toList.length = s.size := by simp
    omega
  rw [hl, bad_val s _ hb] at hd
  have : Lib.encodeRune 65533 = [239, 191, 189] := by
    unfold Lib.encodeRune; rw [Lib.encodeRuneZ_three (by omega)]; decide
  rw [this] at hd
  simp at hd
end Go.Proofs.YtkhjcknabkpfgaaGreatDoor
