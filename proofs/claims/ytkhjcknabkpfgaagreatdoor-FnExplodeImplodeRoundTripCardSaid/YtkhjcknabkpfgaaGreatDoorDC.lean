/- Decoding what encodeRune wrote: plain Lean. -/
import Derived.Lib.RuneBytes
import Derived.Test.YtkhjcknabkpfgaaGreatDoorIP
import Derived.Test.YtkhjcknabkpfgaaGreatDoorEX
namespace Go.Proofs.YtkhjcknabkpfgaaGreatDoor
open Go
set_option linter.unusedVariables false

/-- the number itself where it is a Unicode scalar value, else U+FFFD -/
def rep (x : Int) : Int := if (0 ≤ x ∧ x ≤ 1114111) ∧ ¬ (55296 ≤ x ∧ x ≤ 57343) then x else 65533

theorem get_mid (A B C : List UInt8) (j : Nat) (h : j < B.length) : ((⟨(A ++ B ++ C).toArray⟩ : ByteArray).get! (A.length + j)).toNat = (B.getD j 0).toNat := by
  have e : (⟨(A ++ B ++ C).toArray⟩ : ByteArray).get! (A.length + j) = B.getD j 0 := by
    show (A ++ B ++ C).toArray[A.length + j]! = _
    have hl : A.length + j < (A ++ B ++ C).length := by simp; omega
    rw [getElem!_pos (A ++ B ++ C).toArray (A.length + j) (by simpa using hl)]
    rw [List.getElem_toArray, List.getElem_append_left (by simp; omega), List.getElem_append_right (by omega)]
    simp [List.getD, h]
  rw [e]

theorem decode_enc (A C : List UInt8) (x : Int) : Utf8.decode ⟨(A ++ Lib.encodeRune x ++ C).toArray⟩ A.length = ((rep x).toNat, (Lib.encodeRune x).length) := by
  have hg := get_mid A (Lib.encodeRune x) C
  have hsz : (⟨(A ++ Lib.encodeRune x ++ C).toArray⟩ : ByteArray).size = A.length + (Lib.encodeRune x).length + C.length := by
    show (A ++ Lib.encodeRune x ++ C).toArray.size = _
    simp
    omega
  generalize hS : (⟨(A ++ Lib.encodeRune x ++ C).toArray⟩ : ByteArray) = S at hg hsz ⊢
  clear hS
  by_cases q0 : 0 ≤ x ∧ x ≤ 127
  · have e : Lib.encodeRune x = [x.toNat.toUInt8] := by unfold Lib.encodeRune; rw [Lib.encodeRuneZ_one q0.1 q0.2]; rfl
    rw [e] at hg hsz ⊢
    have g0 := hg 0 (by simp)
    simp at g0
    have g0' : (S.get! A.length).toNat = x.toNat := by rw [g0]; omega
    have hr : rep x = x := by unfold rep; rw [if_pos (by omega)]
    rw [hr]
    simp only [Utf8.decode, Nat.add_zero, g0']
    rw [if_pos (by omega)]
    rfl
  have hlen : ∀ l : List UInt8, Lib.encodeRune x = l → S.size = A.length + l.length + C.length := fun l h => by rw [hsz, h]
  by_cases q1 : 128 ≤ x ∧ x ≤ 2047
  · obtain ⟨y, rfl⟩ : ∃ y : Nat, x = y := ⟨x.toNat, by omega⟩
    have e : Lib.encodeRune (y : Int) = [UInt8.ofNat (192 + y / 64), UInt8.ofNat (128 + y % 64)] := by
      unfold Lib.encodeRune; rw [Lib.encodeRuneZ_two q1.1 q1.2]
      simp only [List.map_cons, List.map_nil]
      rw [show ((192 : Int) + (y : Int) / 64).toNat = 192 + y / 64 by omega, show ((128 : Int) + (y : Int) % 64).toNat = 128 + y % 64 by omega]
    rw [e] at hg hsz ⊢
    have g0 := hg 0 (by simp)
    have g1 := hg 1 (by simp)
    simp only [List.getD_cons_zero, List.getD_cons_succ, UInt8.toNat_ofNat', Nat.add_zero] at g0 g1
    rw [Nat.mod_eq_of_lt (by omega)] at g0 g1
    have hr : rep (y : Int) = y := by unfold rep; rw [if_pos (by omega)]
    rw [hr]
    simp only [List.length_cons, List.length_nil] at hsz ⊢
    simp only [Utf8.decode, Nat.add_zero, g0, g1]
    rw [if_neg (by omega), if_pos (by simp; omega), if_pos (by omega)]
    simp
    omega
  by_cases q2 : (2048 ≤ x ∧ x < 55296) ∨ (57343 < x ∧ x ≤ 65535)
  · obtain ⟨y, rfl⟩ : ∃ y : Nat, x = y := ⟨x.toNat, by omega⟩
    have e : Lib.encodeRune (y : Int) = [UInt8.ofNat (224 + y / 4096), UInt8.ofNat (128 + y / 64 % 64), UInt8.ofNat (128 + y % 64)] := by
      unfold Lib.encodeRune; rw [Lib.encodeRuneZ_three q2]
      simp only [List.map_cons, List.map_nil]
      rw [show ((224 : Int) + (y : Int) / 4096).toNat = 224 + y / 4096 by omega, show ((128 : Int) + (y : Int) / 64 % 64).toNat = 128 + y / 64 % 64 by omega, show ((128 : Int) + (y : Int) % 64).toNat = 128 + y % 64 by omega]
    rw [e] at hg hsz ⊢
    have g0 := hg 0 (by simp)
    have g1 := hg 1 (by simp)
    have g2 := hg 2 (by simp)
    simp only [List.getD_cons_zero, List.getD_cons_succ, UInt8.toNat_ofNat', Nat.add_zero] at g0 g1 g2
    rw [Nat.mod_eq_of_lt (by omega)] at g0 g1 g2
    have hr : rep (y : Int) = y := by unfold rep; rw [if_pos (by omega)]
    rw [hr]
    simp only [List.length_cons, List.length_nil] at hsz ⊢
    simp only [Utf8.decode, Nat.add_zero, g0, g1, g2]
    rw [if_neg (by omega), if_neg (by simp; omega), if_pos (by simp; omega), if_pos (by simp [Utf8.valid]; omega)]
    simp
    omega
  by_cases q3 : 65536 ≤ x ∧ x ≤ 1114111
  · obtain ⟨y, rfl⟩ : ∃ y : Nat, x = y := ⟨x.toNat, by omega⟩
    have e : Lib.encodeRune (y : Int) = [UInt8.ofNat (240 + y / 262144), UInt8.ofNat (128 + y / 4096 % 64), UInt8.ofNat (128 + y / 64 % 64), UInt8.ofNat (128 + y % 64)] := by
      unfold Lib.encodeRune; rw [Lib.encodeRuneZ_four q3.1 q3.2]
      simp only [List.map_cons, List.map_nil]
      rw [show ((240 : Int) + (y : Int) / 262144).toNat = 240 + y / 262144 by omega, show ((128 : Int) + (y : Int) / 4096 % 64).toNat = 128 + y / 4096 % 64 by omega, show ((128 : Int) + (y : Int) / 64 % 64).toNat = 128 + y / 64 % 64 by omega, show ((128 : Int) + (y : Int) % 64).toNat = 128 + y % 64 by omega]
    rw [e] at hg hsz ⊢
    have g0 := hg 0 (by simp)
    have g1 := hg 1 (by simp)
    have g2 := hg 2 (by simp)
    have g3 := hg 3 (by simp)
    simp only [List.getD_cons_zero, List.getD_cons_succ, UInt8.toNat_ofNat', Nat.add_zero] at g0 g1 g2 g3
    rw [Nat.mod_eq_of_lt (by omega)] at g0 g1 g2 g3
    have hr : rep (y : Int) = y := by unfold rep; rw [if_pos (by omega)]
    rw [hr]
    simp only [List.length_cons, List.length_nil] at hsz ⊢
    simp only [Utf8.decode, Nat.add_zero, g0, g1, g2, g3]
    rw [if_neg (by omega), if_neg (by simp; omega), if_neg (by simp; omega), if_pos (by simp; omega), if_pos (by simp [Utf8.valid]; omega)]
    simp
    omega
  · have e : Lib.encodeRune x = [239, 191, 189] := by
      unfold Lib.encodeRune; rw [Lib.encodeRuneZ_bad (by omega)]; decide
    rw [e] at hg hsz ⊢
    have g0 : (S.get! A.length).toNat = 239 := hg 0 (by simp)
    have g1 : (S.get! (A.length + 1)).toNat = 191 := hg 1 (by simp)
    have g2 : (S.get! (A.length + 2)).toNat = 189 := hg 2 (by simp)
    have hr : rep x = 65533 := by unfold rep; rw [if_neg (by omega)]
    rw [hr]
    simp only [List.length_cons, List.length_nil] at hsz ⊢
    simp only [Utf8.decode, Nat.add_zero, g0, g1, g2]
    rw [if_neg (by omega), if_neg (by simp), if_pos (by simp; omega), if_pos (by simp [Utf8.valid])]
    rfl

/-- the code points of what implode wrote -/
theorem runeAt_encs (zs : List Int) : ∀ k, k ≤ zs.length → runeAt ⟨(encs zs).toArray⟩ k = (encs (zs.take k)).length
  | 0, _ => by simp [runeAt, encs]
  | k + 1, h => by
    have ih := runeAt_encs zs k (by omega)
    have hs : encs zs = encs (zs.take k) ++ Lib.encodeRune (zs.getD k 0) ++ encs (zs.drop (k + 1)) := by
      rw [encs_snoc zs k (by omega)]
      unfold encs
      rw [← List.flatMap_append, List.take_append_drop]
    have hd := decode_enc (encs (zs.take k)) (encs (zs.drop (k + 1))) (zs.getD k 0)
    rw [← hs, ← ih] at hd
    have hl : 1 ≤ (Lib.encodeRune (zs.getD k 0)).length := by rw [← Lib.runeCells_length]; exact (Lib.runeCells_le _).1
    have hp : runeAt ⟨(encs zs).toArray⟩ k < (⟨(encs zs).toArray⟩ : ByteArray).size := by
      show _ < (encs zs).toArray.size
      rw [ih, List.size_toArray]
      conv => rhs; rw [hs]
      simp only [List.length_append]
      omega
    rw [runeAt_step _ _ hp, hd, ih, ← encs_snoc zs k (by omega), List.length_append]

theorem decode_encs (zs : List Int) (k : Nat) (h : k < zs.length) : Utf8.decode ⟨(encs zs).toArray⟩ (runeAt ⟨(encs zs).toArray⟩ k) = ((rep (zs.getD k 0)).toNat, (Lib.encodeRune (zs.getD k 0)).length) := by
  have hs : encs zs = encs (zs.take k) ++ Lib.encodeRune (zs.getD k 0) ++ encs (zs.drop (k + 1)) := by
    rw [encs_snoc zs k h]
    unfold encs
    rw [← List.flatMap_append, List.take_append_drop]
  have hd := decode_enc (encs (zs.take k)) (encs (zs.drop (k + 1))) (zs.getD k 0)
  rw [← hs] at hd
  rw [runeAt_encs zs k (by omega)]
  exact hd

theorem runeLen_encs (zs : List Int) : runeLen ⟨(encs zs).toArray⟩ = zs.length := by
  obtain ⟨h1, h2, h3⟩ := runeLen_spec ⟨(encs zs).toArray⟩
  have e : runeAt ⟨(encs zs).toArray⟩ zs.length = (⟨(encs zs).toArray⟩ : ByteArray).size := by
    rw [runeAt_encs zs _ (Nat.le_refl _), List.take_length]
    show _ = (encs zs).toArray.size
    simp
  rcases Nat.lt_trichotomy (runeLen ⟨(encs zs).toArray⟩) zs.length with c | c | c
  · exfalso
    have hl : 1 ≤ (Lib.encodeRune (zs.getD (runeLen ⟨(encs zs).toArray⟩) 0)).length := by rw [← Lib.runeCells_length]; exact (Lib.runeCells_le _).1
    have a1 := runeAt_encs zs (runeLen ⟨(encs zs).toArray⟩) (by omega)
    have a2 := runeAt_encs zs (runeLen ⟨(encs zs).toArray⟩ + 1) (by omega)
    rw [← encs_snoc zs _ c, List.length_append] at a2
    have a3 := runeAt_le ⟨(encs zs).toArray⟩ (runeLen ⟨(encs zs).toArray⟩ + 1)
    omega
  · exact c
  · exfalso
    have := h3 _ c
    omega

theorem rep_range (x : Int) : 0 ≤ rep x ∧ rep x ≤ 1114111 := by
  unfold rep; split <;> omega
theorem runeInts_encs (zs : List Int) (k : Nat) (h : k < zs.length) : (runeInts ⟨(encs zs).toArray⟩).getD k 0 = rep (zs.getD k 0) := by
  rw [runeInts_get _ k (by rw [runeLen_encs]; exact h)]
  unfold runeVal
  rw [decode_encs zs k h]
  have := rep_range (zs.getD k 0)
  simp only []
  omega
end Go.Proofs.YtkhjcknabkpfgaaGreatDoor
