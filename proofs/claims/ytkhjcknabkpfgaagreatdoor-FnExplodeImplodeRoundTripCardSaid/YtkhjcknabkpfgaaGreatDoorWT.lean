/- Small laws for the round trip. -/
import Derived.Test.YtkhjcknabkpfgaaGreatDoorVD
import Derived.Test.YtkhjcknabkpfgaaGreatDoorAO
import Derived.Test.YtkhjcknabkpfgaaGreatDoorCB
namespace Go.Proofs.YtkhjcknabkpfgaaGreatDoor
open Go.RowKit
set_option linter.unusedVariables false

theorem toList_loop (s : ByteArray) : ∀ (n i : Nat) (r : List UInt8), s.size - i = n → ByteArray.toList.loop s i r = r.reverse ++ s.data.toList.drop i
  | 0, i, r, h => by
    unfold ByteArray.toList.loop
    have hl : s.data.toList.length = s.size := by simp
    rw [if_neg (by omega), List.drop_eq_nil_of_le (by omega), List.append_nil]
  | n + 1, i, r, h => by
    have hl : s.data.toList.length = s.size := by simp
    have hi : i < s.data.toList.length := by omega
    unfold ByteArray.toList.loop
    rw [if_pos (by omega), toList_loop s n (i + 1) _ (by omega), List.drop_eq_getElem_cons hi]
    have e : s.get! i = s.data.toList[i]'hi := by
      show s.data[i]! = _
      rw [getElem!_pos s.data i (by simpa using hi)]
      simp
    rw [e]
    simp
theorem toList_eq (s : ByteArray) : s.toList = s.data.toList := by
  unfold ByteArray.toList
  rw [toList_loop s _ 0 [] rfl]
  simp

theorem byteArr_beq (a b : ByteArray) : (a.toList == b.toList) = decide (a = b) := by
  rw [toList_eq, toList_eq]
  by_cases h : a = b
  · subst h; simp
  · rw [decide_eq_false h, Bool.eq_false_iff]
    intro e
    rw [beq_iff_eq] at e
    exact h (ByteArray.ext (Array.toList_inj.1 e))

theorem same_eq (s : ByteArray) : (((⟨(encs (runeInts s)).toArray⟩ : ByteArray)).toList == s.toList) = same s := by
  unfold same
  exact byteArr_beq _ _

theorem owns_below {w w' : World} {base e : Nat} {v : Value} {n : Nat} {xs : List Value} (h : w.ownsRow base e 1 v n xs) (hb : Below w.heap.size w w') : w'.ownsRow base e 1 v n xs := by
  refine h.kept (row := none) ⟨hb.os, hb.tape, hb.output, hb.size, fun i hi _ => hb.block i hi⟩ ?_
  cases hv : v.ownBlock with
  | none => exact Or.inl rfl
  | some k => exact Or.inr (by simp)

theorem seg_push (s : ByteArray) (p j : Nat) (acc : List UInt8) (h : p + j < s.size) : Lib.byteCells (acc ++ seg s p j) ++ [Value.int .u8 ((s[p + j]'h).toNat : Int)] = Lib.byteCells (acc ++ seg s p (j + 1)) := by
  rw [← seg_snoc s p j h, get_bang s (p + j) h, ← List.append_assoc, Lib.byteCells_append (acc ++ seg s p j)]
  rfl

theorem seg_len (s : ByteArray) (p n : Nat) (h : p + n ≤ s.size) : (seg s p n).length = n := by
  unfold seg
  rw [List.length_take, List.length_drop]
  have : s.data.toList.length = s.size := by simp
  omega

theorem enc_bad : Lib.encodeRune ((65533 : Nat) : Int) = [239, 191, 189] := by
  unfold Lib.encodeRune; rw [Lib.encodeRuneZ_three (by omega)]; decide
end Go.Proofs.YtkhjcknabkpfgaaGreatDoor
