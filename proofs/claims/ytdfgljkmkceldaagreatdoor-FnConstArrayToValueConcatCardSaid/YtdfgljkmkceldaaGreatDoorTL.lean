/- ByteArray.toList: plain Lean. -/
import Derived.Lib.Hide
namespace Go.Proofs.YtdfgljkmkceldaaGreatDoor
open Go
theorem toList_loop (s : ByteArray) : ∀ (n i : Nat) (r : List UInt8), s.size - i = n → ByteArray.toList.loop s i r = r.reverse ++ s.data.toList.drop i
  | 0, i, r, h => by
    unfold ByteArray.toList.loop
    have hl : s.data.toList.length = s.size := by simp
    rw [if_neg (by omega), List.drop_eq_nil_of_le (by omega), List.append_nil]
  | n + 1, i, r, h => by
    have hl : s.data.toList.length = s.size := by simp
    have hi : i < s.data.toList.length := by omega
    unfold ByteArray.toList.loop
    rw [if_pos (by omega), toList_loop s n (i + 1) _ (by omega), List.drop_eq_getElem_cons hi]
    have e : s.get! i = s.data.toList[i]'hi := by
      show s.data[i]! = _
      rw [getElem!_pos s.data i (by simpa using hi)]
      simp
    rw [e]
    simp
theorem toList_eq (s : ByteArray) : s.toList = s.data.toList := by
  unfold ByteArray.toList
  rw [toList_loop s _ 0 [] rfl]
  simp

theorem byteArr_beq (a b : ByteArray) : (a.toList == b.toList) = decide (a = b) := by
  rw [toList_eq, toList_eq]
  by_cases h : a = b
  · subst h; simp
  · rw [decide_eq_false h, Bool.eq_false_iff]
    intro e
    rw [beq_iff_eq] at e
    exact h (ByteArray.ext (Array.toList_inj.1 e))
end Go.Proofs.YtdfgljkmkceldaaGreatDoor
