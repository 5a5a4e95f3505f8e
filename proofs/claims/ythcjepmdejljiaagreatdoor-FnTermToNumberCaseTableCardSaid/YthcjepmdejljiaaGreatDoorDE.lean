/- The plain side of reading at most eighteen digits, byte by byte. -/
import Derived.Lib.Hide
import Derived.WalkKit
import Derived.Test.YthcjepmdejljiaaGreatDoorPN
namespace Go.Proofs.YthcjepmdejljiaaGreatDoor
open Go
set_option linter.unusedVariables false

theorem dval_snoc (c : UInt8) : ∀ (l : List UInt8) (acc : Nat), dval acc (l ++ [c]) = dval acc l * 10 + (c.toNat - 48)
  | [], acc => rfl
  | d :: r, acc => by
    show dval (acc * 10 + (d.toNat - 48)) (r ++ [c]) = dval (acc * 10 + (d.toNat - 48)) r * 10 + (c.toNat - 48)
    exact dval_snoc c r _

theorem dval_lt (l : List UInt8) : ∀ acc : Nat, (∀ c ∈ l, dig c) → dval acc l < (acc + 1) * 10 ^ l.length := by
  induction l with
  | nil => intro acc _; show acc < (acc + 1) * 1; omega
  | cons c r ih =>
    intro acc hd
    have hc : 48 ≤ c.toNat ∧ c.toNat ≤ 57 := hd c (List.mem_cons_self ..)
    have h := ih (acc * 10 + (c.toNat - 48)) (fun d h => hd d (List.mem_cons_of_mem _ h))
    have h2 : (acc * 10 + (c.toNat - 48) + 1) * 10 ^ r.length ≤ ((acc + 1) * 10) * 10 ^ r.length := Nat.mul_le_mul_right _ (by omega)
    have e : (acc + 1) * 10 ^ (c :: r).length = ((acc + 1) * 10) * 10 ^ r.length := by
      rw [List.length_cons, Nat.pow_succ, Nat.mul_comm (10 ^ r.length) 10, Nat.mul_assoc]
    rw [e]
    exact Nat.lt_of_lt_of_le h h2

/-- k bytes of L have been read, all digits, and count v -/
def DecInv (L : List UInt8) (k v : Nat) : Prop := k ≤ L.length ∧ v = dval 0 (L.take k) ∧ ∀ c ∈ L.take k, dig c

theorem dec_start (L : List UInt8) : DecInv L 0 0 := ⟨Nat.zero_le _, rfl, by simp⟩

theorem dec_le {L : List UInt8} {k v n : Nat} (h : DecInv L k v) (hk : k ≤ n) : v < 10 ^ n := by
  obtain ⟨h1, h2, h3⟩ := h
  have := dval_lt (L.take k) 0 h3
  rw [← h2, List.length_take, Nat.min_eq_left h1] at this
  have p : 10 ^ k ≤ 10 ^ n := Nat.pow_le_pow_right (by decide) hk
  omega

theorem dec_bound {L : List UInt8} {k v : Nat} (h : DecInv L k v) (hL : L.length ≤ 18) (hk : k < L.length) : v ≤ 100000000000000000 := by
  have := dec_le (n := 17) h (by omega)
  have e : (10 : Nat) ^ 17 = 100000000000000000 := by decide
  omega
theorem dec_bound2 {L : List UInt8} {k v : Nat} (h : DecInv L k v) (hL : L.length ≤ 18) : v ≤ 1000000000000000000 := by
  have := dec_le (n := 18) h (by have := h.1; omega)
  have e : (10 : Nat) ^ 18 = 1000000000000000000 := by decide
  omega

theorem dec_step {L : List UInt8} {k v : Nat} {cv : Int} (h : DecInv L k v) (hk : k < L.length) (hc : cv = ((L.getD k 0).toNat : Int)) (h0 : 48 ≤ cv) (h1 : cv ≤ 57) : DecInv L (k + 1) (v * 10 + (cv.toNat - 48)) := by
  obtain ⟨h1', h2, h3⟩ := h
  have e : L.take (k + 1) = L.take k ++ [L.getD k 0] := by
    rw [List.take_add_one, List.getElem?_eq_getElem hk, List.getD_eq_getElem?_getD, List.getElem?_eq_getElem hk]; rfl
  refine ⟨hk, ?_, ?_⟩
  · rw [e, dval_snoc, ← h2, hc, Int.toNat_natCast]
  · rw [e]
    intro c hm
    rcases List.mem_append.1 hm with hm | hm
    · exact h3 c hm
    · rw [List.mem_singleton.1 hm]
      unfold dig
      omega

theorem dec_end {L : List UInt8} {v : Nat} (h : DecInv L L.length v) : v = dval 0 L ∧ ∀ c ∈ L, dig c := by
  obtain ⟨_, h2, h3⟩ := h
  rw [List.take_length] at h2 h3
  exact ⟨h2, h3⟩

theorem byte_lt (c : UInt8) : c.toNat ≤ 255 := by have := c.toNat_lt; omega

theorem idx_str {P : Program} {t : TypeId} (ht : P.underlying t = some .string) (s : ByteArray) (k : Nat) (h : k < s.size) (w : World) :
    (Instr.index t (.string s) (.int .i64 (k : Int))).run P w = .ok (.int .u8 ((s.data.toList.getD k 0).toNat : Int)) w := by
  rw [run_index_string w t s .i64 k ht, dif_pos ⟨by omega, by omega⟩]
  congr 3
  have hk : k < s.data.toList.length := by cases s; simpa [ByteArray.size] using h
  rw [List.getD_eq_getElem?_getD, List.getElem?_eq_getElem hk]
  cases s
  rfl
end Go.Proofs.YthcjepmdejljiaaGreatDoor
