/- Decimal digits: what a list of them counts, and that the library's reading of a signed number gives that count. -/
import Derived.Lib.ParseIntB
namespace Go.Proofs.YthcjepmdejljiaaGreatDoor
open Go

/-- the number of a row of digits, read on from acc -/
def dval (acc : Nat) : List UInt8 → Nat
  | [] => acc
  | c :: r => dval (acc * 10 + (c.toNat - 48)) r

def dig (c : UInt8) : Prop := 48 ≤ c.toNat ∧ c.toNat ≤ 57

theorem dval_ge : ∀ (l : List UInt8) (acc : Nat), acc ≤ dval acc l
  | [], acc => Nat.le_refl _
  | c :: r, acc => by
    have := dval_ge r (acc * 10 + (c.toNat - 48))
    unfold dval
    omega

theorem parseM (M : Nat) (hM : M ≤ 18446744073709551615) : ∀ (l : List UInt8) (acc : Nat), (∀ c ∈ l, dig c) → dval acc l ≤ M → Lib.parseUintM M acc l = .ok (dval acc l)
  | [], acc, _, _ => rfl
  | c :: r, acc, hd, hv => by
    have hc : 48 ≤ c.toNat ∧ c.toNat ≤ 57 := hd c (List.mem_cons_self ..)
    unfold dval at hv ⊢
    have ge := dval_ge r (acc * 10 + (c.toNat - 48))
    unfold Lib.parseUintM
    rw [if_pos hc, if_neg (by omega), if_neg (by omega)]
    exact parseM M hM r _ (fun d h => hd d (List.mem_cons_of_mem _ h)) hv

theorem pow63 : (2 : Nat) ^ (64 - 1) = 9223372036854775808 := by decide
theorem pow64 : (2 : Nat) ^ 64 - 1 = 18446744073709551615 := by decide

theorem parse_pos (l : List UInt8) (hne : l ≠ []) (hd : ∀ c ∈ l, dig c) (hv : dval 0 l ≤ 9223372036854775807) : Lib.parseIntB 64 l = .ok (dval 0 l : Int) := by
  cases l with
  | nil => exact absurd rfl hne
  | cons c r =>
    have hc : dig c := hd c (List.mem_cons_self ..)
    unfold dig at hc
    unfold Lib.parseIntB Lib.parseUintB
    simp only []
    rw [if_neg (show ¬ (c.toNat = 43 ∨ c.toNat = 45) by omega), if_neg hne, pow64, parseM _ (Nat.le_refl _) _ 0 hd (by omega)]
    simp only []
    rw [pow63, if_neg (by omega), if_neg (by omega), if_neg (by omega)]

theorem parse_neg (l : List UInt8) (hne : l ≠ []) (hd : ∀ c ∈ l, dig c) (hv : dval 0 l ≤ 9223372036854775808) : Lib.parseIntB 64 (45 :: l) = .ok (-(dval 0 l : Int)) := by
  unfold Lib.parseIntB Lib.parseUintB
  simp only []
  have e : (45 : UInt8).toNat = 45 := rfl
  rw [if_pos (show ((45 : UInt8).toNat = 43 ∨ (45 : UInt8).toNat = 45) by omega), if_neg hne, pow64, parseM _ (Nat.le_refl _) _ 0 hd (by omega)]
  simp only []
  rw [pow63, if_neg (by omega), if_neg (by omega), if_pos (by omega)]
end Go.Proofs.YthcjepmdejljiaaGreatDoor
