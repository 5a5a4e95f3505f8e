/- How many digits itoa takes room for. -/
import Derived.Test.YteabecjcjlcolaaGreatDoorBS
import Derived.Laws.FloatArith
namespace Go.Proofs.YteabecjcjlcolaaGreatDoor
open Go.RowKit

def lenChk (L : Nat) : Bool :=
  match floatBits .quo .f64 (floatOfInt .f64 (L : Int)) 4614662735865160561 with
  | some q => match floatToIntVal .f64 q .i64 with
    | some n => decide (0 ≤ n) && decide (n ≤ 19) && decide (2 ^ L ≤ 10 ^ (n.toNat + 1))
    | none => false
  | none => false

theorem lenChk_all : ∀ L, L < 65 → lenChk L = true := by decide +kernel

theorem itoa_len (L : Nat) (h : L ≤ 64) : ∃ q n : Nat, floatBits .quo .f64 (floatOfInt .f64 (L : Int)) 4614662735865160561 = some q ∧ floatToIntVal .f64 q .i64 = some (n : Int) ∧ n ≤ 19 ∧ 2 ^ L ≤ 10 ^ (n + 1) := by
  have h := lenChk_all L (by omega)
  unfold lenChk at h
  split at h
  · rename_i q hq
    split at h
    · rename_i n hn
      simp only [Bool.and_eq_true, decide_eq_true_eq] at h
      obtain ⟨⟨a, b⟩, c⟩ := h
      exact ⟨q, n.toNat, hq, by rw [hn]; congr 1; omega, by omega, c⟩
    · cases h
  · cases h

theorem itoa_room (L : Nat) (h : L ≤ 64) : ∃ q I : Nat, floatBits .quo .f64 (floatOfInt .f64 (L : Int)) 4614662735865160561 = some q ∧ floatToIntVal .f64 q .i64 = some ((I : Int) - 1) ∧ 1 ≤ I ∧ I ≤ 20 ∧ 2 ^ L ≤ 10 ^ I := by
  obtain ⟨q, n, h1, h2, h3, h4⟩ := itoa_len L h
  exact ⟨q, n + 1, h1, by rw [h2]; congr 1; omega, by omega, by omega, h4⟩
end Go.Proofs.YteabecjcjlcolaaGreatDoor
