/- The digits of a whole number, of the number that the search gives. Plain Lean. -/
import Derived.Test.YtkincdcknmdboaaDoorSI
import Derived.Test.YtkincdcknmdboaaDoorFT
namespace Go.Proofs.YtkincdcknmdboaaDoor
open Go Lib
set_option linter.unusedVariables false
set_option linter.unusedSimpArgs false

theorem nd_mul : ∀ z N : Nat, 1 ≤ N → nDigits (N * 10 ^ z) = nDigits N + z
  | 0, N, h => by simp
  | z + 1, N, h => by
    have hp : 1 ≤ 10 ^ z := Nat.pow_pos (by decide)
    have h1 : 1 ≤ N * 10 ^ z := Nat.mul_pos h hp
    have e : N * 10 ^ (z + 1) = N * 10 ^ z * 10 := by rw [Nat.pow_succ, Nat.mul_assoc]
    rw [nDigits_big (by omega), e, Nat.mul_div_cancel _ (by decide), nd_mul z N h]
    omega
theorem dg_mul : ∀ z N j : Nat, dg (N * 10 ^ z) (j + z) = dg N j
  | 0, N, j => by simp
  | z + 1, N, j => by
    have e : N * 10 ^ (z + 1) = N * 10 ^ z * 10 := by rw [Nat.pow_succ, Nat.mul_assoc]
    rw [show j + (z + 1) = (j + z) + 1 by omega, dg_succ, e, Nat.mul_div_cancel _ (by decide), dg_mul z N j]
theorem dg_low : ∀ z N j : Nat, j < z → dg (N * 10 ^ z) j = 48
  | 0, N, j, h => by omega
  | z + 1, N, j, h => by
    have e : N * 10 ^ (z + 1) = N * 10 ^ z * 10 := by rw [Nat.pow_succ, Nat.mul_assoc]
    rw [e]
    cases j with
    | zero =>
      unfold dg
      simp
    | succ j => rw [dg_succ, Nat.mul_div_cancel _ (by decide), dg_low z N j (by omega)]

theorem list_split (f g : Nat → UInt8) (Q k r : Nat) (h : Q = k + r) (h1 : ∀ j, j < k → g j = f j) (h2 : ∀ j, k ≤ j → j < Q → f j = 48) :
    (List.range k).map g ++ List.replicate r 48 = (List.range Q).map f := by
  subst h
  refine List.ext_getElem (by simp) fun i hi hi2 => ?_
  simp at hi
  rw [List.getElem_append]
  simp
  split
  · exact h1 i (by assumption)
  · exact (h2 i (by omega) hi).symm

theorem whole_digits (N d n k : Nat) (q : Int) (hN : 1 ≤ N) (hG : Gives N d q) (hn : nDigits d = n) (hk1 : 1 ≤ k) (hk : k ≤ n) (ht : ∀ j, k ≤ j → j < n → dg d (n - 1 - j) = 48) (hm : dg d (n - k) ≠ 48) :
    ∃ r : Nat, (n : Int) + q = ((k + r : Nat) : Int) ∧ nDigits N = k + r ∧ dl d n 0 k ++ List.replicate r 48 = decDigits N := by
  rw [decDigits_eq]
  rcases hG with ⟨z, hz, rfl, rfl⟩ | ⟨rfl, rfl⟩
  · rw [nd_mul z N hN] at hn
    have hkQ : k ≤ nDigits N := by
      rcases Nat.lt_or_ge (nDigits N) k with h | h
      · exact absurd (dg_low z N (n - k) (by omega)) hm
      · exact h
    refine ⟨nDigits N - k, by omega, by omega, ?_⟩
    refine list_split (fun t => dg N (nDigits N - 1 - t)) _ (nDigits N) k _ (by omega) (fun j hj => ?_) (fun j h1 h2 => ?_)
    · show dg (N * 10 ^ z) (n - 1 - (0 + j)) = _
      rw [show n - 1 - (0 + j) = (nDigits N - 1 - j) + z by omega, dg_mul]
    · have h3 := ht j h1 (by omega)
      rw [show n - 1 - j = (nDigits N - 1 - j) + z by omega, dg_mul] at h3
      exact h3
  · have hd1 : 1 ≤ d := by omega
    have e := nd_mul 1 d hd1
    rw [Nat.pow_one, hn] at e
    refine ⟨n + 1 - k, by omega, by omega, ?_⟩
    rw [e]
    refine list_split (fun t => dg (d * 10) (n + 1 - 1 - t)) _ (n + 1) k _ (by omega) (fun j hj => ?_) (fun j h1 h2 => ?_)
    · show dg d (n - 1 - (0 + j)) = dg (d * 10) (n + 1 - 1 - j)
      have := dg_mul 1 d (n - 1 - j)
      rw [Nat.pow_one] at this
      rw [show n + 1 - 1 - j = n - 1 - j + 1 by omega, this, Nat.zero_add]
    · by_cases hj : j = n
      · subst hj
        have := dg_low 1 d 0 (by omega)
        rw [Nat.pow_one] at this
        simpa using this
      · have h3 := ht j h1 (by omega)
        have := dg_mul 1 d (n - 1 - j)
        rw [Nat.pow_one] at this
        show dg (d * 10) (n + 1 - 1 - j) = 48
        rw [show n + 1 - 1 - j = n - 1 - j + 1 by omega, this, h3]
end Go.Proofs.YtkincdcknmdboaaDoor
