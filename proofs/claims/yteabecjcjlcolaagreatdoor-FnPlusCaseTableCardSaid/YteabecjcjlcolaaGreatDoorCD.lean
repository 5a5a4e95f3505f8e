/- The digits that convertWords writes into a row: plain Lean. -/
import Derived.Test.YteabecjcjlcolaaGreatDoorIF
namespace Go.Proofs.YteabecjcjlcolaaGreatDoor
open Go
set_option linter.unusedVariables false

/-- from cell i on: z noughts, then the digits that are written; r is still to be written -/
def CW (I u i r : Nat) (f : Nat → Value) : Prop :=
  ∃ (z : Nat) (D : List UInt8), i + z + D.length = I ∧ (0 < z → r = 0) ∧ r < 10 ^ (i + z) ∧ dgo (i + z) r D = dgo I u [] ∧ (∀ k, k < z → f (i + k) = .int .u8 48) ∧ ∀ k, k < D.length → f (i + z + k) = .int .u8 ((D.getD k 0).toNat : Int)

theorem cw_start (I u : Nat) (f : Nat → Value) (h : u < 10 ^ I) : CW I u I u f := ⟨0, [], rfl, by simp, h, rfl, by simp, by simp⟩

theorem cw_step {I u m r : Nat} {f : Nat → Value} (h : CW I u (m + 1) r f) (v : Int) (hv : v = 48 + ((r % 10 : Nat) : Int)) : CW I u m (r / 10) (fun k => if k = m then .int .u8 v else f k) := by
  subst hv
  obtain ⟨z, D, h1, h2, h3, h4, h5, h6⟩ := h
  rcases Nat.eq_zero_or_pos r with hr | hr
  · subst hr
    refine ⟨z + 1, D, by omega, fun _ => rfl, by simpa using Nat.pow_pos (by decide : 0 < 10), ?_, ?_, ?_⟩
    · rw [← h4, dgo_zero, dgo_zero]
    · intro k hk
      cases k with
      | zero => simp
      | succ k =>
        show (if m + (k + 1) = m then _ else _) = _
        rw [if_neg (by omega), show m + (k + 1) = m + 1 + k by omega]
        exact h5 k (by omega)
    · intro k hk
      show (if m + (z + 1) + k = m then _ else _) = _
      rw [if_neg (by omega), show m + (z + 1) + k = m + 1 + z + k by omega]
      exact h6 k hk
  · have hz : z = 0 := by
      rcases Nat.eq_zero_or_pos z with c | c
      · exact c
      · have := h2 c; omega
    subst hz
    have hd := digit_nat (r % 10) (Nat.mod_lt _ (by decide))
    refine ⟨0, UInt8.ofNat (48 + r % 10) :: D, by simp; omega, by simp, ?_, ?_, by simp, ?_⟩
    · rw [Nat.add_zero] at h3 ⊢
      rw [Nat.pow_succ] at h3
      exact Nat.div_lt_of_lt_mul (by rw [Nat.mul_comm]; exact h3)
    · rw [← h4, Nat.add_zero, Nat.add_zero, dgo_step _ _ _ hr]
    · intro k hk
      cases k with
      | zero =>
        show (if m + 0 + 0 = m then _ else _) = _
        rw [if_pos (by omega), List.getD_cons_zero, hd]
        congr 1
      | succ k =>
        simp only [Nat.add_zero, List.getD_cons_succ]
        rw [if_neg (by omega), show m + (k + 1) = m + 1 + 0 + k by omega]
        exact h6 k (by simp at hk; omega)

theorem cw_nought {I u r : Nat} {f : Nat → Value} (h : CW I u 0 r f) : r = 0 := by
  obtain ⟨z, D, h1, h2, h3, h4, h5, h6⟩ := h
  rcases Nat.eq_zero_or_pos z with c | c
  · subst c; simpa using h3
  · exact h2 c

theorem cw_end {I u : Nat} {f : Nat → Value} {r : Nat} (h : CW I u 0 r f) : ∃ z, z + (dgo I u []).length = I ∧ (∀ k, k < z → f k = .int .u8 48) ∧ ∀ k, k < (dgo I u []).length → f (z + k) = .int .u8 (((dgo I u []).getD k 0).toNat : Int) := by
  obtain ⟨z, D, h1, h2, h3, h4, h5, h6⟩ := h
  have hr : r = 0 := by
    rcases Nat.eq_zero_or_pos z with c | c
    · subst c; simpa using h3
    · exact h2 c
  subst hr
  rw [dgo_zero] at h4
  subst h4
  exact ⟨z, by omega, fun k hk => by have := h5 k hk; rwa [Nat.zero_add] at this, fun k hk => by have := h6 k hk; rwa [Nat.zero_add] at this⟩
end Go.Proofs.YteabecjcjlcolaaGreatDoor
