/- The walk of b1Decode. -/
import Derived.Test.YtkhjcknabkpfgaaGreatDoorGD
import Derived.Test.YtkhjcknabkpfgaaGreatDoorZE
namespace Go.Proofs.YtkhjcknabkpfgaaGreatDoor
open Go.RowKit
set_option linter.unusedVariables false

theorem get_bang (s : ByteArray) (k : Nat) (h : k < s.size) : s.get! k = s[k]'h := by
  have := get_at s k h
  simpa using this

set_option maxRecDepth 100000 in
theorem b1_one (s : ByteArray) (i : Nat) (w : World) (hs : s.size ≤ 1048576) (hi : i < s.size) (a : (s.get! i).toNat < 128) :
    Calls Tryz.prog 7 #[.string s, .int .i64 i] w fun r w' => r = .returned (.tuple #[.int .i64 (Utf8.decode s i).1, .int .i64 (Utf8.decode s i).2, .bool true]) ∧ Below w.heap.size w w' := by
  obtain ⟨c0, e0⟩ : ∃ c, (s.get! i).toNat = c := ⟨_, rfl⟩
  rw [e0] at a
  rw [dec_one s i c0 e0 a]
  rw [get_bang s i hi] at e0
  have g0 : ((s[i]'hi).toNat : Int) = (c0 : Int) := by rw [e0]
  have t : (c0 : Int) < 128 := by omega
  have hi2 : (i : Int) < (s.size : Int) := by omega
  clear e0
  go_enter Tryz.func7, Tryz.ntmps7
  go_wp2_with fail
  go_ret3
  exact ⟨rfl, Below.refl _ _⟩
/-- the runes' value behind k further bytes -/
def pv (s : ByteArray) (i m : Nat) : Nat → Nat
  | 0 => m
  | k + 1 => pv s i m k * 64 + (s.get! (i + (k + 1))).toNat % 64

set_option maxRecDepth 100000 in
theorem b1_none (s : ByteArray) (i : Nat) (w : World) (hs : s.size ≤ 1048576) (hi : i < s.size) (a : 128 ≤ (s.get! i).toNat) (h : need (s.get! i).toNat = 0) :
    Calls Tryz.prog 7 #[.string s, .int .i64 i] w fun r w' => r = .returned (.tuple #[.int .i64 (Utf8.decode s i).1, .int .i64 (Utf8.decode s i).2, .bool false]) ∧ Below w.heap.size w w' := by
  rw [dec_bad s i _ rfl a (Or.inl h)]
  have hb : (s.get! i).toNat < 256 := (s.get! i).toNat_lt
  obtain ⟨c0, e0⟩ : ∃ c, (s.get! i).toNat = c := ⟨_, rfl⟩
  rw [e0] at a h hb
  rw [get_bang s i hi] at e0
  have g0 : ((s[i]'hi).toNat : Int) = (c0 : Int) := by rw [e0]
  have hi2 : (i : Int) < (s.size : Int) := by omega
  have t : ¬ (c0 : Int) < 128 := by omega
  have hc : c0 < 192 ∨ 247 < c0 := by
    unfold need at h
    by_cases q : 192 ≤ c0 ∧ c0 ≤ 223
    · rw [if_pos q] at h; omega
    · rw [if_neg q] at h
      by_cases q2 : 224 ≤ c0 ∧ c0 ≤ 239
      · rw [if_pos q2] at h; omega
      · rw [if_neg q2] at h
        by_cases q3 : 240 ≤ c0 ∧ c0 ≤ 247
        · rw [if_pos q3] at h; omega
        · omega
  clear e0 h
  rcases hc with hc | hc
  · have t1 : decide ((c0 : Int) ≥ 192) = false := decide_eq_false (by omega)
    have t2 : decide ((c0 : Int) ≥ 224) = false := decide_eq_false (by omega)
    have t3 : decide ((c0 : Int) ≥ 240) = false := decide_eq_false (by omega)
    go_enter Tryz.func7, Tryz.ntmps7
    go_wp2_with fail
    go_ret3
    exact ⟨rfl, Below.refl _ _⟩
  · have t1 : decide ((c0 : Int) ≥ 192) = true := decide_eq_true (by omega)
    have t2 : decide ((c0 : Int) ≥ 224) = true := decide_eq_true (by omega)
    have t3 : decide ((c0 : Int) ≥ 240) = true := decide_eq_true (by omega)
    have u1 : decide ((c0 : Int) ≤ 223) = false := decide_eq_false (by omega)
    have u2 : decide ((c0 : Int) ≤ 239) = false := decide_eq_false (by omega)
    have u3 : decide ((c0 : Int) ≤ 247) = false := decide_eq_false (by omega)
    go_enter Tryz.func7, Tryz.ntmps7
    go_wp2_with fail
    go_ret3
    exact ⟨rfl, Below.refl _ _⟩
end Go.Proofs.YtkhjcknabkpfgaaGreatDoor
