/- The walks of isDigitB2 and hasByteB2. -/
import Derived.LoopTactic
import Derived.Test.YtkincdcknmdboaaDoorCom
import Derived.Test.YtkincdcknmdboaaDoorSH
namespace Go.Proofs.YtkincdcknmdboaaDoor
open Go Go.RowKit
set_option linter.unusedVariables false
set_option linter.unusedSimpArgs false

theorem digit_yes (c : Int) (h0 : 48 ≤ c) (h1 : c ≤ 57) (w : World) : Calls Tryd.prog 11 #[.int .u8 c] w fun r w' => r = .returned (.bool true) ∧ w = w' := by
  have t1 : decide (c ≥ 48) = true := decide_eq_true h0
  have t2 : decide (c ≤ 57) = true := decide_eq_true h1
  go_enter Tryd.func11, Tryd.ntmps11
  go_wp2_with fail
  go_ret
  exact ⟨rfl, rfl⟩
theorem digit_no (c : Int) (h : c < 48 ∨ 57 < c) (w : World) : Calls Tryd.prog 11 #[.int .u8 c] w fun r w' => r = .returned (.bool false) ∧ w = w' := by
  by_cases h0 : 48 ≤ c
  · have t1 : decide (c ≥ 48) = true := decide_eq_true h0
    have t2 : decide (c ≤ 57) = false := decide_eq_false (by omega)
    go_enter Tryd.func11, Tryd.ntmps11
    go_wp2_with fail
    go_ret
    exact ⟨rfl, rfl⟩
  · have t1 : decide (c ≥ 48) = false := decide_eq_false (by omega)
    go_enter Tryd.func11, Tryd.ntmps11
    go_wp2_with fail
    go_ret
    exact ⟨rfl, rfl⟩

set_option maxRecDepth 100000 in
theorem has_no (s : ByteArray) (hs : s.size ≤ 1000) (h : ∀ i (q : i < s.size), s[i].toNat ≠ 101) (w : World) :
    Calls Tryd.prog 8 #[.string s, .int .u8 101] w fun r w' => r = .returned (.bool false) ∧ w = w' := by
  have H := Lib.hid h
  clear h
  go_enter Tryd.func8, Tryd.ntmps8
  go_wp2
  go_loopw [5] (fun vi wr => ∃ j : Nat, vi = .int .i64 j ∧ j ≤ s.size ∧ w = wr) (fun vi _ => s.size - (intOf vi).toNat)
  case atStart => exact ⟨0, rfl, Nat.zero_le _, rfl⟩
  case round =>
    obtain ⟨j, rfl, hj, rfl⟩ := hrel
    by_cases q : j < s.size
    · have t1 : decide ((j : Int) < (s.size : Int)) = true := decide_eq_true (by omega)
      have t1n : decide (j < s.size) = true := decide_eq_true q
      have t2 : (((s[j]'q).toNat : Int) == 101) = false := by
        rw [beq_eq_false_iff_ne]
        intro e
        exact H.out j q (by omega)
      go_wp2_with fail
      go_roundw
      case rel => exact ⟨j + 1, by go_num, by omega, by trivial⟩
      case measure => simp [intOf]; omega
    · have t1 : decide ((j : Int) < (s.size : Int)) = false := decide_eq_false (by omega)
      have t1n : decide (j < s.size) = false := decide_eq_false q
      go_wp2_with fail
      go_ret
      exact ⟨rfl, rfl⟩

set_option maxRecDepth 100000 in
theorem has_yes (s : ByteArray) (k : Nat) (hs : s.size ≤ 1000) (hk : k < s.size) (h : ∀ i (q : i < s.size), i < k → s[i].toNat ≠ 101) (h1 : (s[k]'hk).toNat = 101) (w : World) :
    Calls Tryd.prog 8 #[.string s, .int .u8 101] w fun r w' => r = .returned (.bool true) ∧ w = w' := by
  have H := Lib.hid h
  have H1 := Lib.hid h1
  clear h h1
  go_enter Tryd.func8, Tryd.ntmps8
  go_wp2
  go_loopw [5] (fun vi wr => ∃ j : Nat, vi = .int .i64 j ∧ j ≤ k ∧ w = wr) (fun vi _ => s.size - (intOf vi).toNat)
  case atStart => exact ⟨0, rfl, Nat.zero_le _, rfl⟩
  case round =>
    obtain ⟨j, rfl, hj, rfl⟩ := hrel
    have q : j < s.size := by omega
    have t1 : decide ((j : Int) < (s.size : Int)) = true := decide_eq_true (by omega)
    have t1n : decide (j < s.size) = true := decide_eq_true q
    by_cases e : j = k
    · subst e
      have t2 : (((s[j]'q).toNat : Int) == 101) = true := by
        rw [beq_iff_eq, H1.out]; rfl
      go_wp2_with fail
      go_ret
      exact ⟨rfl, rfl⟩
    · have t2 : (((s[j]'q).toNat : Int) == 101) = false := by
        rw [beq_eq_false_iff_ne]
        intro e2
        exact H.out j q (by omega) (by omega)
      go_wp2_with fail
      go_roundw
      case rel => exact ⟨j + 1, by go_num, by omega, by trivial⟩
      case measure => simp [intOf]; omega
end Go.Proofs.YtkincdcknmdboaaDoor
