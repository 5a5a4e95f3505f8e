/- The walk of convertWords at one word and base ten. -/
import Derived.Test.YteabecjcjlcolaaGreatDoorDV
import Derived.Test.YteabecjcjlcolaaGreatDoorCD
import Derived.Deep.OwnRows
namespace Go.Proofs.YteabecjcjlcolaaGreatDoor
open Go.RowKit
set_option linter.unusedVariables false

def lenOf : Value → Nat | .slice _ n _ => n | _ => 0

set_option maxRecDepth 100000 in
theorem convertWords_one (g sb p I u : Nat) (stk : Value) (f0 : Nat → Value) (w : World) (hg : w.heap[g]? = some (.cells #[.int .u64 (u : Int)] 67 (0, 0))) (hs : w.rowIs sb 5 I f0) (hsp : sb < p) (hpg : p < g) (u1 : u < 10000000000000000000) (hI : u < 10 ^ I) (hI2 : I ≤ 30) :
    Calls Tryz.prog 38 #[.slice (some ⟨g, 0, none⟩) 1 1, stk, .slice (some ⟨sb, 0, none⟩) I I, .int .u64 10, .int .i64 19, .int .u64 10000000000000000000, .slice none 0 0] w fun r w' => r = .returned (.tuple #[]) ∧ (∃ f, w'.rowIs sb 5 I f ∧ CW I u 0 0 f) ∧ w'.heap[p]? = w.heap[p]? ∧ Below sb w w' := by
  have hsg : sb < g := by omega
  have gl : g < w.heap.size := (Array.getElem?_eq_some_iff.1 hg).1
  have HG := Lib.hid hg
  have HS := Lib.hid hs
  clear hg hs
  go_enter Tryz.func38, Tryz.ntmps38
  go_wp2_with fail
  go_loopw [0, 19, 20] (fun vq vi vr wr => (vq = .slice (some ⟨g, 0, none⟩) 1 1 ∧ vi = .int .i64 I ∧ wr = w) ∨ (∃ (i : Nat) (f : Nat → Value), vq = .slice (some ⟨g, 0, none⟩) 0 1 ∧ vi = .int .i64 i ∧ i ≤ I ∧ Hid (wr.rowIs sb 5 I f) ∧ Hid (CW I u i 0 f) ∧ Hid (wr.heap[p]? = w.heap[p]?) ∧ Hid (Below sb w wr))) (fun vq _ _ _ => lenOf vq)
  case atStart => exact Or.inl ⟨rfl, rfl, rfl⟩
  case round =>
    rcases hrel with ⟨rfl, rfl, hw⟩ | ⟨i, f, rfl, rfl, hi, HR, HC, HP, HB⟩
    · have hw2 := hw.symm
      subst hw2
      go_wp2_with (go_at_call 51; refine (divW_one g u _ HG.out (by omega) (by omega)).mono ?_; rintro r w2 ⟨rfl, B2⟩; have HB2 := Lib.hid B2; have HP2 := Lib.hid (B2.block p hpg); clear B2)
      have HS2 := Lib.hid (HS.out.of_block (HB2.out.block sb hsg))
      go_loopw [19, 20, 21] (fun vi vr vj wr => ∃ (i r j : Nat) (f : Nat → Value), vi = .int .i64 i ∧ vr = .int .u64 (r : Int) ∧ vj = .int .i64 j ∧ i ≤ I ∧ j ≤ 19 ∧ r < 10000000000000000000 ∧ Hid (r < 10 ^ (19 - j)) ∧ Hid (wr.rowIs sb 5 I f) ∧ Hid (CW I u i r f) ∧ Hid (wr.heap[p]? = w.heap[p]?) ∧ Hid (Below sb w wr)) (fun _ _ vj _ => 19 - (intOf vj).toNat)
      case atStart => exact ⟨I, u, 0, f0, rfl, rfl, rfl, by omega, by omega, u1, Lib.hid u1, HS2, Lib.hid (cw_start I u f0 hI), HP2, Lib.hid (HB2.out.mono (by omega))⟩
      case round =>
        obtain ⟨i, r, j, f, rfl, rfl, rfl, hi, hj, hr, H19, HR, HC, HP, HB⟩ := hrel
        by_cases hj2 : j < 19
        · by_cases hi2 : 0 < i
          · obtain ⟨m, rfl⟩ : ∃ m, i = m + 1 := ⟨i - 1, by omega⟩
            have c2 := HR.out.cell (show m < I by omega)
            have c3 := HR.out.frozen m
            have H20 : Hid (r / 10 < 10 ^ (19 - (j + 1))) := Lib.hid (by
              have h := H19.out
              rw [show 19 - j = (19 - (j + 1)) + 1 by omega, Nat.pow_succ] at h
              exact Nat.div_lt_of_lt_mul (by rw [Nat.mul_comm]; exact h))
            go_wp2_with fail
            go_roundw
            case rel => exact ⟨m, r / 10, j + 1, _, by go_num, by simp, by go_num, by omega, by omega, by omega, H20, Lib.hid (HR.out.set m _), Lib.hid (cw_step HC.out _ (by omega)), Lib.hid ((Below.heap_setCell _ _ _ _ (by show p ≠ sb; omega)).trans HP.out), Lib.hid (HB.out.setCell (p := ⟨sb, m, none⟩) (Nat.le_refl _) _)⟩
            case measure => simp [intOf]; omega
          · obtain rfl : i = 0 := by omega
            have h0 := cw_nought HC.out
            subst h0
            go_wp2_with fail
            go_roundw
            case rel => exact Or.inr ⟨0, f, rfl, rfl, by omega, HR, HC, HP, HB⟩
            case measure => simp [lenOf]
        · obtain rfl : j = 19 := by omega
          have h0 : r = 0 := by have := H19.out; simpa using this
          subst h0
          go_wp2_with fail
          go_roundw
          case rel => exact Or.inr ⟨i, f, rfl, rfl, hi, HR, HC, HP, HB⟩
          case measure => simp [lenOf]
    · go_wp2_with fail
      go_loopw [19] (fun vi wr => ∃ (i : Nat) (f : Nat → Value), vi = .int .i64 i ∧ i ≤ I ∧ Hid (wr.rowIs sb 5 I f) ∧ Hid (CW I u i 0 f) ∧ Hid (wr.heap[p]? = w.heap[p]?) ∧ Hid (Below sb w wr)) (fun vi _ => (intOf vi).toNat)
      case atStart => exact ⟨i, f, rfl, hi, HR, HC, HP, HB⟩
      case round =>
        clear HR HC HP HB
        obtain ⟨i, f, rfl, hi, HR, HC, HP, HB⟩ := hrel
        by_cases hi2 : 0 < i
        · obtain ⟨m, rfl⟩ : ∃ m, i = m + 1 := ⟨i - 1, by omega⟩
          have c2 := HR.out.cell (show m < I by omega)
          have c3 := HR.out.frozen m
          go_wp2_with fail
          go_roundw
          case rel => exact ⟨m, _, by go_num, by omega, Lib.hid (HR.out.set m _), Lib.hid (cw_step HC.out _ (by simp)), Lib.hid ((Below.heap_setCell _ _ _ _ (by show p ≠ sb; omega)).trans HP.out), Lib.hid (HB.out.setCell (p := ⟨sb, m, none⟩) (Nat.le_refl _) _)⟩
          case measure => simp [intOf]
        · obtain rfl : i = 0 := by omega
          go_wp2_with fail
          go_end0
          exact ⟨rfl, ⟨f, HR.out, HC.out⟩, HP.out, HB.out⟩
end Go.Proofs.YteabecjcjlcolaaGreatDoor
