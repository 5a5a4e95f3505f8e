/- The walks of Int.Neg and of negate at the least int. -/
import Derived.Test.YteabecjcjlcolaaGreatDoorBS
import Derived.Deep.QuietTactic
import Derived.BigQuiet
namespace Go.Proofs.YteabecjcjlcolaaGreatDoor
open Go.RowKit
set_option linter.unusedVariables false

set_option maxRecDepth 100000 in
theorem int_neg1 (z b c : Nat) (u : Int) (ng : Bool) (w : World) (hzb : z ≠ b) (hzc : z ≠ c) (hz : w.heap[z]? = some (.cells #[.bool false, .slice none 0 0] 64 (0, 0)))
    (hb : w.heap[b]? = some (.cells #[.bool ng, .slice (some ⟨c, 0, none⟩) 1 1] 64 (0, 0))) (hc : w.heap[c]? = some (.cells #[.int .u64 u] 67 (0, 0))) :
    Calls Tryz.prog 26 #[.pointer (some ⟨z, 0, none⟩), .pointer (some ⟨b, 0, none⟩)] w fun r w' => r = .returned (.pointer (some ⟨z, 0, none⟩)) ∧
      w'.heap[z]? = some (.cells #[.bool (!ng), .slice (some ⟨w.heap.size, 0, none⟩) 1 1] 64 (0, 0)) ∧ w'.heap[w.heap.size]? = some (.cells #[.int .u64 u] 67 (0, 0)) ∧ Below z w w' := by
  have zl : z < w.heap.size := (Array.getElem?_eq_some_iff.1 hz).1
  have HC := Lib.hid (int_set1 z b c u ng w hzb hzc hz hb hc)
  clear hz hb hc
  go_enter Tryz.func26, Tryz.ntmps26
  go_wp2_with (go_at_call 28; refine HC.out.mono ?_; rintro r w1 ⟨rfl, h1, h2, B1⟩; have H1 := Lib.hid h1; have H2 := Lib.hid h2; have HB1 := Lib.hid B1; have c0 : w1.cell? ⟨z, 0, none⟩ = some (.bool ng) := cell_blk h1 0; have c1 : w1.cell? ⟨z, 1, none⟩ = some (.slice (some ⟨w.heap.size, 0, none⟩) 1 1) := cell_blk h1 1; have cf : ∀ j, w1.frozen? ⟨z, j, none⟩ = false := free_blk h1; clear h1 h2 B1)
  go_ret
  exact ⟨rfl, setCell_blk H1.out 0 _, (Below.heap_setCell _ _ _ _ (by show w.heap.size ≠ z; omega)).trans H2.out, HB1.out.setCell (Nat.le_refl _) _⟩

theorem newInt_min (w : World) : Calls Tryz.prog 25 #[.int .i64 (-9223372036854775808)] (w.alloc (.cells #[.bool false, .slice none 0 0] 64)) fun r w' =>
    r = .returned (.pointer (some ⟨w.heap.size + 1 + 1, 0, none⟩)) ∧ w'.heap[w.heap.size]? = some (.cells #[.bool false, .slice none 0 0] 64 (0, 0)) ∧ w'.heap[w.heap.size + 1 + 1]? = some (.cells #[.bool true, .slice (some ⟨w.heap.size + 1, 0, none⟩) 1 1] 64 (0, 0)) ∧
      w'.heap[w.heap.size + 1]? = some (.cells #[.int .u64 9223372036854775808] 67 (0, 0)) ∧ Below w.heap.size w w' := by
  have h := newInt_blk (-9223372036854775808) (w.alloc (.cells #[.bool false, .slice none 0 0] 64)) (by omega) (by omega) (by omega)
  rw [World.size_alloc] at h
  refine h.mono ?_
  rintro r w' ⟨rfl, ⟨h1, h2⟩, hb⟩
  refine ⟨rfl, (hb.block _ (by omega)).trans (heap_alloc_new w _), h1, h2, ((Below.refl _ _).alloc (Nat.le_refl _) _).trans (hb.mono (by omega))⟩

set_option maxRecDepth 100000 in
theorem negate_min (w : World) :
    Calls Tryz.prog 22 #[.int .i64 (-9223372036854775808)] w fun r w' => ∃ z c, r = .returned (.iface 45 (.pointer (some ⟨z, 0, none⟩))) ∧ BigH 9223372036854775808 z c w' ∧ Below w.heap.size w w' := by
  go_enter Tryz.func22, Tryz.ntmps22
  go_wp2_with (first | (go_at_call 25; refine (newInt_min w).mono ?_; rintro r w1 ⟨rfl, h1, h2, h3, B1⟩; have H1 := Lib.hid h1; have H2 := Lib.hid h2; have H3 := Lib.hid h3; have HB1 := Lib.hid B1; clear h1 h2 h3 B1) | (go_at_call 26; refine (int_neg1 w.heap.size (w.heap.size + 1 + 1) (w.heap.size + 1) 9223372036854775808 true _ (by omega) (by omega) H1.out H2.out H3.out).mono ?_; rintro r w2 ⟨rfl, h1, h2, B2⟩; have H4 := Lib.hid h1; have H5 := Lib.hid h2; have HB2 := Lib.hid B2; clear h1 h2 B2))
  go_ret
  exact ⟨_, _, rfl, ⟨H4.out, H5.out⟩, HB1.out.trans HB2.out⟩
end Go.Proofs.YteabecjcjlcolaaGreatDoor
