/- The walk of String on a big.Int of one word. -/
import Derived.Test.YteabecjcjlcolaaGreatDoorIM
import Derived.StillTailTactics
namespace Go.Proofs.YteabecjcjlcolaaGreatDoor
open Go.RowKit
set_option linter.unusedVariables false

theorem conv_text (w : World) (D : List UInt8) (v : Value) (h : TextAt D v w) : (convert 43 9 v).run Tryz.prog w = .ok (.string (strOf D)) w := by
  obtain ⟨b, i, cap, rfl, hc⟩ := h
  exact conv_row w _ _ 5 b i D cap Tryz.underlying43 Tryz.underlying5 Tryz.underlying9 hc

theorem itoa_big (n : Int) (c : Nat) (w : World) (hc : w.heap[c]? = some (.cells #[.int .u64 (if n < 0 then -n else n)] 67 (0, 0))) (n0 : n ≠ 0) (n1 : n.natAbs < 10000000000000000000) (hl : w.cell? ⟨1, 0, none⟩ = some (.int .i64 8)) :
    Calls Tryz.prog 29 #[.slice (some ⟨c, 0, none⟩) 1 1, .bool (decide (n < 0)), .int .i64 10] w fun r w' => ∃ v, r = .returned v ∧ TextAt (itoaL n) v w' ∧ Below w.heap.size w w' := by
  by_cases h : n < 0
  · have e : itoaL n = 45 :: digs n.natAbs := by unfold itoaL; rw [if_pos h]
    rw [e, decide_eq_true h]
    refine itoa_one_neg c n.natAbs w ?_ (by omega) n1 hl
    rw [hc, if_pos h, show (n.natAbs : Int) = -n by omega]
  · have e : itoaL n = digs n.natAbs := by unfold itoaL; rw [if_neg h]
    rw [e, decide_eq_false h]
    refine itoa_one_pos c n.natAbs w ?_ (by omega) n1 hl
    rw [hc, if_neg h, show (n.natAbs : Int) = n by omega]

set_option maxRecDepth 100000 in
theorem text_big (n : Int) (a c : Nat) (w : World) (h : BigH n a c w) (n0 : n ≠ 0) (n1 : n.natAbs < 10000000000000000000) (hl : w.cell? ⟨1, 0, none⟩ = some (.int .i64 8)) :
    Calls Tryz.prog 27 #[.pointer (some ⟨a, 0, none⟩), .int .i64 10] w fun r w' => r = .returned (.string (itoaB n)) ∧ Below w.heap.size w w' := by
  obtain ⟨h1, h2⟩ := h
  have c0 : w.cell? ⟨a, 0, none⟩ = some (.bool (decide (n < 0))) := cell_blk h1 0
  have c1 : w.cell? ⟨a, 1, none⟩ = some (.slice (some ⟨c, 0, none⟩) 1 1) := cell_blk h1 1
  have HI := Lib.hid (itoa_big n c w.drew h2 n0 n1 hl)
  clear h1 h2 hl
  generalize decide (n < 0) = ng at c0 HI
  go_enter Tryz.func27, Tryz.ntmps27
  go_wp2_with fail
  go_still_tail 9, (by kernel_rfl)
  change wpList _ _ _ _ _ w.drew
  go_wp2_with (go_at_call 29; refine HI.out.mono ?_; rintro r w2 ⟨v, rfl, hv, B2⟩; have hcv := conv_text w2 (itoaL n) v hv; have HB2 := Lib.hid B2; clear B2 hv)
  go_ret
  exact ⟨rfl, (Below.refl w.heap.size w).drew.trans HB2.out⟩

set_option maxRecDepth 100000 in
theorem string_big (n : Int) (a c : Nat) (w : World) (h : BigH n a c w) (n0 : n ≠ 0) (n1 : n.natAbs < 10000000000000000000) (hl : w.cell? ⟨1, 0, none⟩ = some (.int .i64 8)) :
    Calls Tryz.prog 23 #[.pointer (some ⟨a, 0, none⟩)] w fun r w' => r = .returned (.string (itoaB n)) ∧ Below w.heap.size w w' := by
  have HT := Lib.hid (text_big n a c w h n0 n1 hl)
  clear h hl
  go_enter Tryz.func23, Tryz.ntmps23
  go_wp2_with (go_at_call 27; refine HT.out.mono ?_; rintro r w2 ⟨rfl, B2⟩; have HB2 := Lib.hid B2; clear B2)
  go_ret
  exact ⟨rfl, HB2.out⟩
end Go.Proofs.YteabecjcjlcolaaGreatDoor
