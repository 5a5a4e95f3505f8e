/- plus of a big.Int made of an int, as text. -/
import Derived.Test.YteabecjcjlcolaaGreatDoorPL
import Derived.LaidEql
import Derived.Lib.SlBytesConst
namespace Go.Proofs.YteabecjcjlcolaaGreatDoor
open Go.RowKit
set_option linter.unusedVariables false

set_option maxRecDepth 100000 in
theorem itoa_nought (w : World) :
    Calls Tryz.prog 29 #[.slice none 0 0, .bool false, .int .i64 10] w fun r w' => ∃ v, r = .returned v ∧ TextAt (itoaL 0) v w' ∧ Below w.heap.size w w' := by
  have hcv := Lib.run_convert_bytes_const (P := Tryz.prog) w 43 5 #[.int .u8 48] 1 1 Tryz.underlying43 Tryz.underlying5
  go_enter_defers Tryz.func29, Tryz.ntmps29
  go_wp2_with fail
  refine ⟨_, results_tmp rfl _ _ _, _, rfl, ⟨w.heap.size, 0, 1, rfl, ?_⟩, (Below.refl _ _).alloc (Nat.le_refl _) _⟩
  intro j hj
  match j, hj with
  | 0, _ =>
    have h := heap_alloc_new w (.cells #[.int .u8 48] 5 (1, 2))
    show World.cell? _ ⟨w.heap.size, 0, none⟩ = _
    unfold World.cell?
    rw [h]
    rfl

set_option maxRecDepth 100000 in
theorem text_nought (a : Nat) (w : World) (c0 : w.cell? ⟨a, 0, none⟩ = some (.bool false)) (c1 : w.cell? ⟨a, 1, none⟩ = some (.slice none 0 0)) :
    Calls Tryz.prog 27 #[.pointer (some ⟨a, 0, none⟩), .int .i64 10] w fun r w' => r = .returned (.string (itoaB 0)) ∧ Below w.heap.size w w' := by
  go_enter Tryz.func27, Tryz.ntmps27
  go_wp2_with fail
  go_still_tail 9, (by kernel_rfl)
  change wpList _ _ _ _ _ w.drew
  go_wp2_with (go_at_call 29; refine (itoa_nought w.drew).mono ?_; rintro r w2 ⟨v, rfl, hv, B2⟩; have hcv := conv_text w2 (itoaL 0) v hv; have HB2 := Lib.hid B2; clear B2 hv)
  go_ret
  exact ⟨rfl, (Below.refl w.heap.size w).drew.trans HB2.out⟩

set_option maxRecDepth 100000 in
theorem string_nought (a : Nat) (w : World) (c0 : w.cell? ⟨a, 0, none⟩ = some (.bool false)) (c1 : w.cell? ⟨a, 1, none⟩ = some (.slice none 0 0)) :
    Calls Tryz.prog 23 #[.pointer (some ⟨a, 0, none⟩)] w fun r w' => r = .returned (.string (itoaB 0)) ∧ Below w.heap.size w w' := by
  have HT := Lib.hid (text_nought a w c0 c1)
  clear c0 c1
  go_enter Tryz.func23, Tryz.ntmps23
  go_wp2_with (go_at_call 27; refine HT.out.mono ?_; rintro r w2 ⟨rfl, B2⟩; have HB2 := Lib.hid B2; clear B2)
  go_ret
  exact ⟨rfl, HB2.out⟩

/-- The text of a big.Int that NewInt made, behind one and the same contract. -/
theorem newInt_text (n : Int) (w : World) (h0 : -9223372036854775808 ≤ n) (h1 : n ≤ 9223372036854775807) (hl : w.cell? ⟨1, 0, none⟩ = some (.int .i64 8)) :
    Calls Tryz.prog 25 #[.int .i64 n] w fun r w2 => ∃ a, r = .returned (.pointer (some ⟨a, 0, none⟩)) ∧ Below w.heap.size w w2 ∧
      Calls Tryz.prog 23 #[.pointer (some ⟨a, 0, none⟩)] w2 fun r w' => r = .returned (.string (itoaB n)) ∧ Below w2.heap.size w2 w' := by
  have l1 : 1 < w.heap.size := World.block_lt_of_cell? w _ hl
  by_cases hz : n = 0
  · refine (newInt_any n w h0 h1).mono ?_
    rintro r w2 ⟨a, rfl, ⟨b1, b2⟩, B2⟩
    rcases b2 with ⟨_, b2⟩ | ⟨c, _⟩
    · subst hz
      exact ⟨a, rfl, B2, string_nought a w2 b1 b2⟩
    · exact absurd hz c
  · refine (newInt_blk n w h0 h1 hz).mono ?_
    rintro r w2 ⟨rfl, H, B2⟩
    exact ⟨_, rfl, B2, string_big n _ _ w2 H hz (by omega) ((World.cell?_of_block (B2.block _ l1)).trans hl)⟩

theorem eq_ptr (a : Addr) (w : World) : (binOp .neq 45 (.pointer (some a)) (.pointer (some a))).run Tryz.prog w = .ok (.bool false) w := by
  obtain ⟨j, hj, hs⟩ : ∃ j, Tryz.prog.info? 64 = some j ∧ j.size = 2 := by
    have : (Tryz.prog.info? 64).map (·.size) = some 2 := by kernel_rfl
    obtain ⟨j, hj, hs⟩ := Option.map_eq_some_iff.1 this
    exact ⟨j, hj, hs⟩
  have hd : ∀ d : Nat, (Op.equalIn (d + 1) 45 (.pointer (some a)) (.pointer (some a))).run Tryz.prog w = .ok true w := fun d => by
    simp [Op.equalIn, run_underlying Tryz.underlying45, sizeOf, typeInfo, hj, run_sameAddr_same]
  simp only [binOp]
  simp [Op.equal, Op.maxDepth, hd 9999]

set_option maxRecDepth 100000 in
theorem zplus_big (n : Int) (w : World) (h0 : -9223372036854775808 ≤ n) (h1 : n ≤ 9223372036854775807) (hl : w.cell? ⟨1, 0, none⟩ = some (.int .i64 8)) :
    Calls Tryz.prog 16 #[.int .i64 n] w fun r w' => r = .returned (.tuple #[.string (itoaB n), .bool true]) ∧ Below w.heap.size w w' := by
  have HN := Lib.hid (newInt_text n w h0 h1 hl)
  have hep := eq_ptr
  clear hl
  go_enter Tryz.func16, Tryz.ntmps16
  go_wp2_with (first | (go_at_call 25; refine HN.out.mono ?_; rintro r w2 ⟨a, rfl, B2, S2⟩; have HB2 := Lib.hid B2; have HS2 := Lib.hid S2; clear B2 S2) | (go_at_call 24; refine (plus_big _ _).mono ?_; rintro r w3 ⟨rfl, rfl⟩) | (go_at_call 23; refine HS2.out.mono ?_; rintro r w4 ⟨rfl, B4⟩; have HB4 := Lib.hid B4; clear B4))
  go_ret2
  exact ⟨rfl, HB2.out.trans (HB4.out.mono HB2.out.size)⟩
end Go.Proofs.YteabecjcjlcolaaGreatDoor
