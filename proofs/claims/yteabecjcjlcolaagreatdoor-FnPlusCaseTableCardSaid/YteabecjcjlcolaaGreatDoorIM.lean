/- The walk of itoa at one word and base ten, with a sign. -/
import Derived.Test.YteabecjcjlcolaaGreatDoorIT
namespace Go.Proofs.YteabecjcjlcolaaGreatDoor
open Go.RowKit
set_option linter.unusedVariables false

set_option maxRecDepth 100000 in
theorem itoa_one_neg (c u : Nat) (w : World) (hc : w.heap[c]? = some (.cells #[.int .u64 (u : Int)] 67 (0, 0))) (u0 : 0 < u) (u1 : u < 10000000000000000000) (hl : w.cell? ⟨1, 0, none⟩ = some (.int .i64 8)) :
    Calls Tryz.prog 29 #[.slice (some ⟨c, 0, none⟩) 1 1, .bool true, .int .i64 10] w fun r w' => ∃ v, r = .returned v ∧ TextAt (45 :: digs u) v w' ∧ Below w.heap.size w w' := by
  have cl : c < w.heap.size := (Array.getElem?_eq_some_iff.1 hc).1
  have c0 : w.cell? ⟨c, 0, none⟩ = some (.int .u64 (u : Int)) := cell_blk hc 0
  have HC := Lib.hid hc
  have l1 : 1 < w.heap.size := World.block_lt_of_cell? w _ hl
  have HL := Lib.hid hl
  clear hc hl
  have h10 : floatOfInt .f64 10 = 4621819117588971520 := by decide +kernel
  have hA := and_ten
  have hun := Tryz.underlying43
  go_enter_defers Tryz.func29, Tryz.ntmps29
  go_wp2_with (first | (go_at_call 31; refine (nat_bitLen c u _ c0 (by omega) (by omega)).mono ?_; rintro r w2 ⟨L, rfl, hL1, hL2, hL3, rfl⟩; obtain ⟨q, I, hq, hn, hI0, hI1, hI2⟩ := itoa_room L hL2; have hqq := fun (w : World) (t : TypeId) => run_float_arith (P := Tryz.prog) w .quo t .f64 _ _ q hq; have hnn := fun (w : World) => run_convert_float_int (P := Tryz.prog) w 29 3 .f64 .i64 q _ (by kernel_rfl) Tryz.underlying3 hn; have hmk := run_make_row' (P := Tryz.prog) 43 5 (.int .u8 0) 1 Tryz.underlying43 info_u8 rfl .i64 .i64 (I + 1) (by omega) (by omega); simp only [Int.natCast_add, Int.cast_ofNat_Int] at hmk) | (go_at_call 32; refine (log2_ten _).mono ?_; rintro r w2 ⟨rfl, rfl⟩) | (go_at_call 34; refine (getStack_row w (I + 1)).mono ?_; rintro r w3 ⟨rfl, r3, B3, p3, h3s⟩; have HR := Lib.hid r3; have HB3 := Lib.hid B3; have HP3 := Lib.hid p3; clear r3 B3 p3) | (go_at_call 36; refine (maxPow_ten _).mono ?_; rintro r w2 ⟨rfl, rfl⟩) | (go_at_call 37; refine (divisors_one _ _ _ _ w3 ((World.cell?_of_block (HB3.out.block 1 l1)).trans HL.out)).mono ?_; rintro r w4 ⟨rfl, B4⟩; have HB4 := Lib.hid B4; have c4 : w4.cell? ⟨c, 0, none⟩ = some (.int .u64 (u : Int)) := cell_blk ((B4.block c (by omega)).trans ((HB3.out.block c cl).trans HC.out)) 0; clear B4) | (go_at_call 30; refine (nat_set1 c u w4 c4).mono ?_; rintro r w5 ⟨rfl, e⟩; have HG5 := Lib.hid (show w5.heap[w4.heap.size]? = some (.cells #[.int .u64 (u : Int)] 67 (0, 0)) from e ▸ heap_alloc_new w4 _); have HB5 := Lib.hid (show Below w4.heap.size w4 w5 from e ▸ (Below.refl _ _).alloc (Nat.le_refl _) _); clear e) | (go_at_call 38; refine (convertWords_one w4.heap.size w.heap.size (w.heap.size + 1) (I + 1) u _ (fun _ => .int .u8 0) w5 HG5.out (HR.out.of_block ((HB5.out.block _ (by have := HB4.out.size; omega)).trans (HB4.out.block _ (by omega)))) (by omega) (by have := HB4.out.size; omega) u1 (by rw [Nat.pow_succ]; omega) (by omega)).mono ?_; rintro r w6 ⟨rfl, ⟨f6, r6, cw6⟩, p6, B6⟩; have HR6 := Lib.hid r6; have HCW := Lib.hid cw6; have HP6 := Lib.hid (p6.trans ((HB5.out.block _ (by have := HB4.out.size; omega)).trans ((HB4.out.block _ (by omega)).trans HP3.out))); have HB6 := Lib.hid (HB3.out.trans ((HB4.out.mono (by omega)).trans ((HB5.out.mono (by have := HB4.out.size; omega)).trans B6))); clear r6 cw6 p6 B6))
  obtain ⟨z, hz, hz0, hz1⟩ := cw_end HCW.out
  have hD : dgo (I + 1) u [] = digs u := by
    unfold digs
    rw [if_neg (by omega)]
    exact (dgo_more (I + 1) u [] (by rw [Nat.pow_succ]; omega) 24 (by omega)).symm
  rw [hD] at hz hz1
  have hll : (digs u).length ≤ I := by
    have h := dgo_len I u [] (by omega)
    rw [← dgo_more I u [] (by omega) (I + 1) (by omega), hD] at h
    simpa using h
  obtain ⟨d0, D', hd0, hd1, hd2⟩ := digs_head u u0 (by omega)
  have hlen : 0 < (digs u).length := by rw [hd0]; simp
  go_loopw [7] (fun vi wr => ∃ k : Nat, vi = .int .i64 k ∧ k ≤ z ∧ w6 = wr) (fun vi _ => z - (intOf vi).toNat)
  case atStart => exact ⟨0, rfl, Nat.zero_le _, rfl⟩
  case round =>
    obtain ⟨k, rfl, hk, rfl⟩ := hrel
    have c2 := HR6.out.cell (show k < I + 1 by omega)
    by_cases hkz : k < z
    · rw [hz0 k hkz] at c2
      go_wp2_with fail
      go_roundw
      case rel => exact ⟨k + 1, by go_num, by omega, trivial⟩
      case measure => simp [intOf]; exact Nat.sub_lt_sub_left hkz (Nat.lt_succ_self k)
    · obtain rfl : k = z := by omega
      have h0 := hz1 0 hlen
      have e0 : (digs u).getD 0 0 = d0 := by rw [hd0]; rfl
      rw [e0, Nat.add_zero] at h0
      rw [h0] at c2
      have hne : ¬ ((d0.toNat : Int) = 48) := by omega
      obtain ⟨m, rfl⟩ : ∃ m, k = m + 1 := ⟨k - 1, by omega⟩
      have c3 := HR6.out.frozen m
      have c4 := HR6.out.cell (show m < I + 1 by omega)
      go_wp2_with fail
      refine leaves_cons (f := 35) (args := #[.pointer (some ⟨w.heap.size + 1, 0, none⟩)]) (by simp) (by simp [go_sem]) ?_
      refine (free_deferred (w.heap.size + 1) .returning _ (cell_blk ((Below.heap_setCell _ _ _ _ (by show w.heap.size + 1 ≠ w.heap.size; omega)).trans HP6.out) 0)).mono ?_
      rintro e u' w'' ⟨rfl, rfl, rfl⟩
      have HS := HR6.out.set m (.int .u8 45)
      refine ⟨_, results_tmp rfl _ _ _, _, rfl, ⟨w.heap.size, m, I + 1 - m, ?_, ?_⟩, HB6.out.setCell (p := ⟨w.heap.size, m, none⟩) (Nat.le_refl _) _⟩
      · rw [show (45 :: digs u).length = I + 1 - m by simp; omega]; rfl
      · intro j hj
        rw [HS.cell (show m + j < I + 1 by simp at hj; omega)]
        cases j with
        | zero => simp
        | succ j =>
          simp only [List.length_cons] at hj
          rw [if_neg (by omega), show m + (j + 1) = m + 1 + j by omega, hz1 j (by omega)]
          rfl
end Go.Proofs.YteabecjcjlcolaaGreatDoor
