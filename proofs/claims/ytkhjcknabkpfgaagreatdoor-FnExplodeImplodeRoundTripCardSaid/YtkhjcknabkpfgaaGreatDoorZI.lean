/- The walk of ZZfuncImplode. -/
import Derived.LoopTactic
import Derived.Test.YtkhjcknabkpfgaaGreatDoorIP
namespace Go.Proofs.YtkhjcknabkpfgaaGreatDoor
open Go.RowKit
set_option linter.unusedVariables false

set_option maxRecDepth 100000 in
theorem zimplode_any (a : Option Addr) (cap : Nat) (zs : List Int) (w : World) (h : OwnAt w (.slice a zs.length cap) (zs.map (Value.int .i64))) (hm : zs.length ≤ 1048576) :
    Calls Tryz.prog 6 #[.slice a zs.length cap] w fun r w' => r = .returned (.tuple #[.string ⟨(encs zs).toArray⟩, .bool true]) ∧ Below w.heap.size w w' := by
  have hmk := run_make_row' (P := Tryz.prog) 32 20 .nilIface 16 Tryz.underlying32 info_any rfl .i64 .i64 zs.length (by omega) (by omega)
  have hrow0 := Lib.hid ((World.rowIs_made w .nilIface zs.length 20).congr (g := boxF zs 0) fun j hj => by simp [boxF])
  have hb0 := Lib.hid ((Below.refl w.heap.size w).alloc (Nat.le_refl _) (.cells (madeCells #[.nilIface] zs.length) 20))
  have HO := Lib.hid h
  clear h
  go_enter Tryz.func6, Tryz.ntmps6
  go_wp2_with fail
  go_loopw [14] (fun vi wr => ∃ k : Nat, vi = .int .i64 k ∧ k ≤ zs.length ∧ Hid (wr.rowIs w.heap.size 20 zs.length (boxF zs k)) ∧ Hid (Below w.heap.size w wr)) (fun vi _ => zs.length - (intOf vi).toNat)
  case atStart => exact ⟨0, rfl, Nat.zero_le _, hrow0, hb0⟩
  case round =>
    obtain ⟨k, rfl, hk, HR, HB⟩ := hrel
    clear hmk hrow0 hb0
    by_cases hlt : k < zs.length
    · obtain ⟨b, off, rfl, hc⟩ := HO.out.at (by rw [List.length_map]; omega)
      have hc1 := hc k (by rw [List.length_map]; omega)
      have c1 : wr.cell? ⟨b, off + k, none⟩ = some (.int .i64 (zs.getD k 0)) := (HB.out.cell (World.block_lt_of_cell? w _ hc1)).trans (hc1.trans (by simp [List.getD, hlt]))
      clear hc hc1
      have c2 := HR.out.cell hlt
      have c3 := HR.out.frozen k
      have HR2 := Lib.hid (box_step HR.out)
      have HB2 := Lib.hid (HB.out.setCell (p := ⟨w.heap.size, k, none⟩) (Nat.le_refl _) (boxI (zs.getD k 0)))
      unfold boxI at HR2 HB2
      obtain ⟨x, hx⟩ : ∃ x, x = zs.getD k 0 := ⟨_, rfl⟩
      rw [← hx] at c1 HR2 HB2
      clear hx
      go_wp2_with fail
      go_roundw
      case rel => exact ⟨k + 1, by go_num, by omega, HR2, HB2⟩
      case measure => simp [intOf]; omega
    · obtain rfl : k = zs.length := by omega
      have HD := Lib.hid (box_done (by unfold maxLen; omega) HR.out)
      go_wp2_with (go_at_call 11; refine (implode_any _ _ zs _ HD.out hm).mono ?_; rintro r w2 ⟨rfl, B2⟩; have HB2 := Lib.hid B2; clear B2)
      go_ret2
      exact ⟨rfl, HB.out.trans (HB2.out.mono HB.out.size)⟩
end Go.Proofs.YtkhjcknabkpfgaaGreatDoor
