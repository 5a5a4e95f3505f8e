/- The walks of zzInts and ZZexplode. -/
import Derived.Test.YtkhjcknabkpfgaaGreatDoorEX
namespace Go.Proofs.YtkhjcknabkpfgaaGreatDoor
open Go.RowKit
set_option linter.unusedVariables false

set_option maxRecDepth 100000 in
theorem ints_any (a : Option Addr) (cap n : Nat) (zs : List Int) (w : World) (hn : zs.length = n) (hm : n ≤ 1048576) (h : OwnAt w (.slice a n cap) (zs.map boxI)) :
    Calls Tryz.prog 9 #[.iface 32 (.slice a n cap)] w fun r w' => ∃ a' c', r = .returned (.tuple #[.slice a' n c', .bool true]) ∧ OwnAt w' (.slice a' n c') (zs.map (Value.int .i64)) ∧ Below w.heap.size w w' := by
  have H1 := Lib.hid h
  have HLN := Lib.hid hn
  clear h hn
  have hmk := run_make_row' (P := Tryz.prog) 23 3 (.int .i64 0) 8 Tryz.underlying23 info_int rfl .i64 .i64 n (by omega) (by omega)
  have HRW : Hid (∀ w : World, (w.alloc (.cells (madeCells #[.int .i64 0] n) 3)).rowIs w.heap.size 3 n (cloneF zs 0)) := Lib.hid fun w => (World.rowIs_made w (.int .i64 0) n 3).congr fun j hj => by simp [cloneF]
  go_enter Tryz.func9, Tryz.ntmps9
  go_wp2_with fail
  go_loopw [23] (fun vi wr => ∃ k : Nat, vi = .int .i64 k ∧ k ≤ n ∧ Hid (wr.rowIs w.heap.size 3 n (cloneF zs k)) ∧ Hid (Below w.heap.size w wr)) (fun vi _ => n - (intOf vi).toNat)
  case atStart => exact ⟨0, rfl, Nat.zero_le _, Lib.hid (HRW.out w), Lib.hid ((Below.refl _ _).alloc (Nat.le_refl _) _)⟩
  case round =>
    obtain ⟨k, rfl, hk, HR, HB⟩ := hrel
    clear hmk
    by_cases hlt : k < n
    · have hl := HLN.out
      obtain ⟨b, off, rfl, hc⟩ := H1.out.at (by rw [List.length_map]; omega)
      have hc1 := hc k (by rw [List.length_map]; omega)
      have hlt' : k < zs.length := by omega
      have c1 : wr.cell? ⟨b, off + k, none⟩ = some (.iface 3 (.int .i64 (zs.getD k 0))) := (HB.out.cell (World.block_lt_of_cell? w _ hc1)).trans (hc1.trans (by simp [List.getD, hlt', boxI]))
      clear hc hc1 hl hlt'
      have c2 := HR.out.cell hlt
      have c3 := HR.out.frozen k
      have HR2 := Lib.hid (clone_step HR.out)
      have HB2 := Lib.hid (HB.out.setCell (p := ⟨w.heap.size, k, none⟩) (Nat.le_refl _) (.int .i64 (zs.getD k 0)))
      obtain ⟨x, hx⟩ : ∃ x, x = zs.getD k 0 := ⟨_, rfl⟩
      rw [← hx] at c1 HR2 HB2
      clear hx
      go_wp2_with fail
      go_roundw
      case rel => exact ⟨k + 1, by go_num, by omega, HR2, HB2⟩
      case measure => simp [intOf]; omega
    · obtain rfl : k = n := by omega
      have hl := HLN.out
      subst hl
      have HD := Lib.hid (clone_done (by unfold maxLen; omega) HR.out)
      go_wp2_with fail
      go_ret2
      exact ⟨_, _, rfl, HD.out, HB.out⟩

set_option maxRecDepth 100000 in
theorem zexplode_any (s : ByteArray) (w : World) (hs : s.size ≤ 1048576) (n : Nat) (hn : runeLen s = n) (hm : n ≤ 1048576) :
    Calls Tryz.prog 5 #[.string s] w fun r w' => ∃ a cap, r = .returned (.slice a n cap) ∧ OwnAt w' (.slice a n cap) ((runeInts s).map (Value.int .i64)) ∧ Below w.heap.size w w' := by
  have HE := Lib.hid (fun w => explode_any s w hs)
  have hln := runeInts_len s
  rw [hn] at HE hln
  have HI := Lib.hid (fun a cap w h => ints_any a cap n (runeInts s) w hln hm h)
  generalize runeInts s = zs at HE HI
  clear hn hln
  go_enter Tryz.func5, Tryz.ntmps5
  go_wp2_with (first | (go_at_call 10; refine (HE.out _).mono ?_; rintro r w1 ⟨a1, c1, rfl, h1, B1⟩; have H1 := Lib.hid h1; have HB1 := Lib.hid B1; clear h1 B1) | (go_at_call 9; refine (HI.out _ _ _ H1.out).mono ?_; rintro r w2 ⟨a2, c2, rfl, h2, B2⟩; have H2 := Lib.hid h2; have HB2 := Lib.hid B2; clear h2 B2))
  go_ret
  exact ⟨_, _, rfl, H2.out, HB1.out.trans (HB2.out.mono HB1.out.size)⟩
end Go.Proofs.YtkhjcknabkpfgaaGreatDoor
