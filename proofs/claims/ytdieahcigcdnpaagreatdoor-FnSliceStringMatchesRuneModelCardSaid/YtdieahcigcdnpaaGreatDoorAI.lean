/- The walks of zzAnyInts, of zzIntsAny and of ZZsliceInts. -/
import Derived.LoopTactic
import Derived.Test.YtdieahcigcdnpaaGreatDoorCL
import Derived.Test.YtdieahcigcdnpaaGreatDoorSL1
namespace Go.Proofs.YtdieahcigcdnpaaGreatDoor
open Go.RowKit
set_option linter.unusedVariables false

theorem info_any : (Tryz.prog.info? 20).map (fun i => (i.zero, i.size, i.bytes)) = some (some .nilIface, 1, 16) := by kernel_rfl

def boxI (n : Int) : Value := .iface 3 (.int .i64 n)
def boxF (zs : List Int) (k : Nat) (j : Nat) : Value := if j < k then boxI (zs.getD j 0) else .nilIface

theorem box_step {w : World} {b t n k : Nat} {zs : List Int} (h : w.rowIs b t n (boxF zs k)) : (w.setCell ⟨b, k, none⟩ (boxI (zs.getD k 0))).rowIs b t n (boxF zs (k + 1)) := by
  refine (h.set k _).congr fun j hj => ?_
  unfold boxF
  by_cases e : j = k
  · subst e; simp
  · simp only [if_neg e]
    by_cases l : j < k
    · rw [if_pos l, if_pos (by omega)]
    · rw [if_neg l, if_neg (by omega)]

theorem box_done {w : World} {b t : Nat} {zs : List Int} (hm : zs.length ≤ maxLen) (h : w.rowIs b t zs.length (boxF zs zs.length)) : OwnAt w (.slice (some ⟨b, 0, none⟩) zs.length zs.length) (zs.map boxI) := by
  refine OwnAt.of_row h (by simp) hm fun j hj => ?_
  unfold boxF
  rw [if_pos hj]
  simp [List.getD, hj]

set_option maxRecDepth 100000 in
theorem any_ints (v : Value) (zs : List Int) (w : World) (h : OwnAt w v (zs.map (Value.int .i64))) (hm : zs.length ≤ 131072) :
    Calls Tryz.prog 22 #[v] w fun r w' => ∃ v', r = .returned v' ∧ OwnAt w' v' (zs.map boxI) ∧ Below w.heap.size w w' := by
  have hnil := fun (w : World) (a : Option Addr) (n c : Nat) => Lib.run_eql_slice_nil (P := Tryz.prog) w 28 3 a n c 0 0 Tryz.underlying28
  rcases h with ⟨rfl, h0⟩ | ⟨b, off, cap, rfl, h2, h3, h4⟩
  · obtain rfl : zs = [] := by simpa using h0
    go_enter Tryz.func22, Tryz.ntmps22
    go_wp2
    go_ret
    exact ⟨_, rfl, Or.inl ⟨rfl, rfl⟩, Below.refl _ _⟩
  · rw [List.length_map] at h2 h4
    rw [List.length_map]
    have hmk := run_make_row' (P := Tryz.prog) 40 20 .nilIface 16 Tryz.underlying40 info_any rfl .i64 .i64 zs.length (by omega) (by omega)
    have hrow0 := Lib.hid ((World.rowIs_made w .nilIface zs.length 20).congr (g := boxF zs 0) fun j hj => by simp [boxF])
    have hb0 := Lib.hid ((Below.refl w.heap.size w).alloc (Nat.le_refl _) (.cells (madeCells #[.nilIface] zs.length) 20))
    have hcH : Hid (∀ j, j < zs.length → w.cell? ⟨b, off + j, none⟩ = some (.int .i64 (zs.getD j 0))) := Lib.hid fun j hj => by rw [h4 j hj]; simp [List.getD, hj]
    clear h4
    go_enter Tryz.func22, Tryz.ntmps22
    go_wp2
    go_loopw [13] (fun vi wr => ∃ k : Nat, vi = .int .i64 k ∧ k ≤ zs.length ∧ Hid (wr.rowIs w.heap.size 20 zs.length (boxF zs k)) ∧ Hid (Below w.heap.size w wr)) (fun vi _ => zs.length - (intOf vi).toNat)
    case atStart => exact ⟨0, rfl, Nat.zero_le _, hrow0, hb0⟩
    case round =>
      obtain ⟨k, rfl, hk, HR, HB⟩ := hrel
      clear hmk hrow0 hb0
      by_cases hlt : k < zs.length
      · have c1 : wr.cell? ⟨b, off + k, none⟩ = some (.int .i64 (zs.getD k 0)) := (HB.out.cell (World.block_lt_of_cell? w _ (hcH.out k hlt))).trans (hcH.out k hlt)
        have c2 := HR.out.cell hlt
        have c3 := HR.out.frozen k
        have HR2 := Lib.hid (box_step HR.out)
        have HB2 := Lib.hid (HB.out.setCell (p := ⟨w.heap.size, k, none⟩) (Nat.le_refl _) (boxI (zs.getD k 0)))
        unfold boxI at HR2 HB2
        obtain ⟨x, hx⟩ : ∃ x, x = zs.getD k 0 := ⟨_, rfl⟩
        rw [← hx] at c1 HR2 HB2
        clear hx
        go_wp2
        go_roundw
        case rel => exact ⟨k + 1, by go_num, by omega, HR2, HB2⟩
        case measure => simp [intOf]; omega
      · obtain rfl : k = zs.length := by omega
        have HO := Lib.hid (box_done (by unfold maxLen; omega) HR.out)
        go_wp2
        go_ret
        exact ⟨_, rfl, HO.out, HB.out⟩

set_option maxRecDepth 100000 in
theorem ints_any (v : Value) (zs : List Int) (w : World) (h : OwnAt w v (zs.map boxI)) (hm : zs.length ≤ 131072) :
    Calls Tryz.prog 23 #[v] w fun r w' => ∃ v', r = .returned v' ∧ OwnAt w' v' (zs.map (Value.int .i64)) ∧ Below w.heap.size w w' := by
  obtain ⟨i0, hi, hz0, hz1, hz2⟩ := info_parts info_int
  obtain ⟨a, cap, rfl⟩ := h.shape (List.length_map ..)
  have HO := Lib.hid h
  clear h
  go_enter Tryz.func23, Tryz.ntmps23
  go_wp2_with (at_make; refine wpList_make_own _ rfl _ _ 28 rfl w.heap.size 3 i0 (.int .i64 0) 1 Tryz.underlying28 hi hz0 hz1 _ _ _ zs.length rfl rfl (by omega) ?c2 ?c3 (Nat.le_refl _) ?_)
  case c2 => rw [hz2]; omega
  case c3 => unfold maxLen; omega
  intro w0 hown0 hgrow0
  go_wp2
  go_loopw [3, 13] (fun vy vi wr => ∃ (k : Nat) (ys : List Value), vi = .int .i64 k ∧ k ≤ zs.length ∧ vy = .slice (some ⟨w.heap.size, 0, none⟩) k zs.length ∧ Hid (ys = (zs.take k).map (Value.int .i64)) ∧ Hid (wr.ownsRow w.heap.size 3 1 (.slice (some ⟨w.heap.size, 0, none⟩) k zs.length) k ys) ∧ Hid (Below w.heap.size w wr)) (fun _ vi _ => zs.length - (intOf vi).toNat)
  case atStart => exact ⟨0, [], rfl, Nat.zero_le _, rfl, Lib.hid rfl, Lib.hid hown0, Lib.hid ((Below.refl _ _).grown hgrow0 (Nat.le_refl _) (fun k h => by cases h))⟩
  case round =>
    obtain ⟨k, ys, rfl, hk, rfl, HY, HW, HB⟩ := hrel
    clear hown0 hgrow0
    by_cases hlt : k < zs.length
    · obtain ⟨b, off, rfl, hc⟩ := HO.out.at (by rw [List.length_map]; omega)
      have hc1 := hc k (by rw [List.length_map]; omega)
      have c1 : wr.cell? ⟨b, off + k, none⟩ = some (.iface 3 (.int .i64 (zs.getD k 0))) := (HB.out.cell (World.block_lt_of_cell? w _ hc1)).trans (hc1.trans (by simp [List.getD, hlt, boxI]))
      clear hc hc1
      have HT := Lib.hid (take_push (Value.int .i64) zs k hlt)
      rw [← HY.out] at HT
      have hsz := HB.out.size
      obtain ⟨x, hx⟩ : ∃ x, x = zs.getD k 0 := ⟨_, rfl⟩
      rw [← hx] at c1 HT
      clear hx
      go_wp2_with (at_builtin; refine wpList_append_fits _ rfl _ _ 28 rfl w.heap.size 3 i0 1 Tryz.underlying28 hi hz1 w.heap.size k zs.length _ rfl (HW.out.alloc _) ⟨wr.heap.size, 0, none⟩ 1 1 [.int .i64 x] rfl rfl ?d1 ?d2 ?d3 ?_)
      case d1 =>
        intro j u hj
        match j, hj with
        | 0, hj => simp at hj; subst hj; simp [Addr.add]
      case d2 => intro u hu; simp at hu; subst hu; rfl
      case d3 => omega
      intro w1 hown1 hgrow1
      have HW2 := Lib.hid hown1
      have HB2 := Lib.hid ((HB.out.alloc hsz _).grown hgrow1 (by simp; omega) (fun k hk => by cases hk; exact Nat.le_refl _))
      clear hown1 hgrow1
      go_wp2
      go_roundw
      case rel => exact ⟨k + 1, _, by go_num, by omega, rfl, HT, HW2, HB2⟩
      case measure => simp [intOf]; omega
    · obtain rfl : k = zs.length := by omega
      go_wp2
      go_ret
      exact ⟨_, rfl, by have := OwnAt.of_owns HW.out; rwa [HY.out, List.take_length] at this, HB.out⟩

end Go.Proofs.YtdieahcigcdnpaaGreatDoor
