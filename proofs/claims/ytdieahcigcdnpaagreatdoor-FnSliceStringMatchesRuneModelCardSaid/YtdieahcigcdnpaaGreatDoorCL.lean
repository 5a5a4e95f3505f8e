/- The walk of zzCloneInts: nil stays nil, else a new row of the same ints. -/
import Derived.Test.YtdieahcigcdnpaaGreatDoorRows
import Derived.WalkKit
import Derived.ProofKit
import Derived.OpenShut
import Derived.WalkSpells
import Derived.WalkLawsBesides
import Derived.Outline
import Derived.Lib.Hide
import Derived.LoopTactic
import Derived.Deep.OwnRows
import Derived.Test.YtdieahcigcdnpaaGreatDoorCom
import Derived.Test.YtdieahcigcdnpaaGreatDoorSL
import Derived.Test.YtdieahcigcdnpaaGreatDoorSA
namespace Go.Proofs.YtdieahcigcdnpaaGreatDoor
open Go.RowKit
set_option linter.unusedVariables false

theorem info_int : (Tryz.prog.info? 3).map (fun i => (i.zero, i.size, i.bytes)) = some (some (.int .i64 0), 1, 8) := by kernel_rfl

def cloneF (zs : List Int) (k : Nat) (j : Nat) : Value := if j < k then .int .i64 (zs.getD j 0) else .int .i64 0

theorem clone_step {w : World} {b t n k : Nat} {zs : List Int} (h : w.rowIs b t n (cloneF zs k)) : (w.setCell ⟨b, k, none⟩ (.int .i64 (zs.getD k 0))).rowIs b t n (cloneF zs (k + 1)) := by
  refine (h.set k _).congr fun j hj => ?_
  unfold cloneF
  by_cases e : j = k
  · subst e; simp
  · simp only [if_neg e]
    by_cases l : j < k
    · rw [if_pos l, if_pos (by omega)]
    · rw [if_neg l, if_neg (by omega)]

theorem clone_done {w : World} {b t : Nat} {zs : List Int} (hm : zs.length ≤ maxLen) (h : w.rowIs b t zs.length (cloneF zs zs.length)) : OwnAt w (.slice (some ⟨b, 0, none⟩) zs.length zs.length) (zs.map (Value.int .i64)) := by
  refine OwnAt.of_row h (by simp) hm fun j hj => ?_
  unfold cloneF
  rw [if_pos hj]
  simp [List.getD, hj]

set_option maxRecDepth 100000 in
theorem clone_any (v : Value) (zs : List Int) (w : World) (h : IntsAt w .i64 v zs) (hm : zs.length ≤ 131072) :
    Calls Tryz.prog 12 #[v] w fun r w' => ∃ v', r = .returned v' ∧ OwnAt w' v' (zs.map (Value.int .i64)) ∧ Below w.heap.size w w' := by
  have hnil := fun (w : World) (a : Option Addr) (n c : Nat) => Lib.run_eql_slice_nil (P := Tryz.prog) w 28 3 a n c 0 0 Tryz.underlying28
  rcases h with ⟨rfl, rfl⟩ | ⟨a, cap, rfl, h2, h3, h4, h5⟩
  · go_enter Tryz.func12, Tryz.ntmps12
    go_wp2
    go_ret
    exact ⟨_, rfl, Or.inl ⟨rfl, rfl⟩, Below.refl _ _⟩
  · have hmk := run_make_row' (P := Tryz.prog) 28 3 (.int .i64 0) 8 Tryz.underlying28 info_int rfl .i64 .i64 zs.length (by omega) (by omega)
    have hrow0 := Lib.hid ((World.rowIs_made w (.int .i64 0) zs.length 3).congr (g := cloneF zs 0) fun j hj => by simp [cloneF])
    have hb0 := Lib.hid ((Below.refl w.heap.size w).alloc (Nat.le_refl _) (.cells (madeCells #[.int .i64 0] zs.length) 3))
    have HC : Hid (0 < zs.length → ∃ b off, a = ⟨b, off, none⟩ ∧ ∀ j, j < zs.length → w.cell? ⟨b, off + j, none⟩ = some (.int .i64 (zs.getD j 0))) := Lib.hid (IntsAt.slots h4)
    clear h4 h5
    go_enter Tryz.func12, Tryz.ntmps12
    go_wp2
    go_loopw [4] (fun vi wr => ∃ k : Nat, vi = .int .i64 k ∧ k ≤ zs.length ∧ Hid (wr.rowIs w.heap.size 3 zs.length (cloneF zs k)) ∧ Hid (Below w.heap.size w wr)) (fun vi _ => zs.length - (intOf vi).toNat)
    case atStart => exact ⟨0, rfl, Nat.zero_le _, hrow0, hb0⟩
    case round =>
      obtain ⟨k, rfl, hk, HR, HB⟩ := hrel
      clear hmk hrow0 hb0
      by_cases hlt : k < zs.length
      · obtain ⟨b, off, rfl, hc⟩ := HC.out (by omega)
        have c1 : wr.cell? ⟨b, off + k, none⟩ = some (.int .i64 (zs.getD k 0)) := (HB.out.cell (World.block_lt_of_cell? w _ (hc k hlt))).trans (hc k hlt)
        clear hc
        have c2 := HR.out.cell hlt
        have c3 := HR.out.frozen k
        have HR2 := Lib.hid (clone_step HR.out)
        have HB2 := Lib.hid (HB.out.setCell (p := ⟨w.heap.size, k, none⟩) (Nat.le_refl _) (.int .i64 (zs.getD k 0)))
        obtain ⟨x, hx⟩ : ∃ x, x = zs.getD k 0 := ⟨_, rfl⟩
        rw [← hx] at c1 HR2 HB2
        clear hx
        go_wp2
        go_roundw
        case rel => exact ⟨k + 1, by go_num, by omega, HR2, HB2⟩
        case measure => simp [intOf]; omega
      · obtain rfl : k = zs.length := by omega
        have HO := Lib.hid (clone_done (by unfold maxLen; omega) HR.out)
        go_wp2
        go_ret
        exact ⟨_, rfl, HO.out, HB.out⟩
end Go.Proofs.YtdieahcigcdnpaaGreatDoor
