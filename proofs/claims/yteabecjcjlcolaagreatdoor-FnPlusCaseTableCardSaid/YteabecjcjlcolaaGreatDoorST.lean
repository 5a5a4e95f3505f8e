/- The stack of the division: taken and freed. -/
import Derived.Test.YteabecjcjlcolaaGreatDoorBS
import Derived.Defers
namespace Go.Proofs.YteabecjcjlcolaaGreatDoor
open Go.RowKit
set_option linter.unusedVariables false

set_option maxRecDepth 100000 in
theorem getStack_any (w : World) : Calls Tryz.prog 34 #[] w fun r w' => r = .returned (.pointer (some ⟨w.heap.size, 0, none⟩)) ∧ w' = w.alloc (.cells #[.pointer none] 86) := by
  go_enter Tryz.func34, Tryz.ntmps34
  go_wp2_with fail
  go_ret
  exact ⟨rfl, rfl⟩

theorem getStack_row (w : World) (I : Nat) : Calls Tryz.prog 34 #[] (w.alloc (.cells (madeCells #[.int .u8 0] I) 5)) fun r w3 => r = .returned (.pointer (some ⟨w.heap.size + 1, 0, none⟩)) ∧
    w3.rowIs w.heap.size 5 I (fun _ => .int .u8 0) ∧ Below w.heap.size w w3 ∧ w3.heap[w.heap.size + 1]? = some (.cells #[.pointer none] 86 (0, 0)) ∧ w3.heap.size = w.heap.size + 1 + 1 := by
  refine (getStack_any _).mono ?_
  rintro r w3 ⟨rfl, rfl⟩
  have e : (w.alloc (.cells (madeCells #[.int .u8 0] I) 5)).heap.size = w.heap.size + 1 := World.size_alloc ..
  have h := heap_alloc_new (w.alloc (.cells (madeCells #[.int .u8 0] I) 5)) (.cells #[.pointer none] 86)
  rw [e] at h
  exact ⟨by rw [e], (World.rowIs_made w (.int .u8 0) I 5).alloc _, ((Below.refl _ _).alloc (Nat.le_refl _) _).alloc (by rw [e]; omega) _, h, by rw [World.size_alloc, e]⟩

set_option maxRecDepth 100000 in
theorem free_deferred (p : Nat) (u : FrameMode) (w : World) (hp : w.cell? ⟨p, 0, none⟩ = some (.pointer none)) : CallsD Tryz.prog 35 #[.pointer (some ⟨p, 0, none⟩)] u w fun e u' w' => u' = u ∧ e = .returned (.tuple #[]) ∧ w' = w := by
  go_enter_d Tryz.func35, Tryz.ntmps35
  go_wp2_with fail
  go_end0
  exact ⟨rfl, rfl⟩
end Go.Proofs.YteabecjcjlcolaaGreatDoor
