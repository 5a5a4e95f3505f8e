/- The walk of prescale. -/
import Derived.Test.YtkincdcknmdboaaDoorUS
namespace Go.Proofs.YtkincdcknmdboaaDoor
open Go.RowKit
set_option linter.unusedVariables false

set_option maxRecDepth 100000 in
theorem prescale_any (b : Nat) (e p lp : Int) (i hi lo : Nat) (w : World) (hp : p + 348 = i) (hi2 : i < 696) (he0 : -5000 ≤ e) (he1 : e ≤ 5000) (hl0 : -5000 ≤ lp) (hl1 : lp ≤ 5000)
    (g0 : w.cell? ⟨3, i * 2, none⟩ = some (.int .u64 hi)) (g1 : w.cell? ⟨3, i * 2 + 1, none⟩ = some (.int .u64 lo))
    (hb : w.heap[b]? = some (.cells #[.int .u64 0, .int .u64 0, .int .i64 0] 80)) (hg : 3 < b) :
    Calls Tryd.prog 39 #[.pointer (some ⟨b, 0, none⟩), .int .i64 e, .int .i64 p, .int .i64 lp] w fun r w' => r = .returned (.tuple #[]) ∧ w'.heap[b]? = some (.cells #[.int .u64 hi, .int .u64 lo, .int .i64 (-(e + lp + 3))] 80) ∧ w'.heap.size = w.heap.size ∧ Below b w w' := by
  have c0 : w.cell? ⟨b, 0, none⟩ = some (.int .u64 0) := by simp [World.cell?, hb]
  have c1 : w.cell? ⟨b, 1, none⟩ = some (.int .u64 0) := by simp [World.cell?, hb]
  have c2 : w.cell? ⟨b, 2, none⟩ = some (.int .i64 0) := by simp [World.cell?, hb]
  have f0 : ∀ j, w.frozen? ⟨b, j, none⟩ = false := fun j => by simp [World.frozen?, hb]
  have hne : ¬ 3 = b := by omega
  obtain rfl : p = (i : Int) - 348 := by omega
  have HB : Hid (Below b w (((w.setCell ⟨b, 0, none⟩ (.int .u64 hi)).setCell ⟨b, 1, none⟩ (.int .u64 lo)).setCell ⟨b, 2, none⟩ (.int .i64 (-(e + lp + 3))))) := Lib.hid ((((Below.refl b w).setCell (p := ⟨b, 0, none⟩) (Nat.le_refl _) _).setCell (p := ⟨b, 1, none⟩) (Nat.le_refl _) _).setCell (p := ⟨b, 2, none⟩) (Nat.le_refl _) _)
  have HW : Hid ((((w.setCell ⟨b, 0, none⟩ (.int .u64 hi)).setCell ⟨b, 1, none⟩ (.int .u64 lo)).setCell ⟨b, 2, none⟩ (.int .i64 (-(e + lp + 3)))).heap[b]? = some (.cells #[.int .u64 hi, .int .u64 lo, .int .i64 (-(e + lp + 3))] 80)) := Lib.hid (by
    have h1 := heap_setCell_same w b 0 _ _ (.int .u64 hi) hb
    have h2 := heap_setCell_same _ b 1 _ _ (.int .u64 lo) h1
    exact heap_setCell_same _ b 2 _ _ (.int .i64 (-(e + lp + 3))) h2)
  go_enter Tryd.func39, Tryd.ntmps39
  go_wp2_with fail
  go_end0
  exact ⟨rfl, HW.out, by simp, HB.out⟩
end Go.Proofs.YtkincdcknmdboaaDoor
