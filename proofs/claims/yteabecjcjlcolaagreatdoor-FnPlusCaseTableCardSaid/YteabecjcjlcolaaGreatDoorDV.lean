/- The walks of divisors, bitsDiv, divWVW, norm and divW at one word. -/
import Derived.Test.YteabecjcjlcolaaGreatDoorBS
import Derived.Test.YteabecjcjlcolaaGreatDoorLS
import Derived.LoopTactic
import Derived.Deep.QuietTactic
import Derived.BigQuiet
namespace Go.Proofs.YteabecjcjlcolaaGreatDoor
open Go.RowKit
set_option linter.unusedVariables false

set_option maxRecDepth 100000 in
theorem divisors_one (stk : Value) (b nd bb : Value) (w : World) (hl : w.cell? ⟨1, 0, none⟩ = some (.int .i64 8)) :
    Calls Tryz.prog 37 #[stk, .int .i64 1, b, nd, bb] w fun r w' => r = .returned (.slice none 0 0) ∧ Below w.heap.size w w' := by
  go_enter Tryz.func37, Tryz.ntmps37
  go_wp2_with fail
  go_ret
  exact ⟨rfl, by first | exact Below.refl _ _ | exact (Below.refl _ _).drew⟩

set_option maxRecDepth 100000 in
theorem bitsDiv_lo (u : Int) (w : World) (u0 : 0 ≤ u) (u1 : u < 10000000000000000000) :
    Calls Tryz.prog 92 #[.int .u64 0, .int .u64 u, .int .u64 10000000000000000000] w fun r w' => r = .returned (.tuple #[.int .u64 0, .int .u64 u]) ∧ w'.heap = w.heap ∧ Below w.heap.size w w' := by
  have e1 : u / 10000000000000000000 = 0 := by omega
  have e2 : u % 10000000000000000000 = u := by omega
  go_enter Tryz.func92, Tryz.ntmps92
  go_wp2
  go_quiet (fail)
  go_wp2
  go_ret2
  exact ⟨rfl, rfl, below_drewN (Below.refl _ _) _⟩

theorem cell_heap {w w' : World} (h : w'.heap = w.heap) (a : Addr) : w'.cell? a = w.cell? a := by simp [World.cell?, h]
theorem frozen_heap {w w' : World} (h : w'.heap = w.heap) (a : Addr) : w'.frozen? a = w.frozen? a := by simp [World.frozen?, h]

set_option maxRecDepth 100000 in
theorem nat_make_have (g : Nat) (w : World) : Calls Tryz.prog 39 #[.slice (some ⟨g, 0, none⟩) 1 1, .int .i64 1] w fun r w' => r = .returned (.slice (some ⟨g, 0, none⟩) 1 1) ∧ w = w' := by
  go_enter Tryz.func39, Tryz.ntmps39
  go_wp2
  go_ret
  exact ⟨rfl, rfl⟩

set_option maxRecDepth 100000 in
theorem divWVW_one (g : Nat) (u : Int) (w : World) (hg : w.heap[g]? = some (.cells #[.int .u64 u] 67 (0, 0))) (u0 : 0 ≤ u) (u1 : u < 10000000000000000000) :
    Calls Tryz.prog 66 #[.slice (some ⟨g, 0, none⟩) 1 1, .int .u64 0, .slice (some ⟨g, 0, none⟩) 1 1, .int .u64 10000000000000000000] w fun r w' => r = .returned (.int .u64 u) ∧ w'.heap[g]? = some (.cells #[.int .u64 0] 67 (0, 0)) ∧ Below g w w' := by
  have c0 : w.cell? ⟨g, 0, none⟩ = some (.int .u64 u) := cell_blk hg 0
  have gl : g < w.heap.size := (Array.getElem?_eq_some_iff.1 hg).1
  have HG := Lib.hid hg
  clear hg
  go_enter Tryz.func66, Tryz.ntmps66
  go_wp2_with (go_at_call 92; refine (bitsDiv_lo u _ u0 u1).mono ?_; rintro r w2 ⟨rfl, hh, B2⟩; have HB2 := Lib.hid B2; have g2 : w2.heap[g]? = some (.cells #[.int .u64 u] 67 (0, 0)) := by { rw [hh]; exact HG.out }; have d0 : w2.cell? ⟨g, 0, none⟩ = some (.int .u64 u) := cell_blk g2 0; have df : ∀ j, w2.frozen? ⟨g, j, none⟩ = false := free_blk g2; have HG2 := Lib.hid g2; clear hh B2 g2)
  go_ret
  exact ⟨rfl, setCell_blk HG2.out 0 _, (HB2.out.mono (show g ≤ w.heap.size by omega)).setCell (p := ⟨g, 0, none⟩) (Nat.le_refl _) _⟩

set_option maxRecDepth 100000 in
theorem norm_zero (g : Nat) (w : World) (hg : w.cell? ⟨g, 0, none⟩ = some (.int .u64 0)) :
    Calls Tryz.prog 59 #[.slice (some ⟨g, 0, none⟩) 1 1] w fun r w' => r = .returned (.slice (some ⟨g, 0, none⟩) 0 1) ∧ Below w.heap.size w w' := by
  go_enter Tryz.func59, Tryz.ntmps59
  go_wp2
  go_loopw [3] (fun vi wr => (vi = .int .i64 1 ∨ vi = .int .i64 0) ∧ wr.cell? ⟨g, 0, none⟩ = some (.int .u64 0) ∧ Hid (Below w.heap.size w wr)) (fun vi _ => (intOf vi).toNat)
  case atStart => exact ⟨Or.inl rfl, hg, Lib.hid (Below.refl _ _)⟩
  case round =>
    obtain ⟨hv, hgr, HB⟩ := hrel
    rcases hv with rfl | rfl
    · go_wp2
      go_roundw
      case rel => exact ⟨Or.inr rfl, hgr, HB⟩
      case measure => simp [intOf]
    · go_wp2
      go_ret
      exact ⟨rfl, HB.out⟩

set_option maxRecDepth 100000 in
theorem divW_one (g : Nat) (u : Int) (w : World) (hg : w.heap[g]? = some (.cells #[.int .u64 u] 67 (0, 0))) (u0 : 0 ≤ u) (u1 : u < 10000000000000000000) :
    Calls Tryz.prog 51 #[.slice (some ⟨g, 0, none⟩) 1 1, .slice (some ⟨g, 0, none⟩) 1 1, .int .u64 10000000000000000000] w fun r w' => r = .returned (.tuple #[.slice (some ⟨g, 0, none⟩) 0 1, .int .u64 u]) ∧ Below g w w' := by
  have gl : g < w.heap.size := (Array.getElem?_eq_some_iff.1 hg).1
  have HD := Lib.hid (fun w hg => divWVW_one g u w hg u0 u1)
  have HG := Lib.hid hg
  clear hg
  go_enter Tryz.func51, Tryz.ntmps51
  go_wp2_with (first | (go_at_call 39; refine (nat_make_have g _).mono ?_; rintro r w2 ⟨rfl, rfl⟩) | (go_at_call 66; refine (HD.out _ HG.out).mono ?_; rintro r w2 ⟨rfl, h2, B2⟩; have HB2 := Lib.hid B2; have d0 : w2.cell? ⟨g, 0, none⟩ = some (.int .u64 0) := cell_blk h2 0; clear h2 B2) | (go_at_call 59; refine (norm_zero g _ (by assumption)).mono ?_; rintro r w3 ⟨rfl, B3⟩; have HB3 := Lib.hid B3; clear B3))
  go_ret2
  exact ⟨rfl, HB2.out.trans (HB3.out.mono (by have := HB2.out.size; omega))⟩
end Go.Proofs.YteabecjcjlcolaaGreatDoor
