/- The two halves of a slice, by the contract of ZZsliceInts. -/
import Derived.LoopTactic
import Derived.Deep.QuietTactic
import Derived.BigQuiet
import Derived.Test.YtdieahcigcdnpaaGreatDoorPI
namespace Go.Proofs.YtdieahcigcdnpaaGreatDoor
open Go.RowKit
set_option linter.unusedVariables false

theorem OwnAt.cellInt {w wr : World} {a : Option Addr} {n cap j : Nat} {zs : List Int} (h : OwnAt w (.slice a n cap) (zs.map (Value.int .i64))) (hb : Below w.heap.size w wr) (hj : j < zs.length) :
    ∃ b off, a = some ⟨b, off, none⟩ ∧ wr.cell? ⟨b, off + j, none⟩ = some (.int .i64 (zs.getD j 0)) := by
  obtain ⟨b, off, rfl, hc⟩ := h.at (by rw [List.length_map]; omega)
  have hc1 := hc j (by rw [List.length_map]; omega)
  exact ⟨b, off, rfl, (hb.cell (World.block_lt_of_cell? w _ hc1)).trans (hc1.trans (by simp [List.getD, hj]))⟩

theorem zhead (v : Value) (zs : List Int) (k : Int) (c : Nat) (hc : (c : Int) = clampI k 0 zs.length) (w : World) (h : OwnAt w v (zs.map (Value.int .i64))) (hm : zs.length ≤ 131072) (k0 : -9223372036854775808 ≤ k) :
    Calls Tryz.prog 13 #[v, .bool true, .int .i64 k, .bool false, .int .i64 0] w fun r w' => ∃ a cap, r = .returned (.tuple #[.slice a c cap, .bool false]) ∧ OwnAt w' (.slice a c cap) ((win zs 0 c).map (Value.int .i64)) ∧ Below w.heap.size w w' := by
  have := zslice_any v zs false true 0 k 0 c rfl (by simp [enOf, hc]) w h hm (by omega) k0
  exact this

theorem ztail (v : Value) (zs : List Int) (k : Int) (c d : Nat) (hc : (c : Int) = clampI k 0 zs.length) (hd : zs.length - c = d) (w : World) (h : OwnAt w v (zs.map (Value.int .i64))) (hm : zs.length ≤ 131072) (k0 : -9223372036854775808 ≤ k) :
    Calls Tryz.prog 13 #[v, .bool false, .int .i64 0, .bool true, .int .i64 k] w fun r w' => ∃ a cap, r = .returned (.tuple #[.slice a d cap, .bool false]) ∧ OwnAt w' (.slice a d cap) ((win zs c zs.length).map (Value.int .i64)) ∧ Below w.heap.size w w' := by
  have := zslice_any v zs true false k 0 c zs.length (by simp [stOf, hc]) (by simp [enOf]) w h hm k0 (by omega)
  rw [hd] at this
  exact this
end Go.Proofs.YtdieahcigcdnpaaGreatDoor
