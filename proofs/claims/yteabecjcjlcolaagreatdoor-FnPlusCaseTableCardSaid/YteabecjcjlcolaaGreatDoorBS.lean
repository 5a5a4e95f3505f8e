/- The walks of nat.make, nat.set, Int.Set, Int.Neg and of negate at the least int. -/
import Derived.Test.YteabecjcjlcolaaGreatDoorBN
import Derived.Test.YteabecjcjlcolaaGreatDoorFL
import Derived.Laws.CopyOwn
import Derived.Deep.AppendLies
import Derived.Deep.OwnRows
namespace Go.Proofs.YteabecjcjlcolaaGreatDoor
open Go.RowKit
set_option linter.unusedVariables false

theorem info_word : (Tryz.prog.info? 67).map (fun i => (i.zero, i.size, i.bytes)) = some (some (.int .u64 0), 1, 8) := by kernel_rfl
theorem make_one (w : World) : (Instr.makeSlice 62 (.int .i64 1) (.int .i64 1)).run Tryz.prog w = .ok (.slice (some ⟨w.heap.size, 0, none⟩) 1 1) (w.alloc (.cells #[.int .u64 0] 67)) := by
  have h := run_make_row' (P := Tryz.prog) 62 67 (.int .u64 0) 8 Tryz.underlying62 info_word rfl .i64 .i64 1 (by omega) (by omega) w
  have e : madeCells #[Value.int .u64 0] 1 = #[.int .u64 0] := by
    apply Array.ext
    · simp [madeCells]
    · intro i h1 h2
      simp at h2
      subst h2
      simp [madeCells]
  rw [e] at h
  exact h

theorem setRow_new (w : World) (a b : Array Value) (t : TypeId) : (w.alloc (.cells a t)).setRow w.heap.size b = w.alloc (.cells b t) := by
  have e : (w.alloc (.cells a t)).heap = w.heap.push (.cells a t) := rfl
  have e2 : w.alloc (.cells b t) = { w.alloc (.cells a t) with heap := w.heap.push (.cells b t) } := rfl
  rw [e2]
  unfold World.setRow
  congr 1
  rw [e]
  apply Array.ext
  · simp
  · intro i h1 h2
    rw [Array.getElem_modify]
    simp only [Array.getElem_push]
    simp at h1
    by_cases c : i < w.heap.size
    · rw [if_neg (by omega)]
      simp [c]
    · have : i = w.heap.size := by omega
      subst this
      simp

theorem copy_one (c : Nat) (u : Int) (w : World) (hc : w.cell? ⟨c, 0, none⟩ = some (.int .u64 u)) (hlt : c < w.heap.size) :
    (Builtin.copy_ #[62, 62] 3 #[.slice (some ⟨w.heap.size, 0, none⟩) 1 1, .slice (some ⟨c, 0, none⟩) 1 1]).run Tryz.prog (w.alloc (.cells #[.int .u64 0] 67)) = .ok (.int .i64 1) (w.alloc (.cells #[.int .u64 u] 67)) := by
  have h := run_copy_row (P := Tryz.prog) (w.alloc (.cells #[.int .u64 0] 67)) 62 62 3 67 w.heap.size 0 1 1 ⟨c, 0, none⟩ 1 1 #[.int .u64 0] 67 [.int .u64 u] Tryz.underlying62 (by kernel_rfl) (heap_alloc_new w _) rfl (by
      intro j v hv
      match j, hv with
      | 0, hv =>
        simp at hv
        subst hv
        exact (World.cell?_alloc_lt _ _ _ hlt).trans hc) (by simp) (by intro v hv; simp at hv; subst hv; rfl)
  rw [h, setRow_new]
  rfl

set_option maxRecDepth 100000 in
theorem nat_make1 (w : World) : Calls Tryz.prog 39 #[.slice none 0 0, .int .i64 1] w fun r w' => r = .returned (.slice (some ⟨w.heap.size, 0, none⟩) 1 1) ∧ w' = w.alloc (.cells #[.int .u64 0] 67) := by
  have hmk := make_one
  go_enter Tryz.func39, Tryz.ntmps39
  go_wp2
  go_ret
  exact ⟨rfl, rfl⟩

set_option maxRecDepth 100000 in
theorem nat_set1 (c : Nat) (u : Int) (w : World) (hc : w.cell? ⟨c, 0, none⟩ = some (.int .u64 u)) : Calls Tryz.prog 30 #[.slice none 0 0, .slice (some ⟨c, 0, none⟩) 1 1] w fun r w' => r = .returned (.slice (some ⟨w.heap.size, 0, none⟩) 1 1) ∧ w' = w.alloc (.cells #[.int .u64 u] 67) := by
  have hlt := World.block_lt_of_cell? w _ hc
  have hlt2 : c < w.heap.size := hlt
  have hcp := copy_one c u w hc hlt2
  go_enter Tryz.func30, Tryz.ntmps30
  go_wp2_with (go_at_call 39; refine (nat_make1 _).mono ?_; rintro r w2 ⟨rfl, rfl⟩)
  go_ret
  exact ⟨rfl, rfl⟩

/-- a *big.Int at block a that holds n ≠ 0, its word in block c -/
def BigH (n : Int) (a c : Nat) (w : World) : Prop :=
  w.heap[a]? = some (.cells #[.bool (decide (n < 0)), .slice (some ⟨c, 0, none⟩) 1 1] 64 (0, 0)) ∧ w.heap[c]? = some (.cells #[.int .u64 (if n < 0 then -n else n)] 67 (0, 0))

theorem cell_blk {w : World} {b : Nat} {C : Array Value} {t : TypeId} (h : w.heap[b]? = some (.cells C t (0, 0))) (j : Nat) : w.cell? ⟨b, j, none⟩ = C[j]? := by
  simp [World.cell?, h]
theorem free_blk {w : World} {b : Nat} {C : Array Value} {t : TypeId} (h : w.heap[b]? = some (.cells C t (0, 0))) (j : Nat) : w.frozen? ⟨b, j, none⟩ = false := by
  simp [World.frozen?, h]

set_option maxRecDepth 100000 in
theorem newInt_blk (n : Int) (w : World) (h0 : -9223372036854775808 ≤ n) (h1 : n ≤ 9223372036854775807) (hz : n ≠ 0) :
    Calls Tryz.prog 25 #[.int .i64 n] w fun r w' => r = .returned (.pointer (some ⟨w.heap.size + 1, 0, none⟩)) ∧ BigH n (w.heap.size + 1) w.heap.size w' ∧ Below w.heap.size w w' := by
  have e0 : (n == 0) = false := by simpa using hz
  by_cases hn : n < 0
  · have t1 : decide (n < 0) = true := decide_eq_true hn
    have t2 := u64_of_neg h0 hn
    have t3 := u64_neg_of h0 hn
    go_enter Tryz.func25, Tryz.ntmps25
    go_wp2
    go_ret
    refine ⟨rfl, ⟨?_, ?_⟩, ((Below.refl _ _).alloc (Nat.le_refl _) _).alloc (by simp) _⟩
    · rw [decide_eq_true hn]
      exact heap_alloc_new (w.alloc _) _ |> fun h => by rw [World.size_alloc] at h; exact h
    · rw [if_pos hn]
      exact (Below.heap_alloc (w.alloc _) _ _ (by simp)).trans (heap_alloc_new w _)
  · have t1 : decide (n < 0) = false := decide_eq_false hn
    have t2 : IntKind.u64.wrap n = n := by rw [IntKind.wrap_u64]; omega
    go_enter Tryz.func25, Tryz.ntmps25
    go_wp2
    go_ret
    refine ⟨rfl, ⟨?_, ?_⟩, ((Below.refl _ _).alloc (Nat.le_refl _) _).alloc (by simp) _⟩
    · rw [decide_eq_false (show ¬ n < 0 by omega)]
      exact heap_alloc_new (w.alloc _) _ |> fun h => by rw [World.size_alloc] at h; exact h
    · rw [if_neg (show ¬ n < 0 by omega)]
      exact (Below.heap_alloc (w.alloc _) _ _ (by simp)).trans (heap_alloc_new w _)

theorem setCell_blk {w : World} {z : Nat} {C : Array Value} {t : TypeId} (h : w.heap[z]? = some (.cells C t (0, 0))) (j : Nat) (v : Value) : (w.setCell ⟨z, j, none⟩ v).heap[z]? = some (.cells (C.setIfInBounds j v) t (0, 0)) := by
  simp [World.setCell, Array.getElem?_modify, h]

theorem frozen_alloc {w : World} {z : Nat} (h : z < w.heap.size) (j : Nat) (o : Obj) : (w.alloc o).frozen? ⟨z, j, none⟩ = w.frozen? ⟨z, j, none⟩ := World.frozen?_of_block (w := w) (Below.heap_alloc w o z h)

theorem neq_ptr {z b : Nat} (h : z ≠ b) {w : World} {ca cb : Array Value} {ta tb : TypeId} (ha : w.heap[z]? = some (.cells ca ta (0, 0))) (hb : w.heap[b]? = some (.cells cb tb (0, 0))) :
    (binOp .neq 45 (.pointer (some ⟨z, 0, none⟩)) (.pointer (some ⟨b, 0, none⟩))).run Tryz.prog w = .ok (.bool true) w := by
  obtain ⟨j, hj, hs⟩ : ∃ j, Tryz.prog.info? 64 = some j ∧ j.size = 2 := by
    have : (Tryz.prog.info? 64).map (·.size) = some 2 := by kernel_rfl
    obtain ⟨j, hj, hs⟩ := Option.map_eq_some_iff.1 this
    exact ⟨j, hj, hs⟩
  have hd : ∀ d : Nat, (Op.equalIn (d + 1) 45 (.pointer (some ⟨z, 0, none⟩)) (.pointer (some ⟨b, 0, none⟩))).run Tryz.prog w = .ok false w := fun d => by
    simp [Op.equalIn, run_underlying Tryz.underlying45, sizeOf, typeInfo, hj, hs, run_sameAddr_other w (a := ⟨z, 0, none⟩) (b := ⟨b, 0, none⟩) (fun e => h (congrArg Addr.block e)) ha hb]
  simp only [binOp]
  simp [Op.equal, Op.maxDepth, hd 9999]

set_option maxRecDepth 100000 in
theorem int_set1 (z b c : Nat) (u : Int) (ng : Bool) (w : World) (hzb : z ≠ b) (hzc : z ≠ c) (hz : w.heap[z]? = some (.cells #[.bool false, .slice none 0 0] 64 (0, 0)))
    (hb : w.heap[b]? = some (.cells #[.bool ng, .slice (some ⟨c, 0, none⟩) 1 1] 64 (0, 0))) (hc : w.heap[c]? = some (.cells #[.int .u64 u] 67 (0, 0))) :
    Calls Tryz.prog 28 #[.pointer (some ⟨z, 0, none⟩), .pointer (some ⟨b, 0, none⟩)] w fun r w' => r = .returned (.pointer (some ⟨z, 0, none⟩)) ∧
      w'.heap[z]? = some (.cells #[.bool ng, .slice (some ⟨w.heap.size, 0, none⟩) 1 1] 64 (0, 0)) ∧ w'.heap[w.heap.size]? = some (.cells #[.int .u64 u] 67 (0, 0)) ∧ Below z w w' := by
  have z0 : w.cell? ⟨z, 0, none⟩ = some (.bool false) := cell_blk hz 0
  have z1 : w.cell? ⟨z, 1, none⟩ = some (.slice none 0 0) := cell_blk hz 1
  have hf : ∀ j, w.frozen? ⟨z, j, none⟩ = false := free_blk hz
  have b0 : w.cell? ⟨b, 0, none⟩ = some (.bool ng) := cell_blk hb 0
  have b1 : w.cell? ⟨b, 1, none⟩ = some (.slice (some ⟨c, 0, none⟩) 1 1) := cell_blk hb 1
  have c0 : w.cell? ⟨c, 0, none⟩ = some (.int .u64 u) := cell_blk hc 0
  have zl : z < w.heap.size := World.block_lt_of_cell? w _ z0
  have bl : b < w.heap.size := World.block_lt_of_cell? w _ b0
  have hnp := neq_ptr hzb hz hb
  have HZ := Lib.hid hz
  clear hz hb hc
  go_enter Tryz.func28, Tryz.ntmps28
  go_wp2
  go_region_law (first | (go_simp; go_at_call 30; refine (nat_set1 c u _ (by assumption)).mono ?_; rintro x w1 ⟨rfl, rfl⟩))
  all_goals go_wp2
  all_goals
    go_ret
    have g1 := setCell_blk HZ.out 1 (.slice (some ⟨w.heap.size, 0, none⟩) 1 1)
    have g2 := setCell_blk g1 0 (.bool ng)
    refine ⟨rfl, ?_, ?_, ?_⟩
    · exact (Below.heap_alloc _ _ z (by simp [World.setCell]; omega)).trans g2
    · have h := heap_alloc_new ((w.setCell ⟨z, 1, none⟩ (.slice (some ⟨w.heap.size, 0, none⟩) 1 1)).setCell ⟨z, 0, none⟩ (.bool ng)) (.cells #[.int .u64 u] 67)
      have e : ((w.setCell ⟨z, 1, none⟩ (.slice (some ⟨w.heap.size, 0, none⟩) 1 1)).setCell ⟨z, 0, none⟩ (.bool ng)).heap.size = w.heap.size := by simp [World.setCell]
      rw [e] at h
      exact h
    · exact ((((Below.refl z w).setCell (Nat.le_refl _) _).setCell (Nat.le_refl _) _).alloc (by simp [World.setCell]; omega) _).drew
end Go.Proofs.YteabecjcjlcolaaGreatDoor
