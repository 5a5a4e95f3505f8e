/- The walk of ZZencodeFloat64. -/
import Derived.Test.YtkincdcknmdboaaDoorEN
namespace Go.Proofs.YtkincdcknmdboaaDoor
open Go Go.RowKit
set_option linter.unusedVariables false
set_option linter.unusedSimpArgs false

theorem zc_list : Tryd.zeroCells37.toList = .nilIface :: List.replicate 64 (.int .u8 0) := by kernel_rfl

/-- the world in which the encoder begins -/
noncomputable def W1 (w : World) : World := (w.alloc (.cells #[.pointer none, .slice none 0 0] 32)).alloc (.cells (Tryd.zeroCells37.setIfInBounds 0 (.iface 29 (.pointer (some ⟨w.heap.size, 0, none⟩)))) 37)

theorem W1_below (w : World) : Below w.heap.size w (W1 w) := ((Below.refl w.heap.size w).alloc (Nat.le_refl _) _).alloc (by show w.heap.size ≤ (w.heap.push _).size; simp) _
theorem W1_size (w : World) : (W1 w).heap.size = w.heap.size + 2 := by show ((w.heap.push _).push _).size = _; simp
theorem W1_bk (w : World) : (W1 w).heap[w.heap.size]? = some (.cells #[.pointer none, .slice none 0 0] 32 (0, 0)) := by
  show ((w.heap.push _).push _)[w.heap.size]? = _
  rw [Array.getElem?_push, if_neg (by simp), Array.getElem?_push, if_pos rfl]
theorem W1_bE (w : World) : (W1 w).heap[w.heap.size + 1]? = some (.cells (Tryd.zeroCells37.setIfInBounds 0 (.iface 29 (.pointer (some ⟨w.heap.size, 0, none⟩)))) 37 (0, 0)) := by
  show ((w.heap.push _).push _)[w.heap.size + 1]? = _
  rw [Array.getElem?_push, if_pos (by simp)]
theorem zc_get (V : Value) (j : Nat) (hj : j < 64) : (Tryd.zeroCells37.setIfInBounds 0 V)[1 + j]? = some (.int .u8 0) := by
  rw [Array.getElem?_setIfInBounds_ne (by omega), ← Array.getElem?_toList, zc_list, Nat.add_comm, List.getElem?_cons_succ, List.getElem?_replicate, if_pos hj]
theorem zc_get0 (V : Value) : (Tryd.zeroCells37.setIfInBounds 0 V)[0]? = some V := by
  have h : 0 < Tryd.zeroCells37.size := by rw [← Array.length_toList, zc_list]; simp
  rw [Array.getElem?_setIfInBounds_self_of_lt h]
theorem W1_buf (w : World) : BufAt (W1 w) (w.heap.size + 1) (.iface 29 (.pointer (some ⟨w.heap.size, 0, none⟩))) [] := by
  have h := W1_bE w
  refine ⟨by simp, ?_, fun j hj => ⟨?_, ?_⟩, fun j hj => absurd hj (by simp)⟩
  · rw [Lib.cell_of_heap h]; exact zc_get0 _
  · rw [Lib.cell_of_heap h, zc_get _ j hj]; rfl
  · exact Lib.frozen_of_heap h _

set_option maxRecDepth 100000 in
theorem zz_any (x : Nat) (L : List UInt8) (w : World)
    (h : Calls Tryd.prog 9 #[.pointer (some ⟨w.heap.size + 1, 0, none⟩), .float .f64 x] (W1 w) fun r w' => r = .returned (.tuple #[]) ∧ ∃ L', L' = L ∧ Lib.IsBuilderF 32 5 w.heap.size w.heap.size (Lib.byteCells L') w' ∧ Below w.heap.size (W1 w) w') :
    Calls Tryd.prog 5 #[.float .f64 x] w fun r w' => r = .returned (.string ⟨L.toArray⟩) ∧ Below w.heap.size w w' := by
  have H := Lib.hid h
  have hW := Lib.hid (W1_below w)
  have hS := W1_size w
  clear h
  go_enter Tryd.func5, Tryd.ntmps5
  go_wp2_with (first | (go_at_call 9; refine H.out.mono ?_; rintro r w2 ⟨rfl, L', h1, h2, h3⟩; have HI := Lib.hid h2; have HL := Lib.hid h1; have HW2 := Lib.hid h3; have h4 := h3.size; have HS := Lib.hid (Tryd.Builder_String_any_k w.heap.size w.heap.size L' w2 h2 (by omega)); clear h1 h2 h3) | (go_at_call 10; refine HS.out.mono ?_; rintro r w3 ⟨rfl, h5, h6, h7⟩; have HW3 := Lib.hid h6; clear h5 h6 h7))
  go_ret
  exact ⟨by rw [HL.out]; rfl, (hW.out.trans HW2.out).trans HW3.out⟩
end Go.Proofs.YtkincdcknmdboaaDoor
