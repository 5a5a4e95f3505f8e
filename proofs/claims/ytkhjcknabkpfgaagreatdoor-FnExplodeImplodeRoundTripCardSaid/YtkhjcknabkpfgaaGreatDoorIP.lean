/- The walks of ZZimplodeInts and funcImplode. -/
import Derived.LoopTactic
import Derived.Lib.RuneBytes
import Derived.Test.YtkhjcknabkpfgaaGreatDoorTI
import Derived.Test.YtkhjcknabkpfgaaGreatDoorCL
import Derived.Test.YtkhjcknabkpfgaaGreatDoorSH
namespace Go.Proofs.YtkhjcknabkpfgaaGreatDoor
open Go.RowKit
set_option linter.unusedVariables false

theorem info_any : (Tryz.prog.info? 20).map (fun i => (i.zero, i.size, i.bytes)) = some (some .nilIface, 1, 16) := by kernel_rfl

def boxI (n : Int) : Value := .iface 3 (.int .i64 n)
def boxF (zs : List Int) (k : Nat) (j : Nat) : Value := if j < k then boxI (zs.getD j 0) else .nilIface

theorem box_step {w : World} {b t n k : Nat} {zs : List Int} (h : w.rowIs b t n (boxF zs k)) : (w.setCell ⟨b, k, none⟩ (boxI (zs.getD k 0))).rowIs b t n (boxF zs (k + 1)) := by
  refine (h.set k _).congr fun j hj => ?_
  unfold boxF
  by_cases e : j = k
  · subst e; simp
  · simp only [if_neg e]
    by_cases l : j < k
    · rw [if_pos l, if_pos (by omega)]
    · rw [if_neg l, if_neg (by omega)]

theorem box_done {w : World} {b t : Nat} {zs : List Int} (hm : zs.length ≤ maxLen) (h : w.rowIs b t zs.length (boxF zs zs.length)) : OwnAt w (.slice (some ⟨b, 0, none⟩) zs.length zs.length) (zs.map boxI) := by
  refine OwnAt.of_row h (by simp) hm fun j hj => ?_
  unfold boxF
  rw [if_pos hj]
  simp [List.getD, hj]

theorem encode_far {x : Int} (h : ¬ (0 ≤ x ∧ x ≤ 1114111)) : Lib.encodeRune x = Lib.encodeRune 65533 := by
  unfold Lib.encodeRune
  rw [Lib.encodeRuneZ_bad (by omega), Lib.encodeRuneZ_three (by omega)]
  decide

/-- the bytes of a list's numbers -/
def encs (zs : List Int) : List UInt8 := zs.flatMap Lib.encodeRune
theorem encs_snoc (zs : List Int) (k : Nat) (h : k < zs.length) : encs (zs.take k) ++ Lib.encodeRune (zs.getD k 0) = encs (zs.take (k + 1)) := by
  unfold encs
  rw [List.take_add_one, List.getElem?_eq_getElem h, List.flatMap_append, List.getD_eq_getElem?_getD, List.getElem?_eq_getElem h]
  simp
theorem encode_le (x : Int) : (Lib.encodeRune x).length ≤ 4 := by
  rw [← Lib.runeCells_length]; exact (Lib.runeCells_le x).2

theorem encs_le : ∀ zs : List Int, (encs zs).length ≤ 4 * zs.length
  | [] => by simp [encs]
  | x :: r => by
    have h1 := encode_le x
    have h2 := encs_le r
    unfold encs at h2 ⊢
    rw [List.flatMap_cons, List.length_append, List.length_cons]
    omega
@[go_sem] theorem as_a_a (v : Value) (w : World) : (Instr.typeAssert (.iface 32 v) 20 32 true).run Tryz.prog w = .ok (.tuple #[v, .bool true]) w := by kernel_rfl
@[go_sem] theorem as_s_s (v : Value) (w : World) : (Instr.typeAssert (.iface 9 v) 20 9 true).run Tryz.prog w = .ok (.tuple #[v, .bool true]) w := by kernel_rfl

set_option maxRecDepth 100000 in
theorem implode_any (a : Option Addr) (cap : Nat) (zs : List Int) (w : World) (h : OwnAt w (.slice a zs.length cap) (zs.map boxI)) (hm : zs.length ≤ 1048576) :
    Calls Tryz.prog 11 #[.iface 32 (.slice a zs.length cap)] w fun r w' => r = .returned (.iface 9 (.string ⟨(encs zs).toArray⟩)) ∧ Below w.heap.size w w' := by
  have HO := Lib.hid h
  clear h
  have hb0 : (w.alloc (.cells #[.pointer none, .slice none 0 0] 44)).heap[w.heap.size]? = some (.cells #[.pointer none, .slice none 0 0] 44 (0, 0)) := heap_alloc_new w _
  have HB0 := Lib.hid hb0
  clear hb0
  go_enter Tryz.func11, Tryz.ntmps11
  go_wp2_with (go_at_call 12; refine (Tryz.Builder_Grow_fresh w.heap.size w.heap.size zs.length _ (Nat.le_refl _) HB0.out (by simp) (by omega)).mono ?_; rintro r w1 ⟨rfl, h1, B1⟩; have H1 := Lib.hid h1; have HB1 := Lib.hid B1; clear h1 B1)
  go_loopw [26] (fun vi wr => ∃ (k : Nat) (acc : List UInt8), vi = .int .i64 k ∧ k ≤ zs.length ∧ acc.length ≤ 4 * k ∧ Hid (acc = encs (zs.take k)) ∧ Hid (Lib.IsBuilderF 44 5 w.heap.size w.heap.size (Lib.byteCells acc) wr) ∧ Hid (Below w.heap.size w wr)) (fun vi _ => zs.length - (intOf vi).toNat)
  case atStart => exact ⟨0, [], rfl, Nat.zero_le _, by simp, Lib.hid rfl, Lib.hid (Lib.IsBuilderF.of (Or.inr H1.out)), Lib.hid (((Below.refl _ _).alloc (Nat.le_refl _) _).trans HB1.out)⟩
  case round =>
    obtain ⟨k, acc, rfl, hk, hal, HA, HI, HB⟩ := hrel
    by_cases hlt : k < zs.length
    · obtain ⟨b, off, rfl, hc⟩ := HO.out.at (by rw [List.length_map]; omega)
      have hc1 := hc k (by rw [List.length_map]; omega)
      have c1 : wr.cell? ⟨b, off + k, none⟩ = some (.iface 3 (.int .i64 (zs.getD k 0))) := (HB.out.cell (World.block_lt_of_cell? w _ hc1)).trans (hc1.trans (by simp [List.getD, hlt, boxI]))
      clear hc hc1
      have HT := Lib.hid (encs_snoc zs k hlt)
      rw [← HA.out] at HT
      have hl4 := encode_le (zs.getD k 0)
      have hl5 := encode_le 65533
      have HL : Hid ((acc ++ Lib.encodeRune (zs.getD k 0)).length ≤ 4 * (k + 1)) := Lib.hid (by rw [List.length_append]; omega)
      have HC := Lib.hid (Lib.byteCells_encodeRune (zs.getD k 0))
      have HD := Lib.hid (Lib.byteCells_encodeRune 65533)
      have HF : Hid (¬ (0 ≤ zs.getD k 0 ∧ zs.getD k 0 ≤ 1114111) → Lib.encodeRune (zs.getD k 0) = Lib.encodeRune 65533) := Lib.hid fun h => encode_far h
      clear hl4 hl5
      obtain ⟨x, hx⟩ : ∃ x, x = zs.getD k 0 := ⟨_, rfl⟩
      rw [← hx] at c1 HT HL HC HF
      clear hx
      by_cases q : 0 ≤ x ∧ x ≤ 1114111
      · obtain ⟨q0, q1⟩ := q
        go_wp2_with (first | (go_at_call 13; refine (toInt_int x _).mono ?_; rintro r w2 ⟨rfl, rfl⟩) | (go_at_call 14; refine (Tryz.Builder_WriteRune_k w.heap.size w.heap.size _ x (by omega) (by omega) _ HI.out (by rw [Lib.byteCells_length]; omega) HB.out.size).mono ?_; rintro r w2 ⟨rfl, h2, B2, _⟩; have H2 := Lib.hid h2; have HB2 := Lib.hid B2; clear h2 B2))
        have HI2 : Hid (Lib.IsBuilderF 44 5 w.heap.size w.heap.size (Lib.byteCells (acc ++ Lib.encodeRune x)) w2) := Lib.hid (by rw [Lib.byteCells_append, HC.out]; exact Or.inr H2.out)
        go_roundw
        case rel => exact ⟨k + 1, _, by go_num, by omega, HL.out, HT, HI2, Lib.hid (HB.out.trans HB2.out)⟩
        case measure => simp [intOf]; omega
      · have HE := Lib.hid (HF.out q)
        have q2 : x < 0 ∨ 1114111 < x := by omega
        clear q
        rcases q2 with q0 | q1
        · go_wp2_with (first | (go_at_call 13; refine (toInt_int x _).mono ?_; rintro r w2 ⟨rfl, rfl⟩) | (go_at_call 14; refine (Tryz.Builder_WriteRune_k w.heap.size w.heap.size _ 65533 (by omega) (by omega) _ HI.out (by rw [Lib.byteCells_length]; omega) HB.out.size).mono ?_; rintro r w2 ⟨rfl, h2, B2, _⟩; have H2 := Lib.hid h2; have HB2 := Lib.hid B2; clear h2 B2))
          have HI2 : Hid (Lib.IsBuilderF 44 5 w.heap.size w.heap.size (Lib.byteCells (acc ++ Lib.encodeRune x)) w2) := Lib.hid (by rw [HE.out, Lib.byteCells_append, HD.out]; exact Or.inr H2.out)
          go_roundw
          case rel => exact ⟨k + 1, _, by go_num, by omega, HL.out, HT, HI2, Lib.hid (HB.out.trans HB2.out)⟩
          case measure => simp [intOf]; omega
        · have q0 : 0 ≤ x := by omega
          go_wp2_with (first | (go_at_call 13; refine (toInt_int x _).mono ?_; rintro r w2 ⟨rfl, rfl⟩) | (go_at_call 14; refine (Tryz.Builder_WriteRune_k w.heap.size w.heap.size _ 65533 (by omega) (by omega) _ HI.out (by rw [Lib.byteCells_length]; omega) HB.out.size).mono ?_; rintro r w2 ⟨rfl, h2, B2, _⟩; have H2 := Lib.hid h2; have HB2 := Lib.hid B2; clear h2 B2))
          have HI2 : Hid (Lib.IsBuilderF 44 5 w.heap.size w.heap.size (Lib.byteCells (acc ++ Lib.encodeRune x)) w2) := Lib.hid (by rw [HE.out, Lib.byteCells_append, HD.out]; exact Or.inr H2.out)
          go_roundw
          case rel => exact ⟨k + 1, _, by go_num, by omega, HL.out, HT, HI2, Lib.hid (HB.out.trans HB2.out)⟩
          case measure => simp [intOf]; omega
    · obtain rfl : k = zs.length := by omega
      have HA2 : Hid (acc = encs zs) := Lib.hid (by rw [HA.out, List.take_length])
      go_wp2_with (go_at_call 15; refine (Tryz.Builder_String_any_k w.heap.size w.heap.size acc _ HI.out HB.out.size).mono ?_; rintro r w2 ⟨rfl, _, B2, _⟩; have HB2 := Lib.hid B2; clear B2)
      go_ret
      exact ⟨by rw [← HA2.out]; rfl, HB.out.trans HB2.out⟩
end Go.Proofs.YtkhjcknabkpfgaaGreatDoor
