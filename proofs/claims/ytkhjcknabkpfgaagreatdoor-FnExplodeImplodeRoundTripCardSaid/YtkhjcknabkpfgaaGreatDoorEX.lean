/- The walks of explode and of ZZexplodeInts: the code points of any string. -/
import Derived.Lib.OthersKept
import Derived.LoopTactic
import Derived.Test.YtkhjcknabkpfgaaGreatDoorIP
import Derived.Test.YtkhjcknabkpfgaaGreatDoorRU
namespace Go.Proofs.YtkhjcknabkpfgaaGreatDoor
open Go.RowKit
set_option linter.unusedVariables false

def runeCap (w : World) (s : ByteArray) : Nat := grownCap w (runeLen s) 0 21
def runeObj (w : World) (s : ByteArray) : Obj := .cells (Conv.runesFrom s s.size 0 #[] ++ Array.replicate (grownCap w (runeLen s) 0 21 - runeLen s) (.int .i32 0)) 21

theorem conv_runes (s : ByteArray) (hs : s.size ≤ 1048576) (w : World) : (convert 9 38 (.string s)).run Tryz.prog w = .ok (.slice (some ⟨w.heap.size, 0, none⟩) (runeLen s) (runeCap w s)) (w.drew.alloc (runeObj w s)) :=
  run_runes_of_string w 9 38 21 s Tryz.underlying9 Tryz.underlying38 Tryz.underlying21 (by have := (runeLen_spec s).1; show runeLen s ≤ _; omega)

/-- the j-th code point -/
def runeVal (s : ByteArray) (j : Nat) : Int := ((Utf8.decode s (runeAt s j)).1 : Int)
def runeF (s : ByteArray) (k : Nat) (j : Nat) : Value := if j < k then boxI (runeVal s j) else .nilIface
/-- the code points of s -/
def runeInts (s : ByteArray) : List Int := (List.range (runeLen s)).map (runeVal s)
theorem runeInts_len (s : ByteArray) : (runeInts s).length = runeLen s := by simp [runeInts]
theorem runeInts_get (s : ByteArray) (j : Nat) (h : j < runeLen s) : (runeInts s).getD j 0 = runeVal s j := by
  simp [runeInts, List.getD, h]

theorem rune_step {w : World} {b t n k : Nat} {s : ByteArray} (h : w.rowIs b t n (runeF s k)) : (w.setCell ⟨b, k, none⟩ (boxI (runeVal s k))).rowIs b t n (runeF s (k + 1)) := by
  refine (h.set k _).congr fun j hj => ?_
  unfold runeF
  by_cases e : j = k
  · subst e; simp
  · simp only [if_neg e]
    by_cases l : j < k
    · rw [if_pos l, if_pos (by omega)]
    · rw [if_neg l, if_neg (by omega)]
theorem rune_done {w : World} {b t : Nat} {s : ByteArray} (hm : runeLen s ≤ maxLen) (h : w.rowIs b t (runeLen s) (runeF s (runeLen s))) : OwnAt w (.slice (some ⟨b, 0, none⟩) (runeLen s) (runeLen s)) ((runeInts s).map boxI) := by
  refine OwnAt.of_row h (by rw [List.length_map, runeInts_len]) hm fun j hj => ?_
  unfold runeF
  rw [if_pos hj, ← runeInts_get s j hj]
  have : j < (runeInts s).length := by rw [runeInts_len]; exact hj
  simp [List.getD, this]

set_option maxRecDepth 100000 in
theorem explode_any (s : ByteArray) (w : World) (hs : s.size ≤ 1048576) :
    Calls Tryz.prog 10 #[.string s] w fun r w' => ∃ a cap, r = .returned (.slice a (runeLen s) cap) ∧ OwnAt w' (.slice a (runeLen s) cap) ((runeInts s).map boxI) ∧ Below w.heap.size w w' := by
  have hcv := conv_runes s hs
  have sp := runeLen_spec s
  have HRW : Hid (∀ w : World, (w.alloc (.cells (madeCells #[.nilIface] (runeLen s)) 20)).rowIs w.heap.size 20 (runeLen s) (runeF s 0)) := Lib.hid fun w => (World.rowIs_made w .nilIface (runeLen s) 20).congr fun j hj => by simp [runeF]
  have HDN : Hid (∀ (w : World) (b : Nat), w.rowIs b 20 (runeLen s) (runeF s (runeLen s)) → OwnAt w (.slice (some ⟨b, 0, none⟩) (runeLen s) (runeLen s)) ((runeInts s).map boxI)) := Lib.hid fun w b h => rune_done (by unfold maxLen; omega) h
  have n_le : runeLen s ≤ s.size := sp.1
  have SP := Lib.hid sp
  obtain ⟨n, hn⟩ : ∃ n, n = runeLen s := ⟨_, rfl⟩
  rw [← hn] at hcv HRW HDN n_le SP
  rw [← hn]
  have HN := Lib.hid hn
  clear hn sp
  have hmk := run_make_row' (P := Tryz.prog) 32 20 .nilIface 16 Tryz.underlying32 info_any rfl .i64 .i64 n (by omega) (by omega)
  go_enter Tryz.func10, Tryz.ntmps10
  go_wp2_with fail
  go_loopw [4] (fun vi wr => ∃ j : Nat, vi = .int .i64 j ∧ j ≤ n ∧ wr.heap[w.heap.size + 1 + 1]? = some (.stringIter s (runeAt s j)) ∧ Hid (wr.rowIs (w.heap.size + 1) 20 n (runeF s j)) ∧ Hid (Below w.heap.size w wr)) (fun vi _ => n + 1 - (intOf vi).toNat)
  case atStart =>
    refine ⟨0, rfl, Nat.zero_le _, ?_, ?_, ?_⟩
    · show _ = some (Obj.stringIter s 0)
      have := World.iter_heap ((w.alloc (runeObj w s)).alloc (Obj.cells (madeCells #[Value.nilIface] n) 20)).drew s 0
      simpa using this
    · have := HRW.out (w.alloc (runeObj w s))
      rw [World.size_alloc] at this
      exact Lib.hid ((this.drew).alloc _)
    · exact Lib.hid (((((Below.refl _ _).alloc (Nat.le_refl _) _).alloc (by simp) _).drew).alloc (by simp; omega) _)
  case round =>
    obtain ⟨j, rfl, hj, hit, HR, HB⟩ := hrel
    clear hmk hcv
    by_cases hlt : j < n
    · have hp : runeAt s j < s.size := SP.out.2.2 j hlt
      have hnx : ∀ ty, (Instr.next (.pointer (some ⟨w.heap.size + 1 + 1, 0, none⟩)) true ty).run Tryz.prog wr = _ := fun ty => Lib.run_next_any_at wr (w.heap.size + 1 + 1) s (runeAt s j) ty hit hp
      have hit2 := Lib.iterAt_heap wr (w.heap.size + 1 + 1) s (runeAt s j) (runeAt s j + (Utf8.decode s (runeAt s j)).2) hit
      have HB1 := Lib.hid (Lib.below_iterAt HB.out (k := w.heap.size + 1 + 1) (by omega) s (runeAt s j + (Utf8.decode s (runeAt s j)).2))
      have hst := runeAt_step s j hp
      have HR1 := Lib.hid (HR.out.of_block (Lib.iterAt_other wr (w.heap.size + 1 + 1) (w.heap.size + 1) s (runeAt s j + (Utf8.decode s (runeAt s j)).2) (by omega)))
      rw [← hst] at hnx hit2 HB1 HR1
      have c2 := HR1.out.cell hlt
      have c3 := HR1.out.frozen j
      have hd1 := decode_le s (runeAt s j)
      have HR2 := Lib.hid (rune_step HR1.out)
      have HB2 := Lib.hid (HB1.out.setCell (p := ⟨w.heap.size + 1, j, none⟩) (by show w.heap.size ≤ w.heap.size + 1; omega) (boxI (runeVal s j)))
      unfold boxI runeVal at HR2 HB2
      obtain ⟨p', hp'⟩ : ∃ p', p' = runeAt s (j + 1) := ⟨_, rfl⟩
      obtain ⟨rv, hrv⟩ : ∃ rv, rv = (Utf8.decode s (runeAt s j)).1 := ⟨_, rfl⟩
      rw [← hp'] at hnx hit2 HB1 HR1 c2 c3 HR2 HB2
      rw [← hrv] at hnx HR2 HB2 hd1
      have hit3 : ((wr.iterAt (w.heap.size + 1 + 1) s p').setCell ⟨w.heap.size + 1, j, none⟩ (.iface 3 (.int .i64 (rv : Int)))).heap[w.heap.size + 1 + 1]? = some (.stringIter s p') := (Below.heap_setCell _ _ _ _ (by show w.heap.size + 1 + 1 ≠ w.heap.size + 1; omega)).trans hit2
      have HP := Lib.hid hp'
      have HI3 := Lib.hid hit3
      clear hit3 hp' hrv hst
      go_wp2_with fail
      go_roundw
      case rel => exact ⟨j + 1, by go_num, by omega, by rw [← HP.out]; exact HI3.out, HR2, HB2⟩
      case measure => simp [intOf]; omega
    · obtain rfl : j = n := by omega
      have hp : ¬ runeAt s j < s.size := by have := SP.out.2.1; omega
      have hnx : ∀ ty, (Instr.next (.pointer (some ⟨w.heap.size + 1 + 1, 0, none⟩)) true ty).run Tryz.prog wr = _ := fun ty => Lib.run_next_end_at wr (w.heap.size + 1 + 1) s (runeAt s j) ty hit hp
      have HD := Lib.hid (HDN.out wr _ HR.out)
      go_wp2_with fail
      go_ret
      exact ⟨_, _, rfl, HD.out, HB.out⟩
end Go.Proofs.YtkhjcknabkpfgaaGreatDoor
