/- The walk of zzRuneStarts. -/
import Derived.LoopTactic
import Derived.Test.YtdieahcigcdnpaaGreatDoorAO
import Derived.Test.YtdieahcigcdnpaaGreatDoorRX
import Derived.Test.YtdieahcigcdnpaaGreatDoorPK
namespace Go.Proofs.YtdieahcigcdnpaaGreatDoor
open Go.RowKit
set_option linter.unusedVariables false

/-- where the code points begin, and the end -/
def starts (s : ByteArray) (k : Nat) : List Int := (List.range k).map fun j => (runeAt s j : Int)
theorem starts_len (s : ByteArray) (k : Nat) : (starts s k).length = k := by simp [starts]
theorem starts_snoc (s : ByteArray) (k : Nat) : (starts s k).map (Value.int .i64) ++ [Value.int .i64 (runeAt s k : Int)] = (starts s (k + 1)).map (Value.int .i64) := by
  unfold starts
  rw [List.range_succ, List.map_append, List.map_append]
  rfl
theorem starts_get (s : ByteArray) (k j : Nat) (h : j < k) : (starts s k).getD j 0 = (runeAt s j : Int) := by
  simp [starts, List.getD, h]

set_option maxRecDepth 100000 in
theorem starts_any (s : ByteArray) (n : Nat) (hn : n = runeLen s) (w : World) (hs : s.size ≤ 1048576) :
    Calls Tryz.prog 19 #[.string s] w fun r w' => ∃ a cap, r = .returned (.slice a (n + 1) cap) ∧ OwnAt w' (.slice a (n + 1) cap) ((starts s (n + 1)).map (Value.int .i64)) ∧ Below w.heap.size w w' := by
  obtain ⟨i0, hi, hz0, hz1, hz2⟩ := info_parts info_int
  have sp := runeLen_spec s
  rw [← hn] at sp
  have n_le : n ≤ s.size := sp.1
  have SP := Lib.hid sp
  clear hn sp
  have hw0 : (w.alloc (.cells #[] 3)).ownsRow w.heap.size 3 1 (.slice (some ⟨w.heap.size, 0, none⟩) 0 0) 0 [] := World.ownsRow_made w #[] 0 (Nat.le_refl _) (by unfold maxLen; omega) (by simp)
  have HW0 := Lib.hid hw0
  clear hw0
  go_enter Tryz.func19, Tryz.ntmps19
  go_wp2_with fail
  go_loopw [3, 4] (fun vy vi wr => ∃ (k : Nat) (ys : List Value), vi = .int .i64 (runeAt s k : Int) ∧ k ≤ n ∧ Hid (ys = (starts s k).map (Value.int .i64)) ∧ Hid (wr.ownsRow w.heap.size 3 1 vy k ys) ∧ Hid (Below w.heap.size w wr)) (fun _ vi _ => s.size - (intOf vi).toNat)
  case atStart => exact ⟨0, [], rfl, Nat.zero_le _, Lib.hid rfl, HW0, Lib.hid ((Below.refl _ _).alloc (Nat.le_refl _) _)⟩
  case round =>
    obtain ⟨k, ys, rfl, hk, HY, HR, HB⟩ := hrel
    by_cases hlt : k < n
    · have hp : runeAt s k < s.size := SP.out.2.2 k hlt
      have hw1 := width_pos s _ hp
      have hw2 := width_le s _ hp
      have hst := runeAt_step s k hp
      have HT := Lib.hid (starts_snoc s k)
      rw [← HY.out] at HT
      have hsz := HB.out.size
      have HS := Lib.hid hst
      clear hst
      obtain ⟨p, hpe⟩ : ∃ p, p = runeAt s k := ⟨_, rfl⟩
      rw [← hpe] at hp hw1 hw2 HS HT
      rw [← hpe]
      clear hpe
      go_wp2_with (first | (at_builtin; refine append_one _ rfl _ _ 28 rfl w.heap.size 3 i0 (.int .i64 0) 8 Tryz.underlying28 hi hz0 hz1 hz2 rfl _ _ _ rfl HR.out _ rfl rfl (by unfold maxLen; omega) (by omega) (by omega) ?_; intro v1 w1 hown1 hgrow1; have HB1 := Lib.hid (below_one HB.out hgrow1 HR.out (by omega) (Nat.le_refl _)); have HR1 := Lib.hid hown1; clear hown1 hgrow1) | (go_at_call 27; refine (rw_any s p _ hp hs).mono ?_; rintro r w2 ⟨rfl, rfl⟩))
      go_roundw
      case rel => exact ⟨k + 1, _, by rw [HS.out]; go_num, by omega, HT, HR1, HB1⟩
      case measure => simp [intOf]; omega
    · obtain rfl : k = n := by omega
      have hz : runeAt s k = s.size := SP.out.2.1
      have HT := Lib.hid (starts_snoc s k)
      rw [← HY.out, hz] at HT
      rw [hz]
      have hsz := HB.out.size
      clear hz
      go_wp2_with (at_builtin; refine append_one _ rfl _ _ 28 rfl w.heap.size 3 i0 (.int .i64 0) 8 Tryz.underlying28 hi hz0 hz1 hz2 rfl _ _ _ rfl HR.out _ rfl rfl (by unfold maxLen; omega) (by omega) (by omega) ?_; intro v1 w1 hown1 hgrow1; have HB1 := Lib.hid (below_one HB.out hgrow1 HR.out (by omega) (Nat.le_refl _)); have HR1 := Lib.hid hown1; clear hown1 hgrow1)
      go_ret
      have ho := OwnAt.of_owns HR1.out
      rw [HT.out] at ho
      obtain ⟨a1, c1, e1⟩ := ho.shape ((List.length_map ..).trans (starts_len s (k + 1)))
      exact ⟨a1, c1, congrArg Ending.returned e1, e1 ▸ ho, HB1.out⟩
end Go.Proofs.YtdieahcigcdnpaaGreatDoor
