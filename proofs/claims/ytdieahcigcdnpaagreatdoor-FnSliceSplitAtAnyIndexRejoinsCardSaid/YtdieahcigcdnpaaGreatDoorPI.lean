/- The walks of zzPickInts and zzEqInts. -/
import Derived.LoopTactic
import Derived.Deep.QuietTactic
import Derived.BigQuiet
import Derived.Test.YtdieahcigcdnpaaGreatDoorPK
namespace Go.Proofs.YtdieahcigcdnpaaGreatDoor
open Go.RowKit
set_option linter.unusedVariables false

theorem pick_in (zs : List Int) (st en k : Nat) (h1 : st ≤ k) (h2 : k < en) (h3 : k < zs.length) : (win zs st (min k en)).map (Value.int .i64) ++ [.int .i64 (zs.getD k 0)] = (win zs st (min (k + 1) en)).map (Value.int .i64) := by
  rw [Nat.min_eq_left (by omega), Nat.min_eq_left (by omega), win_succ zs st k 0 h3 h1]
  simp
theorem pick_out (zs : List Int) (st en k : Nat) (hse : st ≤ en) (h : k < st ∨ en ≤ k) : (win zs st (min (k + 1) en)).map (Value.int .i64) = (win zs st (min k en)).map (Value.int .i64) := by
  rcases h with h | h
  · rw [win_low _ _ _ (by omega), win_low _ _ _ (by omega)]
  · rw [Nat.min_eq_right (by omega), Nat.min_eq_right (by omega)]

set_option maxRecDepth 100000 in
theorem pick_any (v : Value) (zs : List Int) (sb eb : Bool) (s e : Int) (st en : Nat) (hst : (st : Int) = stOf sb s zs.length) (hen : (en : Int) = enOf eb e st zs.length) (w : World) (h : OwnAt w v (zs.map (Value.int .i64))) (hm : zs.length ≤ 131072)
    (s0 : -9223372036854775808 ≤ s) (e0 : -9223372036854775808 ≤ e) :
    Calls Tryz.prog 15 #[v, .bool sb, .int .i64 s, .bool eb, .int .i64 e] w fun r w' => ∃ a cap, r = .returned (.slice a (en - st) cap) ∧ OwnAt w' (.slice a (en - st) cap) ((win zs st en).map (Value.int .i64)) ∧ Below w.heap.size w w' := by
  obtain ⟨i0, hi, hz0, hz1, hz2⟩ := info_parts info_int
  have b1 := st_bounds sb s zs.length (by omega)
  rw [← hst] at b1
  have b2 := en_bounds eb e st zs.length (by omega) (by omega)
  rw [← hen] at b2
  have en_le : en ≤ zs.length := by omega
  have st_le : st ≤ en := by omega
  have HW : Hid (∀ k : Nat, k < zs.length → inR k zs.length sb s eb e = (decide (st ≤ k) && decide (k < en))) := Lib.hid fun k hk => by
    rw [inR_window k zs.length sb s eb e (by omega) (by omega), ← hst, ← hen]
    by_cases q1 : st ≤ k <;> by_cases q2 : k < en <;> simp [q1, q2] <;> omega
  clear b1 b2 hst hen
  obtain ⟨a, cap, rfl⟩ := h.shape (List.length_map ..)
  have HO := Lib.hid h
  clear h
  go_enter Tryz.func15, Tryz.ntmps15
  go_wp2_with fail
  have hw0 : (w.alloc (.cells #[] 3)).ownsRow w.heap.size 3 1 (.slice (some ⟨w.heap.size, 0, none⟩) 0 0) 0 [] := World.ownsRow_made w #[] 0 (Nat.le_refl _) (by unfold maxLen; omega) (by simp)
  go_loopw [12, 13] (fun vy vi wr => ∃ (k : Nat) (ys : List Value), vi = .int .i64 k ∧ k ≤ zs.length ∧ ys.length ≤ k ∧ Hid (ys = (win zs st (min k en)).map (Value.int .i64)) ∧ Hid (wr.ownsRow w.heap.size 3 1 vy ys.length ys) ∧ Hid (Below w.heap.size w wr)) (fun _ vi _ => zs.length - (intOf vi).toNat)
  case atStart => exact ⟨0, [], rfl, Nat.zero_le _, by simp, Lib.hid (by rw [win_low _ _ _ (by omega)]; rfl), Lib.hid hw0, Lib.hid ((Below.refl _ _).alloc (Nat.le_refl _) _)⟩
  case round =>
    obtain ⟨k, ys, rfl, hk, hyl, HY, HR, HB⟩ := hrel
    clear hw0
    by_cases hlt : k < zs.length
    · have hin := HW.out k hlt
      by_cases hq : st ≤ k ∧ k < en
      · have hin2 : inR k zs.length sb s eb e = true := by rw [hin]; simp [hq.1, hq.2]
        clear hin
        obtain ⟨b, off, rfl, hc⟩ := HO.out.at (by rw [List.length_map]; omega)
        have hc1 := hc k (by rw [List.length_map]; omega)
        have c1 : wr.cell? ⟨b, off + k, none⟩ = some (.int .i64 (zs.getD k 0)) := (HB.out.cell (World.block_lt_of_cell? w _ hc1)).trans (hc1.trans (by simp [List.getD, hlt]))
        clear hc hc1
        have HT := Lib.hid (pick_in zs st en k hq.1 hq.2 hlt)
        rw [← HY.out] at HT
        have hsz := HB.out.size
        obtain ⟨x, hx⟩ : ∃ x, x = zs.getD k 0 := ⟨_, rfl⟩
        rw [← hx] at c1 HT
        clear hx hq
        go_wp2_with (first | (at_builtin; refine wpList_append_own _ rfl _ _ 28 rfl w.heap.size 3 i0 (.int .i64 0) 1 8 Tryz.underlying28 hi hz0 hz1 hz2 rfl (by decide) _ _ _ rfl (HR.out.alloc _) ⟨wr.heap.size, 0, none⟩ 1 1 [.int .i64 x] rfl rfl ?d1 ?d2 ?d3 ?d4 ?d5 ?_) | (go_at_call 20; refine (inRange_any _ _ _ _ _ _ _ (by omega) (by omega) (by omega) s0 e0).mono ?_; rintro r w2 ⟨rfl, rfl⟩))
        case d1 =>
          intro j u hj
          match j, hj with
          | 0, hj => simp at hj; subst hj; simp [Addr.add]
        case d2 => intro u hu; simp at hu; subst hu; rfl
        case d3 => unfold maxLen; omega
        case d4 => omega
        case d5 => simp; omega
        intro v1 w1 hown1 hgrow1 _
        have HR2 : Hid (w1.ownsRow w.heap.size 3 1 v1 (ys ++ [Value.int .i64 x]).length (ys ++ [Value.int .i64 x])) := Lib.hid (by rw [List.length_append]; exact hown1)
        have HB2 := Lib.hid ((HB.out.alloc hsz _).grown hgrow1 (by simp; omega) (fun j hj => (HR.out.lt j hj).1))
        clear hown1 hgrow1
        go_wp2
        go_roundw
        case rel => exact ⟨k + 1, _, by go_num, by omega, by rw [List.length_append]; exact Nat.succ_le_succ hyl, HT, HR2, HB2⟩
        case measure => simp [intOf]; omega
      · have hin2 : inR k zs.length sb s eb e = false := by rw [hin]; simp; omega
        clear hin
        have HT := Lib.hid (HY.out.trans (pick_out zs st en k st_le (by omega)).symm)
        clear hq
        go_wp2_with (go_at_call 20; refine (inRange_any _ _ _ _ _ _ _ (by omega) (by omega) (by omega) s0 e0).mono ?_; rintro r w2 ⟨rfl, rfl⟩)
        go_roundw
        case rel => exact ⟨k + 1, ys, by go_num, by omega, by omega, HT, HR, HB⟩
        case measure => simp [intOf]; omega
    · obtain rfl : k = zs.length := by omega
      go_wp2
      go_ret
      have hy := HY.out
      rw [Nat.min_eq_right en_le] at hy
      have ho := OwnAt.of_owns HR.out
      rw [hy] at ho
      obtain ⟨a1, c1, e1⟩ := ho.shape ((List.length_map ..).trans (win_len zs st en en_le))
      exact ⟨a1, c1, congrArg Ending.returned e1, e1 ▸ ho, HB.out⟩

set_option maxRecDepth 100000 in
/-- zzEqInts says yes of two slices that hold the same -/
theorem eqInts_same (a1 a2 : Option Addr) (n c1 c2 : Nat) (zs : List Int) (hn : zs.length = n) (hm : n ≤ 131072) (w : World) (h1 : OwnAt w (.slice a1 n c1) (zs.map (Value.int .i64))) (h2 : OwnAt w (.slice a2 n c2) (zs.map (Value.int .i64))) :
    Calls Tryz.prog 14 #[.slice a1 n c1, .slice a2 n c2] w fun r w' => r = .returned (.bool true) ∧ Below w.heap.size w w' := by
  have H1 := Lib.hid h1
  have H2 := Lib.hid h2
  clear h1 h2
  have HN := Lib.hid hn
  clear hn
  go_enter Tryz.func14, Tryz.ntmps14
  go_wp2
  go_loopw [5] (fun vi wr => ∃ k : Nat, vi = .int .i64 k ∧ k ≤ n ∧ Hid (Below w.heap.size w wr)) (fun vi _ => n - (intOf vi).toNat)
  case atStart => exact ⟨0, rfl, Nat.zero_le _, Lib.hid (Below.refl _ _)⟩
  case round =>
    obtain ⟨k, rfl, hk, HB⟩ := hrel
    by_cases hlt : k < n
    · have hlt' : k < zs.length := by have := HN.out; omega
      obtain ⟨b, off, rfl, hc⟩ := H1.out.at (by rw [List.length_map]; omega)
      obtain ⟨b', off', rfl, hc'⟩ := H2.out.at (by rw [List.length_map]; omega)
      have hc1 := hc k (by rw [List.length_map]; omega)
      have hc2 := hc' k (by rw [List.length_map]; omega)
      have c1 : wr.cell? ⟨b, off + k, none⟩ = some (.int .i64 (zs.getD k 0)) := (HB.out.cell (World.block_lt_of_cell? w _ hc1)).trans (hc1.trans (by simp [List.getD, hlt']))
      have c2 : wr.cell? ⟨b', off' + k, none⟩ = some (.int .i64 (zs.getD k 0)) := (HB.out.cell (World.block_lt_of_cell? w _ hc2)).trans (hc2.trans (by simp [List.getD, hlt']))
      clear hc hc1 hc' hc2 hlt'
      obtain ⟨x, hx⟩ : ∃ x, x = zs.getD k 0 := ⟨_, rfl⟩
      rw [← hx] at c1 c2
      clear hx
      have hki : (k : Int) < (n : Int) := by omega
      go_wp2
      go_quiet (fail)
      go_wp2
      go_roundw
      case rel => exact ⟨k + 1, by go_num, by omega, Lib.hid (below_drewN HB.out _)⟩
      case measure => simp [intOf]; omega
    · obtain rfl : k = n := by omega
      go_wp2
      go_ret
      exact ⟨rfl, HB.out⟩

end Go.Proofs.YtdieahcigcdnpaaGreatDoor
