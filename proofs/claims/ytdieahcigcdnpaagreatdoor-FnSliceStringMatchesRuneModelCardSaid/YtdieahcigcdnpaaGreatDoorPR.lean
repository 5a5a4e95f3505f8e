/- The walks of zzPickRunes and zzEqStrBytes. -/
import Derived.LoopTactic
import Derived.Deep.QuietTactic
import Derived.BigQuiet
import Derived.Test.YtdieahcigcdnpaaGreatDoorRS
import Derived.Test.YtdieahcigcdnpaaGreatDoorSS
namespace Go.Proofs.YtdieahcigcdnpaaGreatDoor
open Go.RowKit
set_option linter.unusedVariables false

theorem info_u8 : (Tryz.prog.info? 5).map (fun i => (i.zero, i.size, i.bytes)) = some (some (.int .u8 0), 1, 1) := by kernel_rfl

/-- the bytes as cells -/
def byteV (L : List UInt8) : List Value := L.map fun b => Value.int .u8 b.toNat
theorem size_list (s : ByteArray) : s.size = s.data.toList.length := by cases s; simp [ByteArray.size]
theorem get_list (s : ByteArray) (k : Nat) (h : k < s.size) : (s[k]'h) = s.data.toList.getD k 0 := by
  have hk : k < s.data.toList.length := by rw [← size_list]; exact h
  rw [List.getD_eq_getElem?_getD, List.getElem?_eq_getElem hk]
  cases s
  rfl
theorem pick_byte (s : ByteArray) (a j : Nat) (h : a ≤ j) (h1 : j < s.size) : byteV (win s.data.toList a j) ++ [Value.int .u8 ((s[j]'h1).toNat : Int)] = byteV (win s.data.toList a (j + 1)) := by
  rw [win_succ _ a j 0 (by rw [← size_list]; exact h1) h, get_list s j h1]
  simp [byteV]

theorem pickR_out (v : ByteArray) (st en k : Nat) (hse : st ≤ en) (h : k < st ∨ en ≤ k) : byteV (win v.data.toList (runeAt v st) (runeAt v (min (k + 1) en))) = byteV (win v.data.toList (runeAt v st) (runeAt v (min k en))) := by
  rcases h with h | h
  · rw [win_low _ _ _ (runeAt_le2 v _ _ (by omega)), win_low _ _ _ (runeAt_le2 v _ _ (by omega))]
  · rw [Nat.min_eq_right (by omega), Nat.min_eq_right (by omega)]

theorem OwnAt.cellInt {w wr : World} {a : Option Addr} {n cap j : Nat} {zs : List Int} (h : OwnAt w (.slice a n cap) (zs.map (Value.int .i64))) (hb : Below w.heap.size w wr) (hj : j < zs.length) :
    ∃ b off, a = some ⟨b, off, none⟩ ∧ wr.cell? ⟨b, off + j, none⟩ = some (.int .i64 (zs.getD j 0)) := by
  obtain ⟨b, off, rfl, hc⟩ := h.at (by rw [List.length_map]; omega)
  have hc1 := hc j (by rw [List.length_map]; omega)
  exact ⟨b, off, rfl, (hb.cell (World.block_lt_of_cell? w _ hc1)).trans (hc1.trans (by simp [List.getD, hj]))⟩

set_option maxRecDepth 100000 in
theorem pickRunes_any (v : ByteArray) (sb eb : Bool) (s e : Int) (n st en : Nat) (hn : n = runeLen v) (hst : (st : Int) = stOf sb s n) (hen : (en : Int) = enOf eb e st n) (w : World) (hs : v.size ≤ 1048576)
    (s0 : -9223372036854775808 ≤ s) (e0 : -9223372036854775808 ≤ e) :
    Calls Tryz.prog 10 #[.string v, .bool sb, .int .i64 s, .bool eb, .int .i64 e] w fun r w' => ∃ a cap, r = .returned (.slice a (runeAt v en - runeAt v st) cap) ∧ OwnAt w' (.slice a (runeAt v en - runeAt v st) cap) (byteV (win v.data.toList (runeAt v st) (runeAt v en))) ∧ Below w.heap.size w w' := by
  obtain ⟨i0, hi, hz0, hz1, hz2⟩ := info_parts info_u8
  have b1 := st_bounds sb s n (by omega)
  rw [← hst] at b1
  have b2 := en_bounds eb e st n (by omega) (by omega)
  rw [← hen] at b2
  have sp := runeLen_spec v
  rw [← hn] at sp
  have en_le : en ≤ n := by omega
  have st_le : st ≤ en := by omega
  have n_le : n ≤ v.size := sp.1
  have SP := Lib.hid sp
  have HW : Hid (∀ k : Nat, k < n → inR k n sb s eb e = (decide (st ≤ k) && decide (k < en))) := Lib.hid fun k hk => by
    rw [inR_window k n sb s eb e (by omega) (by omega), ← hst, ← hen]
    by_cases q1 : st ≤ k <;> by_cases q2 : k < en <;> simp [q1, q2] <;> omega
  have HST := Lib.hid (fun w => starts_any v n hn w hs)
  clear b1 b2 hst hen hn sp
  go_enter Tryz.func10, Tryz.ntmps10
  go_wp2_with (go_at_call 19; refine (HST.out _).mono ?_; rintro r w1 ⟨a1, c1, rfl, h1, B1⟩; have H1 := Lib.hid h1; have HB1 := Lib.hid B1; clear h1 B1)
  have HC : Hid (∀ wr, Below w1.heap.size w1 wr → ∀ j, j ≤ n → ∃ b off, a1 = some ⟨b, off, none⟩ ∧ wr.cell? ⟨b, off + j, none⟩ = some (.int .i64 (runeAt v j : Int))) := Lib.hid fun wr hb j hj => by
    have := H1.out.cellInt hb (j := j) (by rw [starts_len]; omega)
    rwa [starts_get v (n + 1) j (by omega)] at this
  have HW0 : Hid ((w1.alloc (.cells #[] 5)).ownsRow w1.heap.size 5 1 (.slice (some ⟨w1.heap.size, 0, none⟩) 0 0) 0 []) := Lib.hid (World.ownsRow_made w1 #[] 0 (Nat.le_refl _) (by unfold maxLen; omega) (by simp))
  go_loopw [13, 14] (fun vy vi wr => ∃ (k : Nat) (ys : List Value), vi = .int .i64 k ∧ k ≤ n ∧ ys.length ≤ v.size ∧ Hid (ys = byteV (win v.data.toList (runeAt v st) (runeAt v (min k en)))) ∧ Hid (wr.ownsRow w1.heap.size 5 1 vy ys.length ys) ∧ Hid (Below w1.heap.size w1 wr)) (fun _ vi _ => n - (intOf vi).toNat)
  case atStart => exact ⟨0, [], rfl, Nat.zero_le _, by simp, Lib.hid (by rw [win_low _ _ _ (runeAt_le2 v _ _ (by omega))]; rfl), HW0, Lib.hid ((Below.refl _ _).alloc (Nat.le_refl _) _)⟩
  case round =>
    obtain ⟨wa, hwa⟩ : ∃ wa, wa = wr := ⟨_, rfl⟩
    subst hwa
    obtain ⟨k, ys, rfl, hk, hyl, HY, HR, HB⟩ := hrel
    by_cases hlt : k < n
    · have hin := HW.out k hlt
      by_cases hq : st ≤ k ∧ k < en
      · have hin2 : inR k n sb s eb e = true := by rw [hin]; simp [hq.1, hq.2]
        clear hin
        have HY1 : Hid (ys = byteV (win v.data.toList (runeAt v st) (runeAt v k))) := Lib.hid (by have := HY.out; rwa [Nat.min_eq_left (by omega)] at this)
        have HM : Hid (min (k + 1) en = k + 1) := Lib.hid (Nat.min_eq_left (by omega))
        have hr1 := runeAt_le2 v st k hq.1
        have hr2 := runeAt_mono v k
        have hr3 := runeAt_le v (k + 1)
        obtain ⟨b, off, rfl, g1⟩ := HC.out wa HB.out k (by omega)
        have HC2 : Hid (∀ wr, Below w1.heap.size w1 wr → wr.cell? ⟨b, off + (k + 1), none⟩ = some (.int .i64 (runeAt v (k + 1) : Int))) := Lib.hid fun wr hb => by
          obtain ⟨b', off', e1, g⟩ := HC.out wr hb (k + 1) (by omega)
          simp only [Option.some.injEq, Addr.mk.injEq, and_true] at e1
          obtain ⟨rfl, rfl⟩ := e1
          exact g
        obtain ⟨p0, hp0⟩ : ∃ p0, p0 = runeAt v k := ⟨_, rfl⟩
        obtain ⟨p1, hp1⟩ : ∃ p1, p1 = runeAt v (k + 1) := ⟨_, rfl⟩
        rw [← hp0] at g1 hr1 hr2 HY1
        rw [← hp1] at hr2 hr3 HC2
        have HP1 := Lib.hid hp1
        clear hp0 hp1 hq
        obtain ⟨r0, hr0⟩ : ∃ r0, r0 = runeAt v st := ⟨_, rfl⟩
        rw [← hr0] at hr1 HY1
        have HR0 := Lib.hid hr0
        clear hr0
        go_wp2_with (go_at_call 20; refine (inRange_any _ _ _ _ _ _ _ (by omega) (by omega) (by omega) s0 e0).mono ?_; rintro r w2 ⟨rfl, rfl⟩)
        go_loopw [13, 15] (fun vy vj wr => ∃ (j : Nat) (ys : List Value), vj = .int .i64 j ∧ p0 ≤ j ∧ j ≤ p1 ∧ ys.length ≤ j ∧ Hid (ys = byteV (win v.data.toList r0 j)) ∧ Hid (wr.ownsRow w1.heap.size 5 1 vy ys.length ys) ∧ Hid (Below w1.heap.size w1 wr)) (fun _ vj _ => p1 - (intOf vj).toNat)
        case atStart => exact ⟨p0, ys, rfl, Nat.le_refl _, by omega, by rw [HY1.out]; unfold byteV; rw [List.length_map, win_len _ _ _ (by rw [← size_list]; omega)]; omega, HY1, HR, HB⟩
        case round =>
          obtain ⟨j, zs, rfl, hj0, hj1, hzl, HZ, HR1, HB1⟩ := hrel
          have g2 := HC2.out wr HB1.out
          clear g1
          by_cases hlt2 : j < p1
          · have hjs : j < v.size := by omega
            have HT := Lib.hid (pick_byte v r0 j (by omega) hjs)
            rw [← HZ.out] at HT
            have hsz := HB1.out.size
            obtain ⟨c, gc⟩ : ∃ c : Int, ((v[j]'hjs).toNat : Int) = c := ⟨_, rfl⟩
            rw [gc] at HT
            go_wp2_with (at_builtin; refine append_one _ rfl _ _ 26 rfl w1.heap.size 5 i0 (.int .u8 0) 1 Tryz.underlying26 hi hz0 hz1 hz2 rfl _ _ _ rfl HR1.out _ rfl rfl (by unfold maxLen; omega) (by omega) (by omega) ?_; intro v2 w2 hown1 hgrow1; have HB2 := Lib.hid (below_one HB1.out hgrow1 HR1.out (by omega) (Nat.le_refl _)); have HR2 := Lib.hid hown1; clear hown1 hgrow1)
            go_roundw
            case rel => exact ⟨j + 1, zs ++ [Value.int .u8 c], by go_num, by omega, by omega, by rw [List.length_append]; exact Nat.succ_le_succ hzl, HT, Lib.hid (by rw [List.length_append]; exact HR2.out), HB2⟩
            case measure => simp [intOf]; omega
          · obtain rfl : j = p1 := by omega
            go_wp2
            go_roundw
            case rel => exact ⟨k + 1, zs, by go_num, by omega, by omega, Lib.hid (by rw [HM.out, ← HP1.out, ← HR0.out]; exact HZ.out), HR1, HB1⟩
            case measure => simp [intOf]; omega
      · have hin2 : inR k n sb s eb e = false := by rw [hin]; simp; omega
        clear hin
        have HT := Lib.hid (HY.out.trans (pickR_out v st en k st_le (by omega)).symm)
        clear hq
        go_wp2_with (go_at_call 20; refine (inRange_any _ _ _ _ _ _ _ (by omega) (by omega) (by omega) s0 e0).mono ?_; rintro r w2 ⟨rfl, rfl⟩)
        go_roundw
        case rel => exact ⟨k + 1, ys, by go_num, by omega, hyl, HT, HR, HB⟩
        case measure => simp [intOf]; omega
    · obtain rfl : k = n := by omega
      have hy := HY.out
      rw [Nat.min_eq_right en_le] at hy
      have HY2 := Lib.hid hy
      clear hy
      go_wp2_with fail
      go_ret
      have ho := OwnAt.of_owns HR.out
      rw [HY2.out] at ho
      have hl : (byteV (win v.data.toList (runeAt v st) (runeAt v en))).length = runeAt v en - runeAt v st := by
        unfold byteV
        rw [List.length_map, win_len _ _ _ (by rw [← size_list]; exact runeAt_le v en)]
      obtain ⟨a2, c2, e1⟩ := ho.shape hl
      exact ⟨a2, c2, congrArg Ending.returned e1, e1 ▸ ho, HB1.out.trans (HB.out.mono HB1.out.size)⟩

set_option maxRecDepth 100000 in
theorem eqStr_any (s : ByteArray) (a : Option Addr) (cap : Nat) (w : World) (h : OwnAt w (.slice a s.size cap) (byteV s.data.toList)) (hs : s.size ≤ 1048576) :
    Calls Tryz.prog 9 #[.string s, .slice a s.size cap] w fun r w' => r = .returned (.bool true) ∧ Below w.heap.size w w' := by
  have H := Lib.hid h
  clear h
  have hl : (byteV s.data.toList).length = s.size := by unfold byteV; rw [List.length_map, ← size_list]
  have HL := Lib.hid hl
  clear hl
  obtain ⟨n, hn⟩ : ∃ n, n = s.size := ⟨_, rfl⟩
  rw [← hn] at H hs HL
  rw [← hn]
  have HN := Lib.hid hn
  have hn1 : n ≤ s.size := by omega
  have hn2 : s.size ≤ n := by omega
  clear hn
  go_enter Tryz.func9, Tryz.ntmps9
  go_wp2_with fail
  go_loopw [5] (fun vi wr => ∃ k : Nat, vi = .int .i64 k ∧ k ≤ n ∧ Hid (Below w.heap.size w wr)) (fun vi _ => n - (intOf vi).toNat)
  case atStart => exact ⟨0, rfl, Nat.zero_le _, Lib.hid (Below.refl _ _)⟩
  case round =>
    obtain ⟨k, rfl, hk, HB⟩ := hrel
    by_cases hlt : k < n
    · have hks : k < s.size := by omega
      obtain ⟨b, off, rfl, hc⟩ := H.out.at (by rw [HL.out]; omega)
      have hc1 := hc k (by rw [HL.out]; omega)
      have c1 : wr.cell? ⟨b, off + k, none⟩ = some (.int .u8 ((s[k]'hks).toNat : Int)) := (HB.out.cell (World.block_lt_of_cell? w _ hc1)).trans (hc1.trans (by
        have : k < s.data.toList.length := by rw [← size_list]; exact hks
        rw [get_list s k hks]
        simp only [byteV, List.getD, List.getElem?_map, List.getElem?_eq_getElem this]
        rfl))
      clear hc hc1
      obtain ⟨c, gc⟩ : ∃ c : Int, ((s[k]'hks).toNat : Int) = c := ⟨_, rfl⟩
      rw [gc] at c1
      have hki : (k : Int) < (n : Int) := by omega
      have hki2 : (k : Int) < (s.size : Int) := by omega
      go_wp2
      go_quiet (fail)
      go_wp2
      go_roundw
      case rel => exact ⟨k + 1, by go_num, by omega, Lib.hid (below_drewN HB.out _)⟩
      case measure => simp [intOf]; omega
    · obtain rfl : k = n := by omega
      go_wp2
      go_ret
      exact ⟨rfl, HB.out⟩
end Go.Proofs.YtdieahcigcdnpaaGreatDoor
