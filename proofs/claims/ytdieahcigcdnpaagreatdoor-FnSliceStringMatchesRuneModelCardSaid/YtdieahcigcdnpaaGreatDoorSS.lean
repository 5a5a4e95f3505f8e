/- The walk of sliceString at two ints or nil. -/
import Derived.Lib.OthersKept
import Derived.LoopTactic
import Derived.Test.YtdieahcigcdnpaaGreatDoorSL1
import Derived.Test.YtdieahcigcdnpaaGreatDoorRU
namespace Go.Proofs.YtdieahcigcdnpaaGreatDoor
open Go.RowKit
set_option linter.unusedVariables false

def runeCap (w : World) (s : ByteArray) : Nat := grownCap w (runeLen s) 0 21
def runeObj (w : World) (s : ByteArray) : Obj := .cells (Conv.runesFrom s s.size 0 #[] ++ Array.replicate (grownCap w (runeLen s) 0 21 - runeLen s) (.int .i32 0)) 21

theorem conv_runes (s : ByteArray) (hs : s.size ≤ 1048576) (w : World) : (convert 9 45 (.string s)).run Tryz.prog w = .ok (.slice (some ⟨w.heap.size, 0, none⟩) (runeLen s) (runeCap w s)) (w.drew.alloc (runeObj w s)) :=
  run_runes_of_string w 9 45 21 s Tryz.underlying9 Tryz.underlying45 Tryz.underlying21 (by have := (runeLen_spec s).1; show runeLen s ≤ _; omega)
theorem runeAt_le2 (s : ByteArray) (a b : Nat) (h : a ≤ b) : runeAt s a ≤ runeAt s b := by
  have := runeAt_mono_le s a (b - a)
  rwa [Nat.add_sub_cancel' h] at this

set_option maxRecDepth 100000 in
theorem sliceString_tt (s : ByteArray) (si ei : Int) (n st en : Nat) (hn : n = runeLen s) (hc : clampI si 0 n = st) (hd : clampI ei st n = en) (h1 : st ≤ en) (h2 : en ≤ n) (w : World) (hs : s.size ≤ 1048576)
    (s0 : -9223372036854775808 ≤ si) (e0 : -9223372036854775808 ≤ ei) :
    Calls Tryz.prog 18 #[.string s, .iface 3 (.int .i64 ei), .iface 3 (.int .i64 si)] w fun r w' => r = .returned (.iface 9 (.string (s.extract (runeAt s st) (runeAt s en)))) ∧ Below w.heap.size w w' := by
  have hcv := conv_runes s hs
  rw [← hn] at hcv
  have sp := runeLen_spec s
  rw [← hn] at sp
  have n_le : n ≤ s.size := sp.1
  have SP := Lib.hid sp
  have HN := Lib.hid hn
  have ord : runeAt s st ≤ runeAt s en := runeAt_le2 s _ _ h1
  have top : runeAt s en ≤ s.size := runeAt_le s _
  clear hn sp
  by_cases q1 : st < n
  · by_cases q2 : en < n
    · go_enter Tryz.func18, Tryz.ntmps18
      go_wp2_with (first | (go_at_call 24; refine (toInt_int si _).mono ?_; rintro r w2 ⟨rfl, rfl⟩) | (go_at_call 26; refine (toIntCeil_int ei _).mono ?_; rintro r w2 ⟨rfl, rfl⟩) | (go_at_call 25; refine (clamp_any _ _ _ _ (by omega) (by omega) (by omega)).mono ?_; rintro r w3 ⟨rfl, rfl⟩))
      go_loopw [7] (fun vs wr => ∃ j : Nat, vs = .int .i64 ((st : Int) - (j : Int)) ∧ j ≤ st ∧ wr.heap[w.heap.size + 1]? = some (.stringIter s (runeAt s j)) ∧ Hid (Below w.heap.size w wr)) (fun vs _ => (intOf vs).toNat)
      case atStart =>
        refine ⟨0, by go_num, Nat.zero_le _, ?_, Lib.hid ((((Below.refl _ _).alloc (Nat.le_refl _) _).drew).alloc (by simp) _)⟩
        show _ = some (Obj.stringIter s 0)
        have := World.iter_heap (w.alloc (runeObj w s)).drew s 0
        simpa using this
      case round =>
        obtain ⟨wa, hwa⟩ : ∃ wa, wa = wr := ⟨_, rfl⟩
        subst hwa
        obtain ⟨j, rfl, hj, hit, HB⟩ := hrel
        have hp : runeAt s j < s.size := SP.out.2.2 j (by omega)
        have hnx : ∀ ty, (Instr.next (.pointer (some ⟨w.heap.size + 1, 0, none⟩)) true ty).run Tryz.prog wa = _ := fun ty => Lib.run_next_any_at wa (w.heap.size + 1) s (runeAt s j) ty hit hp
        have hit2 := Lib.iterAt_heap wa (w.heap.size + 1) s (runeAt s j) (runeAt s j + (Utf8.decode s (runeAt s j)).2) hit
        have HB2 := Lib.hid (Lib.below_iterAt HB.out (k := w.heap.size + 1) (by omega) s (runeAt s j + (Utf8.decode s (runeAt s j)).2))
        have hst := runeAt_step s j hp
        by_cases hlt : j < st
        · go_wp2_with fail
          go_roundw
          case rel => exact ⟨j + 1, by go_num, by omega, by rw [hst]; exact hit2, HB2⟩
          case measure => simp [intOf]; omega
        · obtain rfl : j = st := by omega
          go_wp2_with fail
          have hsz2 : w.heap.size ≤ (wa.iterAt (w.heap.size + 1) s (runeAt s j + (Utf8.decode s (runeAt s j)).2)).heap.size := HB2.out.size
          go_loopw [8] (fun vs wr => ∃ i : Nat, vs = .int .i64 ((en : Int) - (i : Int)) ∧ i ≤ en ∧ wr.heap[(wa.iterAt (w.heap.size + 1) s (runeAt s j + (Utf8.decode s (runeAt s j)).2)).heap.size]? = some (.stringIter s (runeAt s i)) ∧ Hid (Below w.heap.size w wr)) (fun vs _ => (intOf vs).toNat)
          case atStart =>
            refine ⟨0, by go_num, Nat.zero_le _, ?_, Lib.hid (HB2.out.alloc hsz2 _)⟩
            show _ = some (Obj.stringIter s 0)
            have := World.iter_heap (wa.iterAt (w.heap.size + 1) s (runeAt s j + (Utf8.decode s (runeAt s j)).2)) s 0
            simpa using this
          case round =>
            obtain ⟨i, rfl, hi, hit3, HB3⟩ := hrel
            have hp3 : runeAt s i < s.size := SP.out.2.2 i (by omega)
            have hnx3 : ∀ ty, (Instr.next (.pointer (some ⟨(wa.iterAt (w.heap.size + 1) s (runeAt s j + (Utf8.decode s (runeAt s j)).2)).heap.size, 0, none⟩)) true ty).run Tryz.prog wr = _ := fun ty => Lib.run_next_any_at wr (wa.iterAt (w.heap.size + 1) s (runeAt s j + (Utf8.decode s (runeAt s j)).2)).heap.size s (runeAt s i) ty hit3 hp3
            have hit4 := Lib.iterAt_heap wr (wa.iterAt (w.heap.size + 1) s (runeAt s j + (Utf8.decode s (runeAt s j)).2)).heap.size s (runeAt s i) (runeAt s i + (Utf8.decode s (runeAt s i)).2) hit3
            have HB4 := Lib.hid (Lib.below_iterAt HB3.out (k := (wa.iterAt (w.heap.size + 1) s (runeAt s j + (Utf8.decode s (runeAt s j)).2)).heap.size) hsz2 s (runeAt s i + (Utf8.decode s (runeAt s i)).2))
            have hst3 := runeAt_step s i hp3
            by_cases hlt3 : i < en
            · go_wp2_with fail
              go_roundw
              case rel => exact ⟨i + 1, by go_num, by omega, by rw [hst3]; exact hit4, HB4⟩
              case measure => simp [intOf]; omega
            · obtain rfl : i = en := by omega
              go_wp2_with fail
              go_ret
              exact ⟨rfl, HB4.out⟩
    · obtain rfl : en = n := by omega
      go_enter Tryz.func18, Tryz.ntmps18
      go_wp2_with (first | (go_at_call 24; refine (toInt_int si _).mono ?_; rintro r w2 ⟨rfl, rfl⟩) | (go_at_call 26; refine (toIntCeil_int ei _).mono ?_; rintro r w2 ⟨rfl, rfl⟩) | (go_at_call 25; refine (clamp_any _ _ _ _ (by omega) (by omega) (by omega)).mono ?_; rintro r w3 ⟨rfl, rfl⟩))
      go_loopw [7] (fun vs wr => ∃ j : Nat, vs = .int .i64 ((st : Int) - (j : Int)) ∧ j ≤ st ∧ wr.heap[w.heap.size + 1]? = some (.stringIter s (runeAt s j)) ∧ Hid (Below w.heap.size w wr)) (fun vs _ => (intOf vs).toNat)
      case atStart =>
        refine ⟨0, by go_num, Nat.zero_le _, ?_, Lib.hid ((((Below.refl _ _).alloc (Nat.le_refl _) _).drew).alloc (by simp) _)⟩
        show _ = some (Obj.stringIter s 0)
        have := World.iter_heap (w.alloc (runeObj w s)).drew s 0
        simpa using this
      case round =>
        obtain ⟨wa, hwa⟩ : ∃ wa, wa = wr := ⟨_, rfl⟩
        subst hwa
        obtain ⟨j, rfl, hj, hit, HB⟩ := hrel
        have hp : runeAt s j < s.size := SP.out.2.2 j (by omega)
        have hnx : ∀ ty, (Instr.next (.pointer (some ⟨w.heap.size + 1, 0, none⟩)) true ty).run Tryz.prog wa = _ := fun ty => Lib.run_next_any_at wa (w.heap.size + 1) s (runeAt s j) ty hit hp
        have hit2 := Lib.iterAt_heap wa (w.heap.size + 1) s (runeAt s j) (runeAt s j + (Utf8.decode s (runeAt s j)).2) hit
        have HB2 := Lib.hid (Lib.below_iterAt HB.out (k := w.heap.size + 1) (by omega) s (runeAt s j + (Utf8.decode s (runeAt s j)).2))
        have hst := runeAt_step s j hp
        by_cases hlt : j < st
        · go_wp2_with fail
          go_roundw
          case rel => exact ⟨j + 1, by go_num, by omega, by rw [hst]; exact hit2, HB2⟩
          case measure => simp [intOf]; omega
        · obtain rfl : j = st := by omega
          have tp := SP.out.2.1
          have TP := Lib.hid tp
          clear hit hit2 hst
          go_wp2_with fail
          go_ret
          exact ⟨by first | rfl | (rw [tp]; rfl) | (simp only [tp]; rfl), HB2.out⟩
  · obtain rfl : st = n := by omega
    obtain rfl : en = st := by omega
    have tp := SP.out.2.1
    have ee : s.extract s.size s.size = ByteArray.empty := by
      have : (s.extract s.size s.size).size = 0 := by simp
      cases hx : s.extract s.size s.size
      rw [hx] at this
      congr 1
      exact Array.eq_empty_of_size_eq_zero this
    rw [tp, ee]
    clear ee tp
    go_enter Tryz.func18, Tryz.ntmps18
    go_wp2_with (first | (go_at_call 24; refine (toInt_int si _).mono ?_; rintro r w2 ⟨rfl, rfl⟩) | (go_at_call 26; refine (toIntCeil_int ei _).mono ?_; rintro r w2 ⟨rfl, rfl⟩) | (go_at_call 25; refine (clamp_any _ _ _ _ (by omega) (by omega) (by omega)).mono ?_; rintro r w3 ⟨rfl, rfl⟩))
    go_ret
    exact ⟨rfl, (((Below.refl _ _).alloc (Nat.le_refl _) _).drew)⟩
set_option maxRecDepth 100000 in
theorem sliceString_tf (s : ByteArray) (si ei : Int) (n st : Nat) (hn : n = runeLen s) (hc : clampI si 0 n = st) (h1 : st ≤ n) (h2 : n ≤ n) (w : World) (hs : s.size ≤ 1048576)
    (s0 : -9223372036854775808 ≤ si) (e0 : -9223372036854775808 ≤ ei) :
    Calls Tryz.prog 18 #[.string s, .nilIface, .iface 3 (.int .i64 si)] w fun r w' => r = .returned (.iface 9 (.string (s.extract (runeAt s st) (runeAt s n)))) ∧ Below w.heap.size w w' := by
  have hcv := conv_runes s hs
  rw [← hn] at hcv
  have sp := runeLen_spec s
  rw [← hn] at sp
  have n_le : n ≤ s.size := sp.1
  have SP := Lib.hid sp
  have HN := Lib.hid hn
  have ord : runeAt s st ≤ runeAt s n := runeAt_le2 s _ _ h1
  have top : runeAt s n ≤ s.size := runeAt_le s _
  clear hn sp
  by_cases q1 : st < n
  · go_enter Tryz.func18, Tryz.ntmps18
    go_wp2_with (first | (go_at_call 24; refine (toInt_int si _).mono ?_; rintro r w2 ⟨rfl, rfl⟩) | (go_at_call 26; refine (toIntCeil_int ei _).mono ?_; rintro r w2 ⟨rfl, rfl⟩) | (go_at_call 25; refine (clamp_any _ _ _ _ (by omega) (by omega) (by omega)).mono ?_; rintro r w3 ⟨rfl, rfl⟩))
    go_loopw [7] (fun vs wr => ∃ j : Nat, vs = .int .i64 ((st : Int) - (j : Int)) ∧ j ≤ st ∧ wr.heap[w.heap.size + 1]? = some (.stringIter s (runeAt s j)) ∧ Hid (Below w.heap.size w wr)) (fun vs _ => (intOf vs).toNat)
    case atStart =>
      refine ⟨0, by go_num, Nat.zero_le _, ?_, Lib.hid ((((Below.refl _ _).alloc (Nat.le_refl _) _).drew).alloc (by simp) _)⟩
      show _ = some (Obj.stringIter s 0)
      have := World.iter_heap (w.alloc (runeObj w s)).drew s 0
      simpa using this
    case round =>
      obtain ⟨wa, hwa⟩ : ∃ wa, wa = wr := ⟨_, rfl⟩
      subst hwa
      obtain ⟨j, rfl, hj, hit, HB⟩ := hrel
      have hp : runeAt s j < s.size := SP.out.2.2 j (by omega)
      have hnx : ∀ ty, (Instr.next (.pointer (some ⟨w.heap.size + 1, 0, none⟩)) true ty).run Tryz.prog wa = _ := fun ty => Lib.run_next_any_at wa (w.heap.size + 1) s (runeAt s j) ty hit hp
      have hit2 := Lib.iterAt_heap wa (w.heap.size + 1) s (runeAt s j) (runeAt s j + (Utf8.decode s (runeAt s j)).2) hit
      have HB2 := Lib.hid (Lib.below_iterAt HB.out (k := w.heap.size + 1) (by omega) s (runeAt s j + (Utf8.decode s (runeAt s j)).2))
      have hst := runeAt_step s j hp
      by_cases hlt : j < st
      · go_wp2_with fail
        go_roundw
        case rel => exact ⟨j + 1, by go_num, by omega, by rw [hst]; exact hit2, HB2⟩
        case measure => simp [intOf]; omega
      · obtain rfl : j = st := by omega
        have tp := SP.out.2.1
        have TP := Lib.hid tp
        clear hit hit2 hst
        go_wp2_with fail
        go_ret
        exact ⟨by first | rfl | (rw [tp]; rfl) | (simp only [tp]; rfl), HB2.out⟩
  · obtain rfl : st = n := by omega
    have tp := SP.out.2.1
    have ee : s.extract s.size s.size = ByteArray.empty := by
      have : (s.extract s.size s.size).size = 0 := by simp
      cases hx : s.extract s.size s.size
      rw [hx] at this
      congr 1
      exact Array.eq_empty_of_size_eq_zero this
    rw [tp, ee]
    clear ee tp
    go_enter Tryz.func18, Tryz.ntmps18
    go_wp2_with (first | (go_at_call 24; refine (toInt_int si _).mono ?_; rintro r w2 ⟨rfl, rfl⟩) | (go_at_call 26; refine (toIntCeil_int ei _).mono ?_; rintro r w2 ⟨rfl, rfl⟩) | (go_at_call 25; refine (clamp_any _ _ _ _ (by omega) (by omega) (by omega)).mono ?_; rintro r w3 ⟨rfl, rfl⟩))
    go_ret
    exact ⟨rfl, (((Below.refl _ _).alloc (Nat.le_refl _) _).drew)⟩
set_option maxRecDepth 100000 in
theorem sliceString_ft (s : ByteArray) (si ei : Int) (n en : Nat) (hn : n = runeLen s) (hd : clampI ei 0 n = en) (h1 : 0 ≤ en) (h2 : en ≤ n) (w : World) (hs : s.size ≤ 1048576)
    (s0 : -9223372036854775808 ≤ si) (e0 : -9223372036854775808 ≤ ei) :
    Calls Tryz.prog 18 #[.string s, .iface 3 (.int .i64 ei), .nilIface] w fun r w' => r = .returned (.iface 9 (.string (s.extract (runeAt s 0) (runeAt s en)))) ∧ Below w.heap.size w w' := by
  have hcv := conv_runes s hs
  rw [← hn] at hcv
  have sp := runeLen_spec s
  rw [← hn] at sp
  have n_le : n ≤ s.size := sp.1
  have SP := Lib.hid sp
  have HN := Lib.hid hn
  have ord : runeAt s 0 ≤ runeAt s en := runeAt_le2 s _ _ h1
  have top : runeAt s en ≤ s.size := runeAt_le s _
  clear hn sp
  by_cases q1 : 0 < n
  · by_cases q2 : en < n
    · go_enter Tryz.func18, Tryz.ntmps18
      go_wp2_with (first | (go_at_call 24; refine (toInt_int si _).mono ?_; rintro r w2 ⟨rfl, rfl⟩) | (go_at_call 26; refine (toIntCeil_int ei _).mono ?_; rintro r w2 ⟨rfl, rfl⟩) | (go_at_call 25; refine (clamp_any _ _ _ _ (by omega) (by omega) (by omega)).mono ?_; rintro r w3 ⟨rfl, rfl⟩))
      go_loopw [7] (fun vs wr => ∃ j : Nat, vs = .int .i64 ((0 : Int) - (j : Int)) ∧ j ≤ 0 ∧ wr.heap[w.heap.size + 1]? = some (.stringIter s (runeAt s j)) ∧ Hid (Below w.heap.size w wr)) (fun vs _ => (intOf vs).toNat)
      case atStart =>
        refine ⟨0, by go_num, Nat.zero_le _, ?_, Lib.hid ((((Below.refl _ _).alloc (Nat.le_refl _) _).drew).alloc (by simp) _)⟩
        show _ = some (Obj.stringIter s 0)
        have := World.iter_heap (w.alloc (runeObj w s)).drew s 0
        simpa using this
      case round =>
        obtain ⟨wa, hwa⟩ : ∃ wa, wa = wr := ⟨_, rfl⟩
        subst hwa
        obtain ⟨j, rfl, hj, hit, HB⟩ := hrel
        have hp : runeAt s j < s.size := SP.out.2.2 j (by omega)
        have hnx : ∀ ty, (Instr.next (.pointer (some ⟨w.heap.size + 1, 0, none⟩)) true ty).run Tryz.prog wa = _ := fun ty => Lib.run_next_any_at wa (w.heap.size + 1) s (runeAt s j) ty hit hp
        have hit2 := Lib.iterAt_heap wa (w.heap.size + 1) s (runeAt s j) (runeAt s j + (Utf8.decode s (runeAt s j)).2) hit
        have HB2 := Lib.hid (Lib.below_iterAt HB.out (k := w.heap.size + 1) (by omega) s (runeAt s j + (Utf8.decode s (runeAt s j)).2))
        have hst := runeAt_step s j hp
        by_cases hlt : j < 0
        · exact absurd hlt (by omega)
        · obtain rfl : j = 0 := by omega
          go_wp2_with fail
          have hsz2 : w.heap.size ≤ (wa.iterAt (w.heap.size + 1) s (runeAt s 0 + (Utf8.decode s (runeAt s 0)).2)).heap.size := HB2.out.size
          go_loopw [8] (fun vs wr => ∃ i : Nat, vs = .int .i64 ((en : Int) - (i : Int)) ∧ i ≤ en ∧ wr.heap[(wa.iterAt (w.heap.size + 1) s (runeAt s 0 + (Utf8.decode s (runeAt s 0)).2)).heap.size]? = some (.stringIter s (runeAt s i)) ∧ Hid (Below w.heap.size w wr)) (fun vs _ => (intOf vs).toNat)
          case atStart =>
            refine ⟨0, by go_num, Nat.zero_le _, ?_, Lib.hid (HB2.out.alloc hsz2 _)⟩
            show _ = some (Obj.stringIter s 0)
            have := World.iter_heap (wa.iterAt (w.heap.size + 1) s (runeAt s 0 + (Utf8.decode s (runeAt s 0)).2)) s 0
            simpa using this
          case round =>
            obtain ⟨i, rfl, hi, hit3, HB3⟩ := hrel
            have hp3 : runeAt s i < s.size := SP.out.2.2 i (by omega)
            have hnx3 : ∀ ty, (Instr.next (.pointer (some ⟨(wa.iterAt (w.heap.size + 1) s (runeAt s 0 + (Utf8.decode s (runeAt s 0)).2)).heap.size, 0, none⟩)) true ty).run Tryz.prog wr = _ := fun ty => Lib.run_next_any_at wr (wa.iterAt (w.heap.size + 1) s (runeAt s 0 + (Utf8.decode s (runeAt s 0)).2)).heap.size s (runeAt s i) ty hit3 hp3
            have hit4 := Lib.iterAt_heap wr (wa.iterAt (w.heap.size + 1) s (runeAt s 0 + (Utf8.decode s (runeAt s 0)).2)).heap.size s (runeAt s i) (runeAt s i + (Utf8.decode s (runeAt s i)).2) hit3
            have HB4 := Lib.hid (Lib.below_iterAt HB3.out (k := (wa.iterAt (w.heap.size + 1) s (runeAt s 0 + (Utf8.decode s (runeAt s 0)).2)).heap.size) hsz2 s (runeAt s i + (Utf8.decode s (runeAt s i)).2))
            have hst3 := runeAt_step s i hp3
            by_cases hlt3 : i < en
            · go_wp2_with fail
              go_roundw
              case rel => exact ⟨i + 1, by go_num, by omega, by rw [hst3]; exact hit4, HB4⟩
              case measure => simp [intOf]; omega
            · obtain rfl : i = en := by omega
              go_wp2_with fail
              go_ret
              exact ⟨rfl, HB4.out⟩
    · obtain rfl : en = n := by omega
      go_enter Tryz.func18, Tryz.ntmps18
      go_wp2_with (first | (go_at_call 24; refine (toInt_int si _).mono ?_; rintro r w2 ⟨rfl, rfl⟩) | (go_at_call 26; refine (toIntCeil_int ei _).mono ?_; rintro r w2 ⟨rfl, rfl⟩) | (go_at_call 25; refine (clamp_any _ _ _ _ (by omega) (by omega) (by omega)).mono ?_; rintro r w3 ⟨rfl, rfl⟩))
      go_loopw [7] (fun vs wr => ∃ j : Nat, vs = .int .i64 ((0 : Int) - (j : Int)) ∧ j ≤ 0 ∧ wr.heap[w.heap.size + 1]? = some (.stringIter s (runeAt s j)) ∧ Hid (Below w.heap.size w wr)) (fun vs _ => (intOf vs).toNat)
      case atStart =>
        refine ⟨0, by go_num, Nat.zero_le _, ?_, Lib.hid ((((Below.refl _ _).alloc (Nat.le_refl _) _).drew).alloc (by simp) _)⟩
        show _ = some (Obj.stringIter s 0)
        have := World.iter_heap (w.alloc (runeObj w s)).drew s 0
        simpa using this
      case round =>
        obtain ⟨wa, hwa⟩ : ∃ wa, wa = wr := ⟨_, rfl⟩
        subst hwa
        obtain ⟨j, rfl, hj, hit, HB⟩ := hrel
        have hp : runeAt s j < s.size := SP.out.2.2 j (by omega)
        have hnx : ∀ ty, (Instr.next (.pointer (some ⟨w.heap.size + 1, 0, none⟩)) true ty).run Tryz.prog wa = _ := fun ty => Lib.run_next_any_at wa (w.heap.size + 1) s (runeAt s j) ty hit hp
        have hit2 := Lib.iterAt_heap wa (w.heap.size + 1) s (runeAt s j) (runeAt s j + (Utf8.decode s (runeAt s j)).2) hit
        have HB2 := Lib.hid (Lib.below_iterAt HB.out (k := w.heap.size + 1) (by omega) s (runeAt s j + (Utf8.decode s (runeAt s j)).2))
        have hst := runeAt_step s j hp
        by_cases hlt : j < 0
        · exact absurd hlt (by omega)
        · obtain rfl : j = 0 := by omega
          have tp := SP.out.2.1
          have TP := Lib.hid tp
          clear hit hit2 hst
          go_wp2_with fail
          go_ret
          exact ⟨by first | rfl | (rw [tp]; rfl) | (simp only [tp]; rfl), HB2.out⟩
  · have n0 : n = 0 := by omega
    subst n0
    obtain rfl : en = 0 := by omega
    have hd0 : clampI ei 0 0 = 0 := by simpa using hd
    have tp := SP.out.2.1
    have ee : s.extract s.size s.size = ByteArray.empty := by
      have : (s.extract s.size s.size).size = 0 := by simp
      cases hx : s.extract s.size s.size
      rw [hx] at this
      congr 1
      exact Array.eq_empty_of_size_eq_zero this
    rw [tp, ee]
    clear ee tp hd
    go_enter Tryz.func18, Tryz.ntmps18
    go_wp2_with (first | (go_at_call 24; refine (toInt_int si _).mono ?_; rintro r w2 ⟨rfl, rfl⟩) | (go_at_call 26; refine (toIntCeil_int ei _).mono ?_; rintro r w2 ⟨rfl, rfl⟩) | (go_at_call 25; refine (clamp_any _ _ _ _ (by omega) (by omega) (by omega)).mono ?_; rintro r w3 ⟨rfl, rfl⟩))
    go_ret
    exact ⟨rfl, (((Below.refl _ _).alloc (Nat.le_refl _) _).drew)⟩
set_option maxRecDepth 100000 in
theorem sliceString_ff (s : ByteArray) (si ei : Int) (n : Nat) (hn : n = runeLen s) (h1 : 0 ≤ n) (h2 : n ≤ n) (w : World) (hs : s.size ≤ 1048576)
    (s0 : -9223372036854775808 ≤ si) (e0 : -9223372036854775808 ≤ ei) :
    Calls Tryz.prog 18 #[.string s, .nilIface, .nilIface] w fun r w' => r = .returned (.iface 9 (.string (s.extract (runeAt s 0) (runeAt s n)))) ∧ Below w.heap.size w w' := by
  have hcv := conv_runes s hs
  rw [← hn] at hcv
  have sp := runeLen_spec s
  rw [← hn] at sp
  have n_le : n ≤ s.size := sp.1
  have SP := Lib.hid sp
  have HN := Lib.hid hn
  have ord : runeAt s 0 ≤ runeAt s n := runeAt_le2 s _ _ h1
  have top : runeAt s n ≤ s.size := runeAt_le s _
  clear hn sp
  by_cases q1 : 0 < n
  · go_enter Tryz.func18, Tryz.ntmps18
    go_wp2_with fail
    go_loopw [7] (fun vs wr => ∃ j : Nat, vs = .int .i64 ((0 : Int) - (j : Int)) ∧ j ≤ 0 ∧ wr.heap[w.heap.size + 1]? = some (.stringIter s (runeAt s j)) ∧ Hid (Below w.heap.size w wr)) (fun vs _ => (intOf vs).toNat)
    case atStart =>
      refine ⟨0, by go_num, Nat.zero_le _, ?_, Lib.hid ((((Below.refl _ _).alloc (Nat.le_refl _) _).drew).alloc (by simp) _)⟩
      show _ = some (Obj.stringIter s 0)
      have := World.iter_heap (w.alloc (runeObj w s)).drew s 0
      simpa using this
    case round =>
      obtain ⟨wa, hwa⟩ : ∃ wa, wa = wr := ⟨_, rfl⟩
      subst hwa
      obtain ⟨j, rfl, hj, hit, HB⟩ := hrel
      have hp : runeAt s j < s.size := SP.out.2.2 j (by omega)
      have hnx : ∀ ty, (Instr.next (.pointer (some ⟨w.heap.size + 1, 0, none⟩)) true ty).run Tryz.prog wa = _ := fun ty => Lib.run_next_any_at wa (w.heap.size + 1) s (runeAt s j) ty hit hp
      have hit2 := Lib.iterAt_heap wa (w.heap.size + 1) s (runeAt s j) (runeAt s j + (Utf8.decode s (runeAt s j)).2) hit
      have HB2 := Lib.hid (Lib.below_iterAt HB.out (k := w.heap.size + 1) (by omega) s (runeAt s j + (Utf8.decode s (runeAt s j)).2))
      have hst := runeAt_step s j hp
      by_cases hlt : j < 0
      · exact absurd hlt (by omega)
      · obtain rfl : j = 0 := by omega
        have tp := SP.out.2.1
        have TP := Lib.hid tp
        clear hit hit2 hst
        go_wp2_with fail
        go_ret
        exact ⟨by first | rfl | (rw [tp]; rfl) | (simp only [tp]; rfl), HB2.out⟩
  · have n0 : n = 0 := by omega
    subst n0
    have tp := SP.out.2.1
    have ee : s.extract s.size s.size = ByteArray.empty := by
      have : (s.extract s.size s.size).size = 0 := by simp
      cases hx : s.extract s.size s.size
      rw [hx] at this
      congr 1
      exact Array.eq_empty_of_size_eq_zero this
    rw [tp, ee]
    clear ee tp
    go_enter Tryz.func18, Tryz.ntmps18
    go_wp2_with fail
    go_ret
    exact ⟨rfl, (((Below.refl _ _).alloc (Nat.le_refl _) _).drew)⟩
end Go.Proofs.YtdieahcigcdnpaaGreatDoor
