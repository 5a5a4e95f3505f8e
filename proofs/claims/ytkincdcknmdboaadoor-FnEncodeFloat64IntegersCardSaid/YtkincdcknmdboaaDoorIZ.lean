/- The walk of itoaB2. -/
import Derived.Test.YtkincdcknmdboaaDoorRows
import Derived.WalkKit
import Derived.ProofKit
import Derived.OpenShut
import Derived.WalkSpells
import Derived.WalkLawsBesides
import Derived.Outline
import Derived.Lib.Hide
import Derived.Laws.Bits64
import Derived.LoopTactic
import Derived.Test.YtkincdcknmdboaaDoorCom
import Derived.Test.YtkincdcknmdboaaDoorIF
namespace Go.Proofs.YtkincdcknmdboaaDoor
open Go.RowKit
set_option linter.unusedVariables false

theorem arr24_len : Tryd.prog.arrayLen 40 = 24 := by kernel_rfl
theorem arr24_und : Tryd.prog.underlying 40 = some (.array (Tryd.prog.arrayLen 40) (Tryd.prog.elem 40)) := by kernel_rfl
theorem arr24_el (w : World) : (sizeOf (Tryd.prog.elem 40)).run Tryd.prog w = .ok 1 w := by kernel_rfl
theorem arr24_from (b i : Nat) (w : World) (hi : i < 24) :
    (Instr.sliceAt 40 (.pointer (some ⟨b, 0, none⟩)) (some (.int .i64 (i : Int))) none none).run Tryd.prog w = .ok (.slice (some ⟨b, i, none⟩) (24 - i) (24 - i)) w := by
  rw [run_sliceAt_array_l w 40 ⟨b, 0, none⟩ arr24_und .i64 i (by omega) (by rw [arr24_len]; omega), arr24_el, arr24_len]
  simp only [Result.andThen, slicedAt, Int.toNat_natCast]
  rw [if_neg (show ¬ 24 = i by omega), Nat.mul_one]
  rcases Nat.eq_zero_or_pos i with z | z
  · subst z; simp [Addr.add]
  · simp [Addr.add, Nat.ne_of_gt z]

/-- what the cells from i on must hold for the text of n -/
theorem itoa_conv (w : World) (C : Array Value) (i : Nat) (D : List UInt8) (hi : i < 24) (hl : i + D.length = 24) (hC : C.size = 24) (hc : ∀ j, j < D.length → C[i + j]? = some (.int .u8 ((D.getD j 0).toNat : Int))) :
    (convert 30 9 (.slice (some ⟨w.heap.size, i, none⟩) (24 - i) (24 - i))).run Tryd.prog (w.alloc (.cells C 40)) = .ok (.string (strOf D)) (w.alloc (.cells C 40)) := by
  have := conv_row (P := Tryd.prog) (w.alloc (.cells C 40)) 30 9 5 w.heap.size i D (24 - i) Tryd.underlying30 Tryd.underlying5 Tryd.underlying9 (fun j hj => by
    have h5 := hc j hj
    have := Array.getElem?_eq_some_iff.1 h5
    go_simp)
  rwa [show D.length = 24 - i by omega] at this

theorem itoaB_zero : itoaB 0 = strOf [48] := rfl

theorem itoa_fin {N i : Nat} {C : Array Value} (h : ItoaInv 24 N 0 i C) (hN : 0 < N) (hm : N ≤ 9223372036854775808) :
    i + (digs N).length = 24 ∧ 1 ≤ i ∧ i < 24 ∧ ∀ j, j < (digs N).length → C[i + j]? = some (.int .u8 (((digs N).getD j 0).toNat : Int)) := by
  obtain ⟨h1, h2⟩ := itoa_end h
  have e : digs N = dgo 24 N [] := by unfold digs; rw [if_neg (by omega)]
  rw [e]
  have hl := dgo_len 19 N [] (by omega)
  have hp := digs_pos N (by omega)
  rw [e] at hp
  rw [dgo_more 19 N [] (by omega) 24 (by omega)] at h1 h2 hp ⊢
  simp only [List.length_nil] at hl
  exact ⟨h1, by omega, by omega, h2⟩

set_option maxRecDepth 100000 in
theorem itoa_zero (w : World) :
    Calls Tryd.prog 6 #[.int .i64 0] w fun r w' => r = .returned (.string (itoaB 0)) ∧ Below w.heap.size w w' := by
  have HB := Lib.hid ((Below.refl w.heap.size w).alloc (Nat.le_refl _) (.cells #[.int .u8 0, .int .u8 0, .int .u8 0, .int .u8 0, .int .u8 0, .int .u8 0, .int .u8 0, .int .u8 0, .int .u8 0, .int .u8 0, .int .u8 0, .int .u8 0, .int .u8 0, .int .u8 0, .int .u8 0, .int .u8 0, .int .u8 0, .int .u8 0, .int .u8 0, .int .u8 0, .int .u8 0, .int .u8 0, .int .u8 0, .int .u8 0] 40))
  go_enter Tryd.func6, Tryd.ntmps6
  go_wp2
  go_ret
  exact ⟨rfl, HB.out⟩

set_option maxRecDepth 100000 in
theorem itoa_pos_any (N : Nat) (w : World) (h0 : 0 < N) (h1 : N ≤ 9223372036854775807) :
    Calls Tryd.prog 6 #[.int .i64 (N : Int)] w fun r w' => r = .returned (.string (itoaB N)) ∧ Below w.heap.size w w' := by
  have t1 : decide ((N : Int) < 0) = false := decide_eq_false (by omega)
  have t2 : IntKind.u64.wrap (N : Int) = (N : Int) := by rw [IntKind.wrap_u64]; omega
  have t4 : ((N : Int) == 0) = false := by simp; omega
  have t0 : decide (0 < N) = true := decide_eq_true h0
  have HS : ∀ C, Hid (ItoaInv 24 N N 24 C) := fun C => Lib.hid (itoa_start 24 N C (by omega))
  have hL : itoaL (N : Int) = digs N := by unfold itoaL; rw [if_neg (by omega), Int.natAbs_natCast]
  have HL := Lib.hid hL
  clear hL
  go_enter Tryd.func6, Tryd.ntmps6
  go_wp2
  go_loopw [4, 5] (fun vi vu wr => ∃ (u i : Nat) (C : Array Value), vu = .int .u64 u ∧ vi = .int .i64 i ∧ wr = w.alloc (.cells C 40) ∧ i ≤ 24 ∧ u ≤ 9223372036854775808 ∧ C.size = 24 ∧ Hid (ItoaInv 24 N u i C)) (fun _ vu _ => (intOf vu).toNat)
  case atStart => exact ⟨N, 24, _, rfl, rfl, rfl, by omega, by omega, rfl, HS _⟩
  case round =>
    obtain ⟨u, i, C, rfl, rfl, hw, hi, hu2, hC, HI⟩ := hrel
    subst hw
    clear HS t0 t1 t2 t4
    by_cases hu : 0 < u
    · have e1 : decide ((u : Int) > 0) = true := decide_eq_true (by omega)
      have hi1 := itoa_pos HI.out hu
      obtain ⟨m, rfl⟩ : ∃ m, i = m + 1 := ⟨i - 1, by omega⟩
      have HI2 := Lib.hid (itoa_step HI.out hu (by omega))
      obtain ⟨cv, hcm⟩ : ∃ cv, C[m]? = some cv := ⟨C[m]'(by omega), Array.getElem?_eq_getElem _⟩
      have e2 : IntKind.u8.wrap (48 + (u : Int) % 10) = 48 + (u : Int) % 10 := by simp [IntKind.wrap, IntKind.bits, IntKind.signed]; omega
      go_wp2
      go_roundw
      case rel => exact ⟨u / 10, m, _, by simp, rfl, rfl, by omega, by omega, by simp [hC], HI2⟩
      case measure => simp [intOf]; omega
    · have e1 : decide ((u : Int) > 0) = false := decide_eq_false (by omega)
      obtain rfl : u = 0 := by omega
      obtain ⟨d1, d2, d3, d4⟩ := itoa_fin HI.out h0 (by omega)
      have hcv := itoa_conv w C i (digs N) d3 d1 hC d4
      have hsl := arr24_from w.heap.size i (w.alloc (.cells C 40)) d3
      have HB := (Below.refl w.heap.size w).alloc (Nat.le_refl _) (.cells C 40)
      clear d4
      go_wp2
      go_ret
      exact ⟨by unfold itoaB; rw [HL.out]; rfl, HB⟩

set_option maxRecDepth 100000 in
theorem itoa_neg_any (N : Nat) (w : World) (h0 : 0 < N) (h1 : N ≤ 9223372036854775808) :
    Calls Tryd.prog 6 #[.int .i64 (-(N : Int))] w fun r w' => r = .returned (.string (itoaB (-(N : Int)))) ∧ Below w.heap.size w w' := by
  have t1 : decide (-(N : Int) < 0) = true := decide_eq_true (by omega)
  have t2 : -(-(N : Int) + 1) = (N : Int) - 1 := by omega
  have t3 : IntKind.u64.wrap ((N : Int) - 1) = (N : Int) - 1 := by rw [IntKind.wrap_u64]; omega
  have t3b : (N : Int) - 1 + 1 = (N : Int) := by omega
  have t4 : ((N : Int) == 0) = false := by simp; omega
  have t0 : decide (0 < N) = true := decide_eq_true h0
  have HS : ∀ C, Hid (ItoaInv 24 N N 24 C) := fun C => Lib.hid (itoa_start 24 N C (by omega))
  have hL : itoaL (-(N : Int)) = 45 :: digs N := by unfold itoaL; rw [if_pos (by omega), Int.natAbs_neg, Int.natAbs_natCast]
  have HL := Lib.hid hL
  clear hL
  go_enter Tryd.func6, Tryd.ntmps6
  go_wp2
  go_loopw [4, 5] (fun vi vu wr => ∃ (u i : Nat) (C : Array Value), vu = .int .u64 u ∧ vi = .int .i64 i ∧ wr = w.alloc (.cells C 40) ∧ i ≤ 24 ∧ u ≤ 9223372036854775808 ∧ C.size = 24 ∧ Hid (ItoaInv 24 N u i C)) (fun _ vu _ => (intOf vu).toNat)
  case atStart => exact ⟨N, 24, _, rfl, rfl, rfl, by omega, by omega, rfl, HS _⟩
  case round =>
    obtain ⟨u, i, C, rfl, rfl, hw, hi, hu2, hC, HI⟩ := hrel
    subst hw
    clear HS t0 t1 t2 t3 t3b t4
    by_cases hu : 0 < u
    · have e1 : decide ((u : Int) > 0) = true := decide_eq_true (by omega)
      have hi1 := itoa_pos HI.out hu
      obtain ⟨m, rfl⟩ : ∃ m, i = m + 1 := ⟨i - 1, by omega⟩
      have HI2 := Lib.hid (itoa_step HI.out hu (by omega))
      obtain ⟨cv, hcm⟩ : ∃ cv, C[m]? = some cv := ⟨C[m]'(by omega), Array.getElem?_eq_getElem _⟩
      have e2 : IntKind.u8.wrap (48 + (u : Int) % 10) = 48 + (u : Int) % 10 := by simp [IntKind.wrap, IntKind.bits, IntKind.signed]; omega
      go_wp2
      go_roundw
      case rel => exact ⟨u / 10, m, _, by simp, rfl, rfl, by omega, by omega, by simp [hC], HI2⟩
      case measure => simp [intOf]; omega
    · have e1 : decide ((u : Int) > 0) = false := decide_eq_false (by omega)
      obtain rfl : u = 0 := by omega
      obtain ⟨d1, d2, d3, d4⟩ := itoa_fin HI.out h0 (by omega)
      obtain ⟨m, rfl⟩ : ∃ m, i = m + 1 := ⟨i - 1, by omega⟩
      obtain ⟨cv, hcm⟩ : ∃ cv, C[m]? = some cv := ⟨C[m]'(by omega), Array.getElem?_eq_getElem _⟩
      have hcv := itoa_conv w (C.setIfInBounds m (.int .u8 45)) m (45 :: digs N) (by omega) (by simp; omega) (by simp [hC]) (fun j hj => by
        cases j with
        | zero => rw [Nat.add_zero, Array.getElem?_setIfInBounds_self_of_lt (by omega)]; rfl
        | succ j =>
          rw [Array.getElem?_setIfInBounds_ne (by omega), show m + (j + 1) = m + 1 + j by omega, d4 j (by simp at hj; omega)]
          simp)
      have hsl := arr24_from w.heap.size m (w.alloc (.cells (C.setIfInBounds m (.int .u8 45)) 40)) (by omega)
      have HB := (Below.refl w.heap.size w).alloc (Nat.le_refl _) (.cells (C.setIfInBounds m (.int .u8 45)) 40)
      clear d4
      go_wp2
      go_ret
      exact ⟨by unfold itoaB; rw [HL.out]; rfl, HB⟩

theorem itoa_any (n : Int) (w : World) (h0 : -9223372036854775808 ≤ n) (h1 : n ≤ 9223372036854775807) :
    Calls Tryd.prog 6 #[.int .i64 n] w fun r w' => r = .returned (.string (itoaB n)) ∧ Below w.heap.size w w' := by
  rcases Int.lt_trichotomy n 0 with c | c | c
  · obtain ⟨N, rfl⟩ : ∃ N : Nat, n = -(N : Int) := ⟨n.natAbs, by omega⟩
    exact itoa_neg_any N w (by omega) (by omega)
  · subst c; exact itoa_zero w
  · obtain ⟨N, rfl⟩ : ∃ N : Nat, n = (N : Int) := ⟨n.natAbs, by omega⟩
    exact itoa_pos_any N w (by omega) (by omega)
end Go.Proofs.YtkincdcknmdboaaDoor
