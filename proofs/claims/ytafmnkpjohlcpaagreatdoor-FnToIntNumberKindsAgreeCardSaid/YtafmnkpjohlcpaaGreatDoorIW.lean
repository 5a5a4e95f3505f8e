/- The walk of zzItoa64. -/
import Derived.Test.YtafmnkpjohlcpaaGreatDoorRows
import Derived.WalkKit
import Derived.ProofKit
import Derived.OpenShut
import Derived.WalkSpells
import Derived.WalkLawsBesides
import Derived.Outline
import Derived.Lib.Hide
import Derived.Laws.Bits64
import Derived.LoopTactic
import Derived.Test.YtafmnkpjohlcpaaGreatDoorCom
import Derived.Test.YtafmnkpjohlcpaaGreatDoorPN
import Derived.Test.YtafmnkpjohlcpaaGreatDoorIA
namespace Go.Proofs.YtafmnkpjohlcpaaGreatDoor
open Go.RowKit
set_option linter.unusedVariables false

theorem cat_list (D : List UInt8) : ((⟨#[45]⟩ : ByteArray) ++ strOf D).data.toList = 45 :: D := by
  have := strOf_list D
  simp [ByteArray.data_append, this]
theorem strOf_size (D : List UInt8) : (strOf D).size = D.length := by rw [size_list, strOf_list]

theorem arr20_len : Tryz.prog.arrayLen 47 = 20 := by kernel_rfl
theorem arr20_und : Tryz.prog.underlying 47 = some (.array (Tryz.prog.arrayLen 47) (Tryz.prog.elem 47)) := by kernel_rfl
theorem arr20_el (w : World) : (sizeOf (Tryz.prog.elem 47)).run Tryz.prog w = .ok 1 w := by kernel_rfl
theorem arr20_from (b i : Nat) (w : World) (hi : i < 20) :
    (Instr.sliceAt 47 (.pointer (some ⟨b, 0, none⟩)) (some (.int .i64 (i : Int))) none none).run Tryz.prog w = .ok (.slice (some ⟨b, i, none⟩) (20 - i) (20 - i)) w := by
  rw [run_sliceAt_array_l w 47 ⟨b, 0, none⟩ arr20_und .i64 i (by omega) (by rw [arr20_len]; omega), arr20_el, arr20_len]
  simp only [Result.andThen, slicedAt, Int.toNat_natCast]
  rw [if_neg (show ¬ 20 = i by omega), Nat.mul_one]
  rcases Nat.eq_zero_or_pos i with z | z
  · subst z; simp [Addr.add]
  · simp [Addr.add, Nat.ne_of_gt z]

set_option maxRecDepth 100000 in
theorem itoa64_any (n : Int) (w : World) (h0 : -9223372036854775808 ≤ n) (h1 : n ≤ 9223372036854775807) :
    Calls Tryz.prog 15 #[.int .i64 n] w fun r w' => ∃ s : ByteArray, r = .returned (.string s) ∧ s.size ≤ 1048576 ∧ Lib.parseIntB 64 s.data.toList = .ok n ∧ Below w.heap.size w w' := by
  by_cases hz : n = 0
  · subst hz
    have hp : Lib.parseIntB 64 (⟨#[48]⟩ : ByteArray).data.toList = .ok 0 := parse_pos [48] (by simp) (fun c hc => by rw [List.mem_singleton.1 hc]; exact ⟨by decide, by decide⟩) (by decide)
    have hp2 := Lib.hid hp
    clear hp
    go_enter Tryz.func15, Tryz.ntmps15
    go_wp2
    go_ret
    exact ⟨⟨#[48]⟩, rfl, by decide, hp2.out, Below.refl _ _⟩
  by_cases hn : n < 0
  · obtain ⟨N, rfl⟩ : ∃ N : Nat, n = -(N : Int) := ⟨n.natAbs, by omega⟩
    have t1 : decide (-(N : Int) < 0) = true := decide_eq_true (by omega)
    have t2 : IntKind.u64.wrap (-(N : Int)) = -(N : Int) + 18446744073709551616 := by rw [IntKind.wrap_u64]; omega
    have t3 : IntKind.u64.wrap (-(-(N : Int) + 18446744073709551616)) = (N : Int) := by rw [IntKind.wrap_u64]; omega
    have hN : 0 < N := by omega
    have t0 : decide (0 < N) = true := decide_eq_true hN
    have t4 : ((N : Int) == 0) = false := by simp; omega
    have HS : ∀ C, Hid (ItoaInv 20 N N 20 C) := fun C => Lib.hid (itoa_start 20 N C (by omega))
    go_enter Tryz.func15, Tryz.ntmps15
    go_wp2
    go_loopw [3, 6] (fun vu vi wr => ∃ (u i : Nat) (C : Array Value), vu = .int .u64 u ∧ vi = .int .i64 i ∧ wr = w.alloc (.cells C 47) ∧ i ≤ 20 ∧ u ≤ 9223372036854775808 ∧ C.size = 20 ∧ Hid (ItoaInv 20 N u i C)) (fun vu _ _ => (intOf vu).toNat)
    case atStart => exact ⟨N, 20, _, rfl, rfl, rfl, by omega, by omega, rfl, HS _⟩
    case round =>
      obtain ⟨u, i, C, rfl, rfl, hw, hi, hu2, hC, HI⟩ := hrel
      subst hw
      clear HS t0 t1 t2 t3 t4
      by_cases hu : 0 < u
      · have e1 : decide ((u : Int) > 0) = true := decide_eq_true (by omega)
        have hi1 := itoa_pos HI.out hu
        obtain ⟨m, rfl⟩ : ∃ m, i = m + 1 := ⟨i - 1, by omega⟩
        have HI2 := Lib.hid (itoa_step HI.out (by omega))
        obtain ⟨cv, hcm⟩ : ∃ cv, C[m]? = some cv := ⟨C[m]'(by omega), Array.getElem?_eq_getElem _⟩
        have e2 : IntKind.u8.wrap (48 + (u : Int) % 10) = 48 + (u : Int) % 10 := by simp [IntKind.wrap, IntKind.bits, IntKind.signed]; omega
        go_wp2
        go_roundw
        case rel => exact ⟨u / 10, m, _, by simp, rfl, rfl, by omega, by omega, by simp [hC], HI2⟩
        case measure => simp [intOf]; omega
      · have e1 : decide ((u : Int) > 0) = false := decide_eq_false (by omega)
        obtain rfl : u = 0 := by omega
        obtain ⟨D, d1, d2, d3, d4, d5⟩ := itoa_end HI.out (by omega)
        have hcv := conv_row (P := Tryz.prog) (w.alloc (.cells C 47)) 48 9 5 w.heap.size i D D.length Tryz.underlying48 Tryz.underlying5 Tryz.underlying9 (fun j hj => by
          have h5 := d5 j hj
          have := Array.getElem?_eq_some_iff.1 h5
          go_simp)
        have hl : D.length = 20 - i := by omega
        have hD : 0 < D.length := List.length_pos_iff.2 d1
        rw [hl] at hcv
        have hsl := arr20_from w.heap.size i (w.alloc (.cells C 47)) (by omega)
        have hs1 : ¬ 9223372036854775807 < 1 + (strOf D).size := by rw [strOf_size]; omega
        have HP := Lib.hid (parse_neg D d1 d4 (by omega))
        have HB := (Below.refl w.heap.size w).alloc (Nat.le_refl _) (.cells C 47)
        go_wp2
        go_ret
        refine ⟨_, rfl, ?_, ?_, HB⟩
        · rw [size_list, cat_list]; simp; omega
        · rw [cat_list, HP.out, d3]
  · obtain ⟨N, rfl⟩ : ∃ N : Nat, n = (N : Int) := ⟨n.natAbs, by omega⟩
    have t1 : decide ((N : Int) < 0) = false := decide_eq_false (by omega)
    have t2 : IntKind.u64.wrap (N : Int) = (N : Int) := by rw [IntKind.wrap_u64]; omega
    have hN : 0 < N := by omega
    have t0 : decide (0 < N) = true := decide_eq_true hN
    have t4 : ((N : Int) == 0) = false := by simp; omega
    have HS : ∀ C, Hid (ItoaInv 20 N N 20 C) := fun C => Lib.hid (itoa_start 20 N C (by omega))
    go_enter Tryz.func15, Tryz.ntmps15
    go_wp2
    go_loopw [3, 6] (fun vu vi wr => ∃ (u i : Nat) (C : Array Value), vu = .int .u64 u ∧ vi = .int .i64 i ∧ wr = w.alloc (.cells C 47) ∧ i ≤ 20 ∧ u ≤ 9223372036854775808 ∧ C.size = 20 ∧ Hid (ItoaInv 20 N u i C)) (fun vu _ _ => (intOf vu).toNat)
    case atStart => exact ⟨N, 20, _, rfl, rfl, rfl, by omega, by omega, rfl, HS _⟩
    case round =>
      obtain ⟨u, i, C, rfl, rfl, hw, hi, hu2, hC, HI⟩ := hrel
      subst hw
      clear HS t0 t1 t2 t4
      by_cases hu : 0 < u
      · have e1 : decide ((u : Int) > 0) = true := decide_eq_true (by omega)
        have hi1 := itoa_pos HI.out hu
        obtain ⟨m, rfl⟩ : ∃ m, i = m + 1 := ⟨i - 1, by omega⟩
        have HI2 := Lib.hid (itoa_step HI.out (by omega))
        obtain ⟨cv, hcm⟩ : ∃ cv, C[m]? = some cv := ⟨C[m]'(by omega), Array.getElem?_eq_getElem _⟩
        have e2 : IntKind.u8.wrap (48 + (u : Int) % 10) = 48 + (u : Int) % 10 := by simp [IntKind.wrap, IntKind.bits, IntKind.signed]; omega
        go_wp2
        go_roundw
        case rel => exact ⟨u / 10, m, _, by simp, rfl, rfl, by omega, by omega, by simp [hC], HI2⟩
        case measure => simp [intOf]; omega
      · have e1 : decide ((u : Int) > 0) = false := decide_eq_false (by omega)
        obtain rfl : u = 0 := by omega
        obtain ⟨D, d1, d2, d3, d4, d5⟩ := itoa_end HI.out (by omega)
        have hcv := conv_row (P := Tryz.prog) (w.alloc (.cells C 47)) 48 9 5 w.heap.size i D D.length Tryz.underlying48 Tryz.underlying5 Tryz.underlying9 (fun j hj => by
          have h5 := d5 j hj
          have := Array.getElem?_eq_some_iff.1 h5
          go_simp)
        have hl : D.length = 20 - i := by omega
        have hD : 0 < D.length := List.length_pos_iff.2 d1
        rw [hl] at hcv
        have hsl := arr20_from w.heap.size i (w.alloc (.cells C 47)) (by omega)
        have HP := Lib.hid (parse_pos D d1 d4 (by omega))
        have HB := (Below.refl w.heap.size w).alloc (Nat.le_refl _) (.cells C 47)
        go_wp2
        go_ret
        refine ⟨_, rfl, ?_, ?_, HB⟩
        · rw [strOf_size]; omega
        · rw [strOf_list, HP.out, d3]
end Go.Proofs.YtafmnkpjohlcpaaGreatDoor
