/- The walks of zzFlip, zzIsMinInt, negate, ZZnegateInt and ZZnegateBig (away from the least int). -/
import Derived.Test.YteabecjcjlcolaaGreatDoorIZ
namespace Go.Proofs.YteabecjcjlcolaaGreatDoor
open Go.RowKit
set_option linter.unusedVariables false

theorem itoa_nat_lt {n : Int} (h0 : -9223372036854775808 ≤ n) (h1 : n ≤ 9223372036854775808) : n.natAbs < 10 ^ 24 := by
  have : n.natAbs ≤ 9223372036854775808 := by omega
  exact Nat.lt_of_le_of_lt this (by decide)

theorem flip_any (n : Int) (w : World) (h0 : -9223372036854775808 ≤ n) (h1 : n ≤ 9223372036854775808) :
    Calls Tryz.prog 6 #[.string (itoaB n)] w fun r w' => r = .returned (.string (itoaB (-n))) ∧ w = w' := by
  have hlt := itoa_nat_lt h0 h1
  have hlen := itoaL_len n hlt
  obtain ⟨T, hT⟩ : ∃ T, T = itoaB n := ⟨_, rfl⟩
  obtain ⟨U, hU⟩ : ∃ U, U = itoaB (-n) := ⟨_, rfl⟩
  rw [← hT, ← hU]
  have hTl : T.data.toList = itoaL n := by rw [hT, itoaB_list]
  have hUl : U.data.toList = itoaL (-n) := by rw [hU, itoaB_list]
  have hz : T.size = (itoaL n).length := by rw [size_list, hTl]
  rcases Int.lt_trichotomy n 0 with c | c | c
  · have hf := itoa_flip_neg n c
    rw [hf] at hTl hz hlen
    simp only [List.length_cons] at hz hlen
    have hp : 0 < T.size := by omega
    have g0 : ((T[0]'hp).toNat : Int) = 45 := by rw [get_list, hTl]; rfl
    have ne : (T.toList == [48]) = false := by
      rw [ByteArray.toList_eq, hTl]
      simp
    have ex : T.extract 1 T.size = U := by
      refine ba_ext ?_
      rw [ba_extract, hTl, hUl, hz]
      simp
    have sz1 : 1 ≤ T.size := by omega
    have sz2 : T.size ≤ 26 := by omega
    clear hTl hUl hz hf hT hU hlt hlen
    go_enter Tryz.func6, Tryz.ntmps6
    go_wp2
    go_ret
    exact ⟨rfl, rfl⟩
  · subst c
    have e1 : T = ⟨#[48]⟩ := by rw [hT]; decide
    have e2 : U = ⟨#[48]⟩ := by rw [hU]; decide
    rw [e1, e2]
    clear hTl hUl hz hT hU hlt hlen e1 e2
    go_enter Tryz.func6, Tryz.ntmps6
    go_wp2
    go_ret
    exact ⟨rfl, rfl⟩
  · obtain ⟨d, R, hd, d0, d1⟩ := itoa_pos_head n c hlt
    have hf := itoa_flip_neg (-n) (by omega)
    rw [Int.neg_neg] at hf
    rw [hd] at hTl hz hlen
    simp only [List.length_cons] at hz hlen
    have hp : 0 < T.size := by omega
    have g0' : ((T[0]'hp).toNat : Int) = (d.toNat : Int) := by rw [get_list, hTl]; rfl
    obtain ⟨cv, hcv⟩ : ∃ cv : Int, cv = (d.toNat : Int) := ⟨_, rfl⟩
    have cv0 : 49 ≤ cv := by omega
    have cv1 : cv ≤ 57 := by omega
    have g0 : ((T[0]'hp).toNat : Int) = cv := by rw [g0', hcv]
    have ne : (T.toList == [48]) = false := by
      rw [ByteArray.toList_eq, hTl]
      refine beq_false_of_ne fun e => ?_
      simp at e
      rw [e.1] at d0
      exact absurd d0 (by decide)
    have ex : (⟨#[45]⟩ : ByteArray) ++ T = U := by
      refine ba_ext ?_
      rw [ba_append, hUl, hf, hd, hTl]
      rfl
    have sz1 : 1 ≤ T.size := by omega
    have sz2 : T.size ≤ 26 := by omega
    clear hTl hUl hz hf hT hU hlt hlen hd g0' hcv d0 d1
    go_enter Tryz.func6, Tryz.ntmps6
    go_wp2
    go_ret
    exact ⟨by first | rfl | (rw [← ex]; rfl), rfl⟩

theorem isMin_not (v : Int) (w : World) (h0 : -9223372036854775808 < v) (h1 : v ≤ 9223372036854775807) :
    Calls Tryz.prog 10 #[.int .i64 v] w fun r w' => r = .returned (.bool false) ∧ w = w' := by
  by_cases c : v < 0
  · go_enter Tryz.func10, Tryz.ntmps10
    go_wp2
    go_ret
    exact ⟨by simp; omega, rfl⟩
  · have e1 : decide (v < 0) = false := decide_eq_false c
    go_enter Tryz.func10, Tryz.ntmps10
    go_wp2
    go_ret
    exact ⟨rfl, rfl⟩
theorem isMin_yes (w : World) :
    Calls Tryz.prog 10 #[.int .i64 (-9223372036854775808)] w fun r w' => r = .returned (.bool true) ∧ w = w' := by
  have t2 : wrap64 9223372036854775808 = -9223372036854775808 := by decide +kernel
  go_enter Tryz.func10, Tryz.ntmps10
  go_wp2
  go_ret
  exact ⟨rfl, rfl⟩

@[go_sem] theorem as_i_i (v : Value) (w : World) : (Instr.typeAssert (.iface 3 v) 20 3 true).run Tryz.prog w = .ok (.tuple #[v, .bool true]) w := by kernel_rfl
@[go_sem] theorem as_i_B (v : Value) (w : World) : (Instr.typeAssert (.iface 3 v) 20 45 true).run Tryz.prog w = .ok (.tuple #[.pointer none, .bool false]) w := by kernel_rfl
@[go_sem] theorem as_B_i (v : Value) (w : World) : (Instr.typeAssert (.iface 45 v) 20 3 true).run Tryz.prog w = .ok (.tuple #[.int .i64 0, .bool false]) w := by kernel_rfl
@[go_sem] theorem as_B_B (v : Value) (w : World) : (Instr.typeAssert (.iface 45 v) 20 45 true).run Tryz.prog w = .ok (.tuple #[v, .bool true]) w := by kernel_rfl

theorem negate_not (v : Int) (w : World) (h0 : -9223372036854775808 < v) (h1 : v ≤ 9223372036854775807) :
    Calls Tryz.prog 22 #[.int .i64 v] w fun r w' => r = .returned (.iface 3 (.int .i64 (-v))) ∧ w = w' := by
  have e1 : (v == -9223372036854775808) = false := by simp; omega
  go_enter Tryz.func22, Tryz.ntmps22
  go_wp2_with fail
  go_ret
  exact ⟨rfl, rfl⟩

theorem zneg_not (v : Int) (w : World) (h0 : -9223372036854775808 < v) (h1 : v ≤ 9223372036854775807) :
    Calls Tryz.prog 8 #[.int .i64 v] w fun r w' => r = .returned (.tuple #[.int .i64 (-v), .bool true]) ∧ w = w' := by
  go_enter Tryz.func8, Tryz.ntmps8
  go_wp2_with (go_at_call 22; refine (negate_not v _ h0 h1).mono ?_; rintro r w2 ⟨rfl, rfl⟩)
  go_ret2
  exact ⟨rfl, rfl⟩

theorem znegB_not (v : Int) (w : World) (h0 : -9223372036854775808 < v) (h1 : v ≤ 9223372036854775807) :
    Calls Tryz.prog 9 #[.int .i64 v] w fun r w' => r = .returned (.tuple #[.string ⟨#[]⟩, .bool false]) ∧ w = w' := by
  go_enter Tryz.func9, Tryz.ntmps9
  go_wp2_with (go_at_call 22; refine (negate_not v _ h0 h1).mono ?_; rintro r w2 ⟨rfl, rfl⟩)
  go_ret2
  exact ⟨rfl, rfl⟩
end Go.Proofs.YteabecjcjlcolaaGreatDoor
