/- The walk of ZZsliceString. -/
import Derived.Test.YtdieahcigcdnpaaGreatDoorSS
namespace Go.Proofs.YtdieahcigcdnpaaGreatDoor
open Go.RowKit
set_option linter.unusedVariables false

theorem sliceString_any (s : ByteArray) (sb eb : Bool) (si ei : Int) (st en : Nat) (hst : (st : Int) = stOf sb si (runeLen s)) (hen : (en : Int) = enOf eb ei st (runeLen s)) (w : World) (hs : s.size ≤ 1048576)
    (s0 : -9223372036854775808 ≤ si) (e0 : -9223372036854775808 ≤ ei) :
    Calls Tryz.prog 18 #[.string s, optI eb ei, optI sb si] w fun r w' => r = .returned (.iface 9 (.string (s.extract (runeAt s st) (runeAt s en)))) ∧ Below w.heap.size w w' := by
  have b1 := st_bounds sb si (runeLen s) (by omega)
  rw [← hst] at b1
  have b2 := en_bounds eb ei st (runeLen s) (by omega) (by omega)
  rw [← hen] at b2
  obtain ⟨n, hn⟩ : ∃ n, n = runeLen s := ⟨_, rfl⟩
  rw [← hn] at hst hen b1 b2
  cases sb <;> cases eb <;> simp only [stOf, enOf, Bool.false_eq_true, if_false, if_true] at hst hen <;> simp only [optI, Bool.false_eq_true, if_false, if_true]
  · obtain rfl : st = 0 := by omega
    obtain rfl : en = n := by omega
    exact sliceString_ff s si ei en hn (by omega) (by omega) w hs s0 e0
  · obtain rfl : st = 0 := by omega
    exact sliceString_ft s si ei n en hn hen.symm (by omega) (by omega) w hs s0 e0
  · obtain rfl : en = n := by omega
    exact sliceString_tf s si ei en st hn hst.symm (by omega) (by omega) w hs s0 e0
  · exact sliceString_tt s si ei n st en hn hst.symm hen.symm (by omega) (by omega) w hs s0 e0

@[go_sem] theorem as_s_s (v : Value) (w : World) : (Instr.typeAssert (.iface 9 v) 20 9 true).run Tryz.prog w = .ok (.tuple #[v, .bool true]) w := by kernel_rfl

set_option maxRecDepth 100000 in
theorem zss_any (s V : ByteArray) (sb eb : Bool) (si ei : Int) (st en : Nat) (hV : V = s.extract (runeAt s st) (runeAt s en)) (hst : (st : Int) = stOf sb si (runeLen s)) (hen : (en : Int) = enOf eb ei st (runeLen s)) (w : World) (hs : s.size ≤ 1048576)
    (s0 : -9223372036854775808 ≤ si) (e0 : -9223372036854775808 ≤ ei) :
    Calls Tryz.prog 8 #[.string s, .bool eb, .int .i64 ei, .bool sb, .int .i64 si] w fun r w' => r = .returned (.tuple #[.string V, .bool false]) ∧ Below w.heap.size w w' := by
  have K : Hid (∀ (w1 : World) (x y : Value), x = optI eb ei → y = optI sb si → Calls Tryz.prog 18 #[.string s, x, y] w1 fun r w' => r = .returned (.iface 9 (.string V)) ∧ Below w1.heap.size w1 w') := Lib.hid fun w1 x y hx hy => by
    subst hx; subst hy; subst hV
    exact sliceString_any s sb eb si ei st en hst hen w1 hs s0 e0
  clear hst hen hV
  cases sb <;> cases eb
  all_goals
    go_enter Tryz.func8, Tryz.ntmps8
    go_wp2_with (go_at_call 18; refine (K.out _ _ _ rfl rfl).mono ?_; rintro r w2 ⟨rfl, B2⟩; have HB2 := Lib.hid B2; clear B2)
    go_ret2
    exact ⟨rfl, HB2.out⟩
end Go.Proofs.YtdieahcigcdnpaaGreatDoor
