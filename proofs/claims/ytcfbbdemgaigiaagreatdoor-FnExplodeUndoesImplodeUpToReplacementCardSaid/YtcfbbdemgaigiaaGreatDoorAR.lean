/- The walk of zzAppendRuneModel: every number's UTF-8 bytes. -/
import Derived.Test.YtcfbbdemgaigiaaGreatDoorRows
import Derived.WalkKit
import Derived.ProofKit
import Derived.OpenShut
import Derived.WalkSpells
import Derived.WalkLawsBesides
import Derived.Outline
import Derived.Lib.Hide
import Derived.Lib.RuneBytes
import Derived.Laws.Bits64
import Derived.Test.YtcfbbdemgaigiaaGreatDoorCom
import Derived.Test.YtcfbbdemgaigiaaGreatDoorAO
namespace Go.Proofs.YtcfbbdemgaigiaaGreatDoor
open Go.RowKit
set_option linter.unusedVariables false

theorem info_u8 : (Tryz.prog.info? 5).map (fun i => (i.zero, i.size, i.bytes)) = some (some (.int .u8 0), 1, 1) := by kernel_rfl

def isSc (x : Int) : Bool := decide (0 ≤ x) && decide (x ≤ 1114111) && !(decide (55296 ≤ x) && decide (x ≤ 57343))

theorem scalar_any (x : Int) (w : World) : Calls Tryz.prog 11 #[.int .i64 x] w fun r w' => r = .returned (.bool (isSc x)) ∧ w = w' := by
  have key : ∀ b, b = isSc x → Calls Tryz.prog 11 #[.int .i64 x] w fun r w' => r = .returned (.bool b) ∧ w = w' := by
    intro b hb
    have HB : Hid (b = isSc x) := hb
    clear hb
    go_enter Tryz.func11, Tryz.ntmps11
    go_wp2
    all_goals
      go_ret
      refine ⟨?_, rfl⟩
      have e1 := HB.out
      unfold isSc at e1
      first
      | (have e2 : b = true := by rw [e1]; simp; omega
         subst e2; rfl)
      | (have e2 : b = false := by rw [e1]; simp; omega
         subst e2; rfl)
  exact key _ rfl

theorem wraps_i64 (n : Int) (h0 : 0 ≤ n) (h1 : n < 2 ^ 32) : IntKind.i64.wrap n = n := by rw [IntKind.wrap_i64]; omega
theorem i_and63 (x : Int) (h0 : 0 ≤ x) (h1 : x < 4294967296) : bits .and .i64 x 63 = x % 64 := bits_mask .i64 32 (by decide) wraps_i64 6 (by decide) x h0 h1
theorem i_or128 (y : Int) (h0 : 0 ≤ y) (h1 : y < 64) : bits .or .i64 128 y = 128 + y := bits_join .i64 32 (by decide) wraps_i64 6 128 y (by decide) (by decide) (by decide) h0 h1 (by omega)
theorem i_or192 (y : Int) (h0 : 0 ≤ y) (h1 : y < 32) : bits .or .i64 192 y = 192 + y := bits_join .i64 32 (by decide) wraps_i64 5 192 y (by decide) (by decide) (by decide) h0 h1 (by omega)
theorem i_or224 (y : Int) (h0 : 0 ≤ y) (h1 : y < 16) : bits .or .i64 224 y = 224 + y := bits_join .i64 32 (by decide) wraps_i64 4 224 y (by decide) (by decide) (by decide) h0 h1 (by omega)
theorem i_or240 (y : Int) (h0 : 0 ≤ y) (h1 : y < 8) : bits .or .i64 240 y = 240 + y := bits_join .i64 32 (by decide) wraps_i64 3 240 y (by decide) (by decide) (by decide) h0 h1 (by omega)

set_option maxRecDepth 100000 in
theorem appendRune_0 (B : Nat) (v : Value) (n : Nat) (xs : List Value) (x : Int) (w : World) (hown : w.ownsRow B 5 1 v n xs) (hlen : n ≤ 1048576) (hBw : B ≤ w.heap.size) (q : 0 ≤ x ∧ x ≤ 127) :
    Calls Tryz.prog 8 #[v, .int .i64 x] w fun r w' => ∃ v', r = .returned v' ∧ w'.ownsRow B 5 1 v' (n + (Lib.runeCells x).length) (xs ++ Lib.runeCells x) ∧ Below B w w' := by
  obtain ⟨i0, hi, hz0, hz1, hz2⟩ := info_parts info_u8
  have HO := Lib.hid hown
  have HB := Lib.hid (Below.refl B w)
  have hsz : B ≤ w.heap.size := hBw
  clear hown
  have e : Hid (Lib.runeCells x = (_ : List Int).map fun y => Value.int .u8 y) := Lib.hid (congrArg (List.map fun y => Value.int .u8 y) (Lib.encodeRuneZ_one q.1 q.2))
  have hs : isSc x = true := by unfold isSc; simp; omega
  go_enter Tryz.func8, Tryz.ntmps8
  go_wp2_with (first | (go_at_call 11; refine (scalar_any x _).mono ?_; rintro r w2 ⟨rfl, rfl⟩) | (at_builtin; refine append_one _ rfl _ _ 27 rfl B 5 i0 (.int .u8 0) 1 Tryz.underlying27 hi hz0 hz1 hz2 rfl _ _ _ rfl HO.out _ rfl rfl (by unfold maxLen; omega) (by omega) (by omega) ?_; intro v1 w1 hown1 hgrow1; have HB1 := Lib.hid (below_one HB.out hgrow1 HO.out (by omega) (Nat.le_refl _)); have HO1 := Lib.hid hown1; have hsz1 := Nat.le_trans hBw HB1.out.size; clear hown1 hgrow1) | (at_builtin; refine append_one _ rfl _ _ 27 rfl B 5 i0 (.int .u8 0) 1 Tryz.underlying27 hi hz0 hz1 hz2 rfl _ _ _ rfl HO1.out _ rfl rfl (by unfold maxLen; omega) (by omega) (by omega) ?_; intro v2 w2 hown2 hgrow2; have HB2 := Lib.hid (below_one HB1.out hgrow2 HO1.out (by omega) (Nat.le_refl _)); have HO2 := Lib.hid hown2; have hsz2 := Nat.le_trans hBw HB2.out.size; clear hown2 hgrow2) | (at_builtin; refine append_one _ rfl _ _ 27 rfl B 5 i0 (.int .u8 0) 1 Tryz.underlying27 hi hz0 hz1 hz2 rfl _ _ _ rfl HO2.out _ rfl rfl (by unfold maxLen; omega) (by omega) (by omega) ?_; intro v3 w3 hown3 hgrow3; have HB3 := Lib.hid (below_one HB2.out hgrow3 HO2.out (by omega) (Nat.le_refl _)); have HO3 := Lib.hid hown3; have hsz3 := Nat.le_trans hBw HB3.out.size; clear hown3 hgrow3) | (at_builtin; refine append_one _ rfl _ _ 27 rfl B 5 i0 (.int .u8 0) 1 Tryz.underlying27 hi hz0 hz1 hz2 rfl _ _ _ rfl HO3.out _ rfl rfl (by unfold maxLen; omega) (by omega) (by omega) ?_; intro v4 w4 hown4 hgrow4; have HB4 := Lib.hid (below_one HB3.out hgrow4 HO3.out (by omega) (Nat.le_refl _)); have HO4 := Lib.hid hown4; clear hown4 hgrow4))
  go_ret
  exact ⟨_, rfl, by rw [e.out]; simpa using HO1.out, HB1.out⟩

set_option maxRecDepth 100000 in
theorem appendRune_1 (B : Nat) (v : Value) (n : Nat) (xs : List Value) (x : Int) (w : World) (hown : w.ownsRow B 5 1 v n xs) (hlen : n ≤ 1048576) (hBw : B ≤ w.heap.size) (q : 128 ≤ x ∧ x ≤ 2047) :
    Calls Tryz.prog 8 #[v, .int .i64 x] w fun r w' => ∃ v', r = .returned v' ∧ w'.ownsRow B 5 1 v' (n + (Lib.runeCells x).length) (xs ++ Lib.runeCells x) ∧ Below B w w' := by
  obtain ⟨i0, hi, hz0, hz1, hz2⟩ := info_parts info_u8
  have HO := Lib.hid hown
  have HB := Lib.hid (Below.refl B w)
  have hsz : B ≤ w.heap.size := hBw
  clear hown
  have e : Hid (Lib.runeCells x = (_ : List Int).map fun y => Value.int .u8 y) := Lib.hid (congrArg (List.map fun y => Value.int .u8 y) (Lib.encodeRuneZ_two q.1 q.2))
  have f1 := i_or192 (x / 64) (by omega) (by omega)
  have f2 := i_and63 x (by omega) (by omega)
  have f3 := i_or128 (x % 64) (by omega) (by omega)
  have f4 := (show (192 + x / 64) % 256 = 192 + x / 64 by omega)
  have f5 := (show (128 + x % 64) % 256 = 128 + x % 64 by omega)
  have hs : isSc x = true := by unfold isSc; simp; omega
  go_enter Tryz.func8, Tryz.ntmps8
  go_wp2_with (first | (go_at_call 11; refine (scalar_any x _).mono ?_; rintro r w2 ⟨rfl, rfl⟩) | (at_builtin; refine append_one _ rfl _ _ 27 rfl B 5 i0 (.int .u8 0) 1 Tryz.underlying27 hi hz0 hz1 hz2 rfl _ _ _ rfl HO.out _ rfl rfl (by unfold maxLen; omega) (by omega) (by omega) ?_; intro v1 w1 hown1 hgrow1; have HB1 := Lib.hid (below_one HB.out hgrow1 HO.out (by omega) (Nat.le_refl _)); have HO1 := Lib.hid hown1; have hsz1 := Nat.le_trans hBw HB1.out.size; clear hown1 hgrow1) | (at_builtin; refine append_one _ rfl _ _ 27 rfl B 5 i0 (.int .u8 0) 1 Tryz.underlying27 hi hz0 hz1 hz2 rfl _ _ _ rfl HO1.out _ rfl rfl (by unfold maxLen; omega) (by omega) (by omega) ?_; intro v2 w2 hown2 hgrow2; have HB2 := Lib.hid (below_one HB1.out hgrow2 HO1.out (by omega) (Nat.le_refl _)); have HO2 := Lib.hid hown2; have hsz2 := Nat.le_trans hBw HB2.out.size; clear hown2 hgrow2) | (at_builtin; refine append_one _ rfl _ _ 27 rfl B 5 i0 (.int .u8 0) 1 Tryz.underlying27 hi hz0 hz1 hz2 rfl _ _ _ rfl HO2.out _ rfl rfl (by unfold maxLen; omega) (by omega) (by omega) ?_; intro v3 w3 hown3 hgrow3; have HB3 := Lib.hid (below_one HB2.out hgrow3 HO2.out (by omega) (Nat.le_refl _)); have HO3 := Lib.hid hown3; have hsz3 := Nat.le_trans hBw HB3.out.size; clear hown3 hgrow3) | (at_builtin; refine append_one _ rfl _ _ 27 rfl B 5 i0 (.int .u8 0) 1 Tryz.underlying27 hi hz0 hz1 hz2 rfl _ _ _ rfl HO3.out _ rfl rfl (by unfold maxLen; omega) (by omega) (by omega) ?_; intro v4 w4 hown4 hgrow4; have HB4 := Lib.hid (below_one HB3.out hgrow4 HO3.out (by omega) (Nat.le_refl _)); have HO4 := Lib.hid hown4; clear hown4 hgrow4))
  go_ret
  exact ⟨_, rfl, by rw [e.out]; simpa using HO2.out, HB2.out⟩

set_option maxRecDepth 100000 in
theorem appendRune_2 (B : Nat) (v : Value) (n : Nat) (xs : List Value) (x : Int) (w : World) (hown : w.ownsRow B 5 1 v n xs) (hlen : n ≤ 1048576) (hBw : B ≤ w.heap.size) (q : (2048 ≤ x ∧ x < 55296) ∨ (57343 < x ∧ x ≤ 65535)) :
    Calls Tryz.prog 8 #[v, .int .i64 x] w fun r w' => ∃ v', r = .returned v' ∧ w'.ownsRow B 5 1 v' (n + (Lib.runeCells x).length) (xs ++ Lib.runeCells x) ∧ Below B w w' := by
  obtain ⟨i0, hi, hz0, hz1, hz2⟩ := info_parts info_u8
  have HO := Lib.hid hown
  have HB := Lib.hid (Below.refl B w)
  have hsz : B ≤ w.heap.size := hBw
  clear hown
  have e : Hid (Lib.runeCells x = (_ : List Int).map fun y => Value.int .u8 y) := Lib.hid (congrArg (List.map fun y => Value.int .u8 y) (Lib.encodeRuneZ_three q))
  have f1 := i_or224 (x / 4096) (by omega) (by omega)
  have f2 := i_and63 x (by omega) (by omega)
  have f3 := i_or128 (x % 64) (by omega) (by omega)
  have f6 := i_and63 (x / 64) (by omega) (by omega)
  have f7 := i_or128 (x / 64 % 64) (by omega) (by omega)
  have f4 := (show (224 + x / 4096) % 256 = 224 + x / 4096 by omega)
  have f5 := (show (128 + x % 64) % 256 = 128 + x % 64 by omega)
  have f8 := (show (128 + x / 64 % 64) % 256 = 128 + x / 64 % 64 by omega)
  have hs : isSc x = true := by unfold isSc; simp; omega
  go_enter Tryz.func8, Tryz.ntmps8
  go_wp2_with (first | (go_at_call 11; refine (scalar_any x _).mono ?_; rintro r w2 ⟨rfl, rfl⟩) | (at_builtin; refine append_one _ rfl _ _ 27 rfl B 5 i0 (.int .u8 0) 1 Tryz.underlying27 hi hz0 hz1 hz2 rfl _ _ _ rfl HO.out _ rfl rfl (by unfold maxLen; omega) (by omega) (by omega) ?_; intro v1 w1 hown1 hgrow1; have HB1 := Lib.hid (below_one HB.out hgrow1 HO.out (by omega) (Nat.le_refl _)); have HO1 := Lib.hid hown1; have hsz1 := Nat.le_trans hBw HB1.out.size; clear hown1 hgrow1) | (at_builtin; refine append_one _ rfl _ _ 27 rfl B 5 i0 (.int .u8 0) 1 Tryz.underlying27 hi hz0 hz1 hz2 rfl _ _ _ rfl HO1.out _ rfl rfl (by unfold maxLen; omega) (by omega) (by omega) ?_; intro v2 w2 hown2 hgrow2; have HB2 := Lib.hid (below_one HB1.out hgrow2 HO1.out (by omega) (Nat.le_refl _)); have HO2 := Lib.hid hown2; have hsz2 := Nat.le_trans hBw HB2.out.size; clear hown2 hgrow2) | (at_builtin; refine append_one _ rfl _ _ 27 rfl B 5 i0 (.int .u8 0) 1 Tryz.underlying27 hi hz0 hz1 hz2 rfl _ _ _ rfl HO2.out _ rfl rfl (by unfold maxLen; omega) (by omega) (by omega) ?_; intro v3 w3 hown3 hgrow3; have HB3 := Lib.hid (below_one HB2.out hgrow3 HO2.out (by omega) (Nat.le_refl _)); have HO3 := Lib.hid hown3; have hsz3 := Nat.le_trans hBw HB3.out.size; clear hown3 hgrow3) | (at_builtin; refine append_one _ rfl _ _ 27 rfl B 5 i0 (.int .u8 0) 1 Tryz.underlying27 hi hz0 hz1 hz2 rfl _ _ _ rfl HO3.out _ rfl rfl (by unfold maxLen; omega) (by omega) (by omega) ?_; intro v4 w4 hown4 hgrow4; have HB4 := Lib.hid (below_one HB3.out hgrow4 HO3.out (by omega) (Nat.le_refl _)); have HO4 := Lib.hid hown4; clear hown4 hgrow4))
  go_ret
  exact ⟨_, rfl, by rw [e.out]; simpa using HO3.out, HB3.out⟩

set_option maxRecDepth 100000 in
theorem appendRune_3 (B : Nat) (v : Value) (n : Nat) (xs : List Value) (x : Int) (w : World) (hown : w.ownsRow B 5 1 v n xs) (hlen : n ≤ 1048576) (hBw : B ≤ w.heap.size) (q : 65536 ≤ x ∧ x ≤ 1114111) :
    Calls Tryz.prog 8 #[v, .int .i64 x] w fun r w' => ∃ v', r = .returned v' ∧ w'.ownsRow B 5 1 v' (n + (Lib.runeCells x).length) (xs ++ Lib.runeCells x) ∧ Below B w w' := by
  obtain ⟨i0, hi, hz0, hz1, hz2⟩ := info_parts info_u8
  have HO := Lib.hid hown
  have HB := Lib.hid (Below.refl B w)
  have hsz : B ≤ w.heap.size := hBw
  clear hown
  have e : Hid (Lib.runeCells x = (_ : List Int).map fun y => Value.int .u8 y) := Lib.hid (congrArg (List.map fun y => Value.int .u8 y) (Lib.encodeRuneZ_four q.1 q.2))
  have f1 := i_or240 (x / 262144) (by omega) (by omega)
  have f2 := i_and63 x (by omega) (by omega)
  have f3 := i_or128 (x % 64) (by omega) (by omega)
  have f6 := i_and63 (x / 64) (by omega) (by omega)
  have f7 := i_or128 (x / 64 % 64) (by omega) (by omega)
  have f9 := i_and63 (x / 4096) (by omega) (by omega)
  have fa := i_or128 (x / 4096 % 64) (by omega) (by omega)
  have f4 := (show (240 + x / 262144) % 256 = 240 + x / 262144 by omega)
  have f5 := (show (128 + x % 64) % 256 = 128 + x % 64 by omega)
  have f8 := (show (128 + x / 64 % 64) % 256 = 128 + x / 64 % 64 by omega)
  have fb := (show (128 + x / 4096 % 64) % 256 = 128 + x / 4096 % 64 by omega)
  have hs : isSc x = true := by unfold isSc; simp; omega
  go_enter Tryz.func8, Tryz.ntmps8
  go_wp2_with (first | (go_at_call 11; refine (scalar_any x _).mono ?_; rintro r w2 ⟨rfl, rfl⟩) | (at_builtin; refine append_one _ rfl _ _ 27 rfl B 5 i0 (.int .u8 0) 1 Tryz.underlying27 hi hz0 hz1 hz2 rfl _ _ _ rfl HO.out _ rfl rfl (by unfold maxLen; omega) (by omega) (by omega) ?_; intro v1 w1 hown1 hgrow1; have HB1 := Lib.hid (below_one HB.out hgrow1 HO.out (by omega) (Nat.le_refl _)); have HO1 := Lib.hid hown1; have hsz1 := Nat.le_trans hBw HB1.out.size; clear hown1 hgrow1) | (at_builtin; refine append_one _ rfl _ _ 27 rfl B 5 i0 (.int .u8 0) 1 Tryz.underlying27 hi hz0 hz1 hz2 rfl _ _ _ rfl HO1.out _ rfl rfl (by unfold maxLen; omega) (by omega) (by omega) ?_; intro v2 w2 hown2 hgrow2; have HB2 := Lib.hid (below_one HB1.out hgrow2 HO1.out (by omega) (Nat.le_refl _)); have HO2 := Lib.hid hown2; have hsz2 := Nat.le_trans hBw HB2.out.size; clear hown2 hgrow2) | (at_builtin; refine append_one _ rfl _ _ 27 rfl B 5 i0 (.int .u8 0) 1 Tryz.underlying27 hi hz0 hz1 hz2 rfl _ _ _ rfl HO2.out _ rfl rfl (by unfold maxLen; omega) (by omega) (by omega) ?_; intro v3 w3 hown3 hgrow3; have HB3 := Lib.hid (below_one HB2.out hgrow3 HO2.out (by omega) (Nat.le_refl _)); have HO3 := Lib.hid hown3; have hsz3 := Nat.le_trans hBw HB3.out.size; clear hown3 hgrow3) | (at_builtin; refine append_one _ rfl _ _ 27 rfl B 5 i0 (.int .u8 0) 1 Tryz.underlying27 hi hz0 hz1 hz2 rfl _ _ _ rfl HO3.out _ rfl rfl (by unfold maxLen; omega) (by omega) (by omega) ?_; intro v4 w4 hown4 hgrow4; have HB4 := Lib.hid (below_one HB3.out hgrow4 HO3.out (by omega) (Nat.le_refl _)); have HO4 := Lib.hid hown4; clear hown4 hgrow4))
  go_ret
  exact ⟨_, rfl, by rw [e.out]; simpa using HO4.out, HB4.out⟩

set_option maxRecDepth 100000 in
theorem appendRune_bad (B : Nat) (v : Value) (n : Nat) (xs : List Value) (x : Int) (w : World) (hown : w.ownsRow B 5 1 v n xs) (hlen : n ≤ 1048576) (hBw : B ≤ w.heap.size) (q : x < 0 ∨ (55296 ≤ x ∧ x ≤ 57343) ∨ 1114111 < x) :
    Calls Tryz.prog 8 #[v, .int .i64 x] w fun r w' => ∃ v', r = .returned v' ∧ w'.ownsRow B 5 1 v' (n + (Lib.runeCells x).length) (xs ++ Lib.runeCells x) ∧ Below B w w' := by
  obtain ⟨i0, hi, hz0, hz1, hz2⟩ := info_parts info_u8
  have HO := Lib.hid hown
  have HB := Lib.hid (Below.refl B w)
  have hsz : B ≤ w.heap.size := hBw
  clear hown
  have e : Hid (Lib.runeCells x = (_ : List Int).map fun y => Value.int .u8 y) := Lib.hid (congrArg (List.map fun y => Value.int .u8 y) (Lib.encodeRuneZ_bad q))
  have f1 : bits .or .i64 224 15 = 239 := by decide
  have f2 : bits .and .i64 1023 63 = 63 := by decide
  have f3 : bits .and .i64 65533 63 = 61 := by decide
  have f4 : bits .or .i64 128 63 = 191 := by decide
  have f5 : bits .or .i64 128 61 = 189 := by decide
  have hs : isSc x = false := by unfold isSc; simp; omega
  go_enter Tryz.func8, Tryz.ntmps8
  go_wp2_with (first | (go_at_call 11; refine (scalar_any x _).mono ?_; rintro r w2 ⟨rfl, rfl⟩) | (at_builtin; refine append_one _ rfl _ _ 27 rfl B 5 i0 (.int .u8 0) 1 Tryz.underlying27 hi hz0 hz1 hz2 rfl _ _ _ rfl HO.out _ rfl rfl (by unfold maxLen; omega) (by omega) (by omega) ?_; intro v1 w1 hown1 hgrow1; have HB1 := Lib.hid (below_one HB.out hgrow1 HO.out (by omega) (Nat.le_refl _)); have HO1 := Lib.hid hown1; have hsz1 := Nat.le_trans hBw HB1.out.size; clear hown1 hgrow1) | (at_builtin; refine append_one _ rfl _ _ 27 rfl B 5 i0 (.int .u8 0) 1 Tryz.underlying27 hi hz0 hz1 hz2 rfl _ _ _ rfl HO1.out _ rfl rfl (by unfold maxLen; omega) (by omega) (by omega) ?_; intro v2 w2 hown2 hgrow2; have HB2 := Lib.hid (below_one HB1.out hgrow2 HO1.out (by omega) (Nat.le_refl _)); have HO2 := Lib.hid hown2; have hsz2 := Nat.le_trans hBw HB2.out.size; clear hown2 hgrow2) | (at_builtin; refine append_one _ rfl _ _ 27 rfl B 5 i0 (.int .u8 0) 1 Tryz.underlying27 hi hz0 hz1 hz2 rfl _ _ _ rfl HO2.out _ rfl rfl (by unfold maxLen; omega) (by omega) (by omega) ?_; intro v3 w3 hown3 hgrow3; have HB3 := Lib.hid (below_one HB2.out hgrow3 HO2.out (by omega) (Nat.le_refl _)); have HO3 := Lib.hid hown3; have hsz3 := Nat.le_trans hBw HB3.out.size; clear hown3 hgrow3) | (at_builtin; refine append_one _ rfl _ _ 27 rfl B 5 i0 (.int .u8 0) 1 Tryz.underlying27 hi hz0 hz1 hz2 rfl _ _ _ rfl HO3.out _ rfl rfl (by unfold maxLen; omega) (by omega) (by omega) ?_; intro v4 w4 hown4 hgrow4; have HB4 := Lib.hid (below_one HB3.out hgrow4 HO3.out (by omega) (Nat.le_refl _)); have HO4 := Lib.hid hown4; clear hown4 hgrow4))
  go_ret
  exact ⟨_, rfl, by rw [e.out]; simpa using HO3.out, HB3.out⟩

theorem appendRune_any (B : Nat) (v : Value) (n : Nat) (xs : List Value) (x : Int) (w : World) (hown : w.ownsRow B 5 1 v n xs) (hlen : n ≤ 1048576) (hBw : B ≤ w.heap.size) :
    Calls Tryz.prog 8 #[v, .int .i64 x] w fun r w' => ∃ v', r = .returned v' ∧ w'.ownsRow B 5 1 v' (n + (Lib.runeCells x).length) (xs ++ Lib.runeCells x) ∧ Below B w w' := by
  by_cases q0 : 0 ≤ x ∧ x ≤ 127
  · exact appendRune_0 B v n xs x w hown hlen hBw q0
  by_cases q1 : 128 ≤ x ∧ x ≤ 2047
  · exact appendRune_1 B v n xs x w hown hlen hBw q1
  by_cases q2 : (2048 ≤ x ∧ x < 55296) ∨ (57343 < x ∧ x ≤ 65535)
  · exact appendRune_2 B v n xs x w hown hlen hBw q2
  by_cases q3 : 65536 ≤ x ∧ x ≤ 1114111
  · exact appendRune_3 B v n xs x w hown hlen hBw q3
  exact appendRune_bad B v n xs x w hown hlen hBw (by omega)
end Go.Proofs.YtcfbbdemgaigiaaGreatDoor
