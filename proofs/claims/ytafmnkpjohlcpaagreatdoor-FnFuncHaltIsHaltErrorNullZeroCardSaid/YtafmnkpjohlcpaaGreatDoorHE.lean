/- The walks of funcError, funcHaltError, funcHalt and of what stands round them. -/
import Derived.Test.YtafmnkpjohlcpaaGreatDoorRows
import Derived.WalkKit
import Derived.ProofKit
import Derived.OpenShut
import Derived.WalkSpells
import Derived.WalkLawsBesides
import Derived.Outline
import Derived.Lib.Hide
import Derived.BigQuiet
import Derived.Test.YtafmnkpjohlcpaaGreatDoorCom
import Derived.Test.YtafmnkpjohlcpaaGreatDoorTI
namespace Go.Proofs.YtafmnkpjohlcpaaGreatDoor
open Go.RowKit
set_option linter.unusedVariables false

theorem fti_zero : fti 0 = 0 := by
  have hp := Flt.one_pos
  have e := V_zero
  have z : Flt.vr (Flt.mg 0) = 0 := by
    have e2 := e
    unfold Flt.V at e2
    rw [show Flt.sg 0 = false from rfl] at e2
    simpa using e2
  rw [fti_mid n0 (by rw [e]; omega) (by rw [e]; omega), z, Nat.zero_div]
  rfl

/-- what zzMk makes of kind, int and text -/
def mkv (k i : Int) (s : ByteArray) : Value := if k = 1 then .iface 3 (.int .i64 i) else if k = 2 then .iface 9 (.string s) else .nilIface
def dki (k i : Int) : Int := if k = 1 then i else 0
def dks (k : Int) (s : ByteArray) : ByteArray := if k = 2 then s else ⟨#[]⟩

theorem mk_any (k i : Int) (s : ByteArray) (w : World) (h0 : 0 ≤ k) (h2 : k ≤ 2) :
    Calls Tryz.prog 23 #[.int .i64 k, .int .i64 i, .string s] w fun r w' => r = .returned (mkv k i s) ∧ w = w' := by
  rcases (show k = 0 ∨ k = 1 ∨ k = 2 by omega) with rfl | rfl | rfl
  · rw [show mkv 0 i s = .nilIface from rfl]
    go_enter Tryz.func23, Tryz.ntmps23
    go_wp2
    go_ret
    exact ⟨rfl, rfl⟩
  · rw [show mkv 1 i s = .iface 3 (.int .i64 i) from rfl]
    go_enter Tryz.func23, Tryz.ntmps23
    go_wp2
    go_ret
    exact ⟨rfl, rfl⟩
  · rw [show mkv 2 i s = .iface 9 (.string s) from rfl]
    go_enter Tryz.func23, Tryz.ntmps23
    go_wp2
    go_ret
    exact ⟨rfl, rfl⟩

@[go_sem] theorem as_s_i (v : Value) (w : World) : (Instr.typeAssert (.iface 9 v) 20 3 true).run Tryz.prog w = .ok (.tuple #[.int .i64 0, .bool false]) w := by kernel_rfl
@[go_sem] theorem as_s_s (v : Value) (w : World) : (Instr.typeAssert (.iface 9 v) 20 9 true).run Tryz.prog w = .ok (.tuple #[v, .bool true]) w := by kernel_rfl
@[go_sem] theorem as_e_e (v : Value) (w : World) : (Instr.typeAssert (.iface 51 v) 20 51 true).run Tryz.prog w = .ok (.tuple #[v, .bool true]) w := by kernel_rfl
@[go_sem] theorem as_h_e (v : Value) (w : World) : (Instr.typeAssert (.iface 56 v) 20 51 true).run Tryz.prog w = .ok (.tuple #[.pointer none, .bool false]) w := by kernel_rfl
@[go_sem] theorem as_h_h (v : Value) (w : World) : (Instr.typeAssert (.iface 56 v) 20 56 true).run Tryz.prog w = .ok (.tuple #[v, .bool true]) w := by kernel_rfl

theorem dec_any (k i : Int) (s : ByteArray) (w : World) (h0 : 0 ≤ k) (h2 : k ≤ 2) :
    Calls Tryz.prog 28 #[mkv k i s] w fun r w' => r = .returned (.tuple #[.int .i64 k, .int .i64 (dki k i), .string (dks k s)]) ∧ w = w' := by
  rcases (show k = 0 ∨ k = 1 ∨ k = 2 by omega) with rfl | rfl | rfl
  · rw [show mkv 0 i s = .nilIface from rfl, show dki 0 i = 0 from rfl, show dks 0 s = ⟨#[]⟩ from rfl]
    go_enter Tryz.func28, Tryz.ntmps28
    go_wp2_with fail
    go_ret3
    exact ⟨rfl, rfl⟩
  · rw [show mkv 1 i s = .iface 3 (.int .i64 i) from rfl, show dki 1 i = i from rfl, show dks 1 s = ⟨#[]⟩ from rfl]
    go_enter Tryz.func28, Tryz.ntmps28
    go_wp2_with fail
    go_ret3
    exact ⟨rfl, rfl⟩
  · rw [show mkv 2 i s = .iface 9 (.string s) from rfl, show dki 2 i = 0 from rfl, show dks 2 s = s from rfl]
    go_enter Tryz.func28, Tryz.ntmps28
    go_wp2_with fail
    go_ret3
    exact ⟨rfl, rfl⟩

theorem parts_e (k i c : Int) (s : ByteArray) (a : Nat) (w : World) (h0 : 0 ≤ k) (h2 : k ≤ 2) (c0 : w.cell? ⟨a, 0, none⟩ = some (mkv k i s)) (c1 : w.cell? ⟨a, 1, none⟩ = some (.int .i64 c)) :
    Calls Tryz.prog 21 #[.iface 51 (.pointer (some ⟨a, 0, none⟩))] w fun r w' =>
      r = .returned (.tuple #[.bool true, .bool false, .bool false, .int .i64 k, .int .i64 (dki k i), .string (dks k s), .int .i64 c]) ∧ Below w.heap.size w w' := by
  go_enter Tryz.func21, Tryz.ntmps21
  go_wp2_with (go_at_call 28; refine (dec_any k i s _ h0 h2).mono ?_; rintro r w2 ⟨rfl, rfl⟩)
  go_quiet (fail)
  go_wp2
  exact bodyPost_ret (v := .tuple #[.bool true, .bool false, .bool false, .int .i64 k, .int .i64 (dki k i), .string (dks k s), .int .i64 c]) (by simp [results, Tryz.results21, go_sem]) rfl
    ⟨rfl, below_drewN (Below.refl _ _) _⟩

theorem parts_h (k i c : Int) (s : ByteArray) (a : Nat) (w : World) (h0 : 0 ≤ k) (h2 : k ≤ 2) (c0 : w.cell? ⟨a, 0, none⟩ = some (mkv k i s)) (c1 : w.cell? ⟨a, 1, none⟩ = some (.int .i64 c)) :
    Calls Tryz.prog 21 #[.iface 56 (.pointer (some ⟨a, 0, none⟩))] w fun r w' =>
      r = .returned (.tuple #[.bool false, .bool true, .bool false, .int .i64 k, .int .i64 (dki k i), .string (dks k s), .int .i64 c]) ∧ Below w.heap.size w w' := by
  go_enter Tryz.func21, Tryz.ntmps21
  go_wp2_with (go_at_call 28; refine (dec_any k i s _ h0 h2).mono ?_; rintro r w2 ⟨rfl, rfl⟩)
  go_quiet (fail)
  go_wp2
  exact bodyPost_ret (v := .tuple #[.bool false, .bool true, .bool false, .int .i64 k, .int .i64 (dki k i), .string (dks k s), .int .i64 c]) (by simp [results, Tryz.results21, go_sem]) rfl
    ⟨rfl, below_drewN (Below.refl _ _) _⟩

/-- a new pair at a new block -/
def Boxed (t : TypeId) (v : Value) (c : Int) (w : World) (r : Ending) (w' : World) : Prop :=
  ∃ a, r = .returned (.iface t (.pointer (some ⟨a, 0, none⟩))) ∧ w'.cell? ⟨a, 0, none⟩ = some v ∧ w'.cell? ⟨a, 1, none⟩ = some (.int .i64 c) ∧ Below w.heap.size w w'

theorem funcError_nil (k i : Int) (s : ByteArray) (w : World) (h0 : 0 ≤ k) (h2 : k ≤ 2) : Calls Tryz.prog 22 #[mkv k i s, .slice none 0 0] w (Boxed 51 (mkv k i s) 5 w) := by
  rcases (show k = 0 ∨ k = 1 ∨ k = 2 by omega) with rfl | rfl | rfl
  · rw [show mkv 0 i s = .nilIface from rfl]
    go_enter Tryz.func22, Tryz.ntmps22
    go_wp2_with fail
    go_ret
    exact ⟨w.heap.size, rfl, by go_simp, by go_simp, (Below.refl _ _).alloc (Nat.le_refl _) _⟩
  · rw [show mkv 1 i s = .iface 3 (.int .i64 i) from rfl]
    go_enter Tryz.func22, Tryz.ntmps22
    go_wp2_with fail
    go_ret
    exact ⟨w.heap.size, rfl, by go_simp, by go_simp, (Below.refl _ _).alloc (Nat.le_refl _) _⟩
  · rw [show mkv 2 i s = .iface 9 (.string s) from rfl]
    go_enter Tryz.func22, Tryz.ntmps22
    go_wp2_with fail
    go_ret
    exact ⟨w.heap.size, rfl, by go_simp, by go_simp, (Below.refl _ _).alloc (Nat.le_refl _) _⟩

theorem funcHaltError_nil (k i : Int) (s : ByteArray) (w : World) (h0 : 0 ≤ k) (h2 : k ≤ 2) : Calls Tryz.prog 24 #[mkv k i s, .slice none 0 0] w (Boxed 56 (mkv k i s) 5 w) := by
  rcases (show k = 0 ∨ k = 1 ∨ k = 2 by omega) with rfl | rfl | rfl
  · rw [show mkv 0 i s = .nilIface from rfl]
    go_enter Tryz.func24, Tryz.ntmps24
    go_wp2_with fail
    go_ret
    exact ⟨w.heap.size, rfl, by go_simp, by go_simp, (Below.refl _ _).alloc (Nat.le_refl _) _⟩
  · rw [show mkv 1 i s = .iface 3 (.int .i64 i) from rfl]
    go_enter Tryz.func24, Tryz.ntmps24
    go_wp2_with fail
    go_ret
    exact ⟨w.heap.size, rfl, by go_simp, by go_simp, (Below.refl _ _).alloc (Nat.le_refl _) _⟩
  · rw [show mkv 2 i s = .iface 9 (.string s) from rfl]
    go_enter Tryz.func24, Tryz.ntmps24
    go_wp2_with fail
    go_ret
    exact ⟨w.heap.size, rfl, by go_simp, by go_simp, (Below.refl _ _).alloc (Nat.le_refl _) _⟩

theorem funcHaltError_int (n : Int) (a : Nat) (w : World) (c0 : w.cell? ⟨a, 0, none⟩ = some (.iface 3 (.int .i64 n))) :
    Calls Tryz.prog 24 #[.nilIface, .slice (some ⟨a, 0, none⟩) 1 1] w (Boxed 56 .nilIface n w) := by
  go_enter Tryz.func24, Tryz.ntmps24
  go_wp2_with (go_at_call 26; refine (toInt_int n _).mono ?_; rintro r w2 ⟨rfl, rfl⟩)
  go_ret
  exact ⟨w.heap.size, rfl, by go_simp, by go_simp, (Below.refl _ _).alloc (Nat.le_refl _) _⟩

theorem funcHaltError_float (x : Nat) (a : Nat) (w : World) (c0 : w.cell? ⟨a, 0, none⟩ = some (.iface 26 (.float .f64 x))) :
    Calls Tryz.prog 24 #[.nilIface, .slice (some ⟨a, 0, none⟩) 1 1] w (Boxed 56 .nilIface (fti x) w) := by
  go_enter Tryz.func24, Tryz.ntmps24
  go_wp2_with (go_at_call 26; refine (toInt_float x _).mono ?_; rintro r w2 ⟨rfl, rfl⟩)
  go_ret
  exact ⟨w.heap.size, rfl, by go_simp, by go_simp, (Below.refl _ _).alloc (Nat.le_refl _) _⟩

theorem funcHalt_any (v : Value) (w : World) : Calls Tryz.prog 25 #[v] w (Boxed 56 .nilIface 0 w) := by
  go_enter Tryz.func25, Tryz.ntmps25
  go_wp2
  go_ret
  exact ⟨w.heap.size, rfl, by go_simp, by go_simp, (Below.refl _ _).alloc (Nat.le_refl _) _⟩

theorem zz8 (k i : Int) (s : ByteArray) (w : World) (h0 : 0 ≤ k) (h2 : k ≤ 2) :
    Calls Tryz.prog 8 #[.int .i64 k, .int .i64 i, .string s, .slice none 0 0] w fun r w' =>
      r = .returned (.tuple #[.bool true, .bool false, .bool false, .int .i64 k, .int .i64 (dki k i), .string (dks k s), .int .i64 5]) ∧ Below w.heap.size w w' := by
  go_enter Tryz.func8, Tryz.ntmps8
  go_wp2_with (first | (go_at_call 23; refine (mk_any k i s _ h0 h2).mono ?_; rintro r w2 ⟨rfl, rfl⟩) | (go_at_call 22; refine (funcError_nil k i s _ h0 h2).mono ?_; rintro r w3 ⟨a, rfl, c0, c1, hb⟩) | (go_at_call 21; refine (parts_e k i 5 s a _ h0 h2 c0 c1).mono ?_; rintro r w4 ⟨rfl, hb2⟩))
  exact bodyPost_ret (v := .tuple #[.bool true, .bool false, .bool false, .int .i64 k, .int .i64 (dki k i), .string (dks k s), .int .i64 5]) (by simp [results, Tryz.results8, go_sem]) rfl
    ⟨rfl, hb.trans (hb2.mono hb.size)⟩

theorem zz9 (k i x y : Int) (t : ByteArray) (f : Nat) (s : ByteArray) (w : World) (h0 : 0 ≤ k) (h2 : k ≤ 2) :
    Calls Tryz.prog 9 #[.int .i64 k, .int .i64 i, .string s, .bool false, .int .i64 x, .int .i64 y, .string t, .float .f64 f] w fun r w' =>
      r = .returned (.tuple #[.bool false, .bool true, .bool false, .int .i64 k, .int .i64 (dki k i), .string (dks k s), .int .i64 5]) ∧ Below w.heap.size w w' := by
  go_enter Tryz.func9, Tryz.ntmps9
  go_wp2_with (first | (go_at_call 23; refine (mk_any k i s _ h0 h2).mono ?_; rintro r w2 ⟨rfl, rfl⟩) | (go_at_call 24; refine (funcHaltError_nil k i s _ h0 h2).mono ?_; rintro r w3 ⟨a, rfl, c0, c1, hb⟩) | (go_at_call 21; refine (parts_h k i 5 s a _ h0 h2 c0 c1).mono ?_; rintro r w4 ⟨rfl, hb2⟩))
  exact bodyPost_ret (v := .tuple #[.bool false, .bool true, .bool false, .int .i64 k, .int .i64 (dki k i), .string (dks k s), .int .i64 5]) (by simp [results, Tryz.results9, go_sem]) rfl
    ⟨rfl, hb.trans (hb2.mono hb.size)⟩

/-- null's three parts -/
def halted : Value := .tuple #[.bool false, .bool true, .bool false, .int .i64 0, .int .i64 0, .string ⟨#[]⟩, .int .i64 0]

theorem parts_0 (a : Nat) (w : World) (c0 : w.cell? ⟨a, 0, none⟩ = some .nilIface) (c1 : w.cell? ⟨a, 1, none⟩ = some (.int .i64 0)) :
    Calls Tryz.prog 21 #[.iface 56 (.pointer (some ⟨a, 0, none⟩))] w fun r w' =>
      r = .returned (.tuple #[.bool false, .bool true, .bool false, .int .i64 0, .int .i64 0, .string ⟨#[]⟩, .int .i64 0]) ∧ Below w.heap.size w w' :=
  parts_h 0 0 0 ⟨#[]⟩ a w (by decide) (by decide) c0 c1

@[go_sem] theorem mkv_0 : mkv 0 0 ⟨#[]⟩ = .nilIface := rfl
@[go_sem] theorem mkv_1 : mkv 1 0 ⟨#[]⟩ = .iface 3 (.int .i64 0) := rfl

theorem zz9_int (w : World) :
    Calls Tryz.prog 9 #[.int .i64 0, .int .i64 0, .string ⟨#[]⟩, .bool true, .int .i64 1, .int .i64 0, .string ⟨#[]⟩, .float .f64 0] w fun r w' =>
      r = .returned (.tuple #[.bool false, .bool true, .bool false, .int .i64 0, .int .i64 0, .string ⟨#[]⟩, .int .i64 0]) ∧ Below w.heap.size w w' := by
  go_enter Tryz.func9, Tryz.ntmps9
  go_wp2_with (first | (go_at_call 23; refine (mk_any _ _ _ _ (by decide) (by decide)).mono ?_; rintro r w2 ⟨rfl, rfl⟩) | (go_at_call 24; refine (funcHaltError_int 0 w.heap.size _ (by go_simp)).mono ?_; rintro r w3 ⟨a, rfl, c0, c1, hb⟩) | (go_at_call 21; refine (parts_0 a _ c0 c1).mono ?_; rintro r w4 ⟨rfl, hb2⟩))
  exact bodyPost_ret (v := .tuple #[.bool false, .bool true, .bool false, .int .i64 0, .int .i64 0, .string ⟨#[]⟩, .int .i64 0]) (by simp [results, Tryz.results9, go_sem]) rfl
    ⟨rfl, ((Below.refl _ _).alloc (Nat.le_refl _) _).trans ((hb.trans (hb2.mono hb.size)).mono (by simp))⟩

theorem zz9_float (w : World) :
    Calls Tryz.prog 9 #[.int .i64 0, .int .i64 0, .string ⟨#[]⟩, .bool true, .int .i64 3, .int .i64 0, .string ⟨#[]⟩, .float .f64 0] w fun r w' =>
      r = .returned (.tuple #[.bool false, .bool true, .bool false, .int .i64 0, .int .i64 0, .string ⟨#[]⟩, .int .i64 0]) ∧ Below w.heap.size w w' := by
  have H1 : ∀ a w, w.cell? ⟨a, 0, none⟩ = some (.iface 26 (.float .f64 0)) → Calls Tryz.prog 24 #[.nilIface, .slice (some ⟨a, 0, none⟩) 1 1] w (Boxed 56 .nilIface 0 w) := by
    intro a w h
    have := funcHaltError_float 0 a w h
    rwa [fti_zero] at this
  go_enter Tryz.func9, Tryz.ntmps9
  go_wp2_with (first | (go_at_call 23; refine (mk_any _ _ _ _ (by decide) (by decide)).mono ?_; rintro r w2 ⟨rfl, rfl⟩) | (go_at_call 24; refine (H1 w.heap.size _ (by go_simp)).mono ?_; rintro r w3 ⟨a, rfl, c0, c1, hb⟩) | (go_at_call 21; refine (parts_0 a _ c0 c1).mono ?_; rintro r w4 ⟨rfl, hb2⟩))
  exact bodyPost_ret (v := .tuple #[.bool false, .bool true, .bool false, .int .i64 0, .int .i64 0, .string ⟨#[]⟩, .int .i64 0]) (by simp [results, Tryz.results9, go_sem]) rfl
    ⟨rfl, ((Below.refl _ _).alloc (Nat.le_refl _) _).trans ((hb.trans (hb2.mono hb.size)).mono (by simp))⟩

theorem zz11 (k i : Int) (s : ByteArray) (w : World) (h0 : 0 ≤ k) (h2 : k ≤ 2) :
    Calls Tryz.prog 11 #[.int .i64 k, .int .i64 i, .string s] w fun r w' =>
      r = .returned (.tuple #[.bool false, .bool true, .bool false, .int .i64 0, .int .i64 0, .string ⟨#[]⟩, .int .i64 0]) ∧ Below w.heap.size w w' := by
  go_enter Tryz.func11, Tryz.ntmps11
  go_wp2_with (first | (go_at_call 23; refine (mk_any k i s _ h0 h2).mono ?_; rintro r w2 ⟨rfl, rfl⟩) | (go_at_call 25; refine (funcHalt_any _ _).mono ?_; rintro r w3 ⟨a, rfl, c0, c1, hb⟩) | (go_at_call 21; refine (parts_0 a _ c0 c1).mono ?_; rintro r w4 ⟨rfl, hb2⟩))
  exact bodyPost_ret (v := .tuple #[.bool false, .bool true, .bool false, .int .i64 0, .int .i64 0, .string ⟨#[]⟩, .int .i64 0]) (by simp [results, Tryz.results11, go_sem]) rfl
    ⟨rfl, hb.trans (hb2.mono hb.size)⟩
end Go.Proofs.YtafmnkpjohlcpaaGreatDoor
