/- The walks of has on an object, on null, and where it refuses; the exports. -/
import Derived.Test.YthhfmmbealhdfaaGreatDoorMH
namespace Go.Proofs.YthhfmmbealhdfaaGreatDoor
open Go.RowKit Go.Maps
set_option linter.unusedVariables false

@[go_sem] theorem as7_a_m (v : Value) (w : World) : (Instr.typeAssert (.iface 40 v) 20 41 true).run Tryz.prog w = .ok (.tuple #[.map none, .bool false]) w := by kernel_rfl
@[go_sem] theorem as7_m_a (v : Value) (w : World) : (Instr.typeAssert (.iface 41 v) 20 40 true).run Tryz.prog w = .ok (.tuple #[.slice none 0 0, .bool false]) w := by kernel_rfl
@[go_sem] theorem as7_m_m (v : Value) (w : World) : (Instr.typeAssert (.iface 41 v) 20 41 true).run Tryz.prog w = .ok (.tuple #[v, .bool true]) w := by kernel_rfl
@[go_sem] theorem as_n_a (w : World) : (Instr.typeAssert .nilIface 20 40 true).run Tryz.prog w = .ok (.tuple #[.slice none 0 0, .bool false]) w := by kernel_rfl
@[go_sem] theorem as_n_m (w : World) : (Instr.typeAssert .nilIface 20 41 true).run Tryz.prog w = .ok (.tuple #[.map none, .bool false]) w := by kernel_rfl
@[go_sem] theorem as7_i_a (v : Value) (w : World) : (Instr.typeAssert (.iface 3 v) 20 40 true).run Tryz.prog w = .ok (.tuple #[.slice none 0 0, .bool false]) w := by kernel_rfl
@[go_sem] theorem as7_i_m (v : Value) (w : World) : (Instr.typeAssert (.iface 3 v) 20 41 true).run Tryz.prog w = .ok (.tuple #[.map none, .bool false]) w := by kernel_rfl
@[go_sem] theorem as7_f_a (v : Value) (w : World) : (Instr.typeAssert (.iface 22 v) 20 40 true).run Tryz.prog w = .ok (.tuple #[.slice none 0 0, .bool false]) w := by kernel_rfl
@[go_sem] theorem as7_f_m (v : Value) (w : World) : (Instr.typeAssert (.iface 22 v) 20 41 true).run Tryz.prog w = .ok (.tuple #[.map none, .bool false]) w := by kernel_rfl
@[go_sem] theorem as7_s_s (v : Value) (w : World) : (Instr.typeAssert (.iface 9 v) 20 9 true).run Tryz.prog w = .ok (.tuple #[v, .bool true]) w := by kernel_rfl
@[go_sem] theorem as7_i_s (v : Value) (w : World) : (Instr.typeAssert (.iface 3 v) 20 9 true).run Tryz.prog w = .ok (.tuple #[.string ⟨#[]⟩, .bool false]) w := by kernel_rfl
@[go_sem] theorem as7_f_s (v : Value) (w : World) : (Instr.typeAssert (.iface 22 v) 20 9 true).run Tryz.prog w = .ok (.tuple #[.string ⟨#[]⟩, .bool false]) w := by kernel_rfl
@[go_sem] theorem as7_E_b (v : Value) (w : World) : (Instr.typeAssert (.iface 51 v) 20 4 true).run Tryz.prog w = .ok (.tuple #[.bool false, .bool false]) w := by kernel_rfl
@[go_sem] theorem as7_E_err (v : Value) (w : World) : (Instr.typeAssert (.iface 51 v) 20 45 true).run Tryz.prog w = .ok (.tuple #[.iface 51 v, .bool true]) w := by kernel_rfl
@[go_sem] theorem no7_s_int (v : Value) (w : World) : (Instr.typeAssert (.iface 9 v) 20 3 true).run Tryz.prog w = .ok (.tuple #[.int .i64 0, .bool false]) w := by kernel_rfl
@[go_sem] theorem no7_s_float64 (v : Value) (w : World) : (Instr.typeAssert (.iface 9 v) 20 22 true).run Tryz.prog w = .ok (.tuple #[.float .f64 0, .bool false]) w := by kernel_rfl
@[go_sem] theorem no7_s_bigInt (v : Value) (w : World) : (Instr.typeAssert (.iface 9 v) 20 55 true).run Tryz.prog w = .ok (.tuple #[.pointer none, .bool false]) w := by kernel_rfl
@[go_sem] theorem no7_s_jsonNumber (v : Value) (w : World) : (Instr.typeAssert (.iface 9 v) 20 59 true).run Tryz.prog w = .ok (.tuple #[.string ⟨#[]⟩, .bool false]) w := by kernel_rfl

theorem toInt_string (s : ByteArray) (w : World) : Calls Tryz.prog 22 #[.iface 9 (.string s)] w fun r w' => r = .returned (.tuple #[.int .i64 0, .bool false]) ∧ w = w' := by
  go_enter Tryz.func22, Tryz.ntmps22
  go_wp2
  go_ret2
  exact ⟨rfl, rfl⟩

theorem anyRes_err (p : Value) (w : World) : Calls Tryz.prog 19 #[.iface 51 p] w fun r w' => r = .returned (.tuple #[.bool false, .bool false, .bool true]) ∧ w = w' := by
  go_enter Tryz.func19, Tryz.ntmps19
  go_wp2_with fail
  go_ret3
  exact ⟨rfl, rfl⟩

set_option maxRecDepth 100000 in
theorem has_obj (b n : Nat) (D : DataW Unit) (x : ByteArray) (w : World) (h : w.ownsMap Tryz.prog 9 nilElem b n D) (hx : x.size ≤ 1048576) :
    Calls Tryz.prog 20 #[.iface 41 (.map (some b)), .iface 9 (.string x)] w fun r w' => r = .returned (.iface 4 (.bool (Maps.has D (.string x.data.toList)))) ∧ w = w' := by
  have HO := Lib.hid h
  have HK : Hid (keyOf Tryz.prog 9 (.string x) = some (.string x.data.toList)) := Lib.hid (Go.WideMaps.keyOf_string_mk Tryz.underlying9 (by unfold maxLen; omega))
  clear h
  go_enter Tryz.func20, Tryz.ntmps20
  go_wp2_with (at_lookup; refine wpList_lookup_own_ok _ rfl _ _ 41 rfl 9 20 law Tryz.underlying41 nilElem (zeroI _) (.agg []) [] rfl b n D rfl HO.out (.string x) (.string x.data.toList) rfl HK.out ?_; intro v ps hv; obtain rfl := nilElem_inv hv)
  go_ret
  exact ⟨rfl, rfl⟩

theorem has_null (x : ByteArray) (w : World) : Calls Tryz.prog 20 #[.nilIface, .iface 9 (.string x)] w fun r w' => r = .returned (.iface 4 (.bool false)) ∧ w = w' := by
  go_enter Tryz.func20, Tryz.ntmps20
  go_wp2_with fail
  go_ret
  exact ⟨rfl, rfl⟩

set_option maxRecDepth 100000 in
theorem has_mi (b : Nat) (y : Int) (w : World) : Calls Tryz.prog 20 #[.iface 41 (.map (some b)), .iface 3 (.int .i64 y)] w fun r w' => ∃ p, r = .returned (.iface 51 p) ∧ Below w.heap.size w w' := by
  go_enter Tryz.func20, Tryz.ntmps20
  go_wp2_with fail
  go_ret
  exact ⟨_, rfl, (Below.refl _ _).alloc (Nat.le_refl _) _⟩

set_option maxRecDepth 100000 in
theorem has_mf (b : Nat) (g : Nat) (w : World) : Calls Tryz.prog 20 #[.iface 41 (.map (some b)), .iface 22 (.float .f64 g)] w fun r w' => ∃ p, r = .returned (.iface 51 p) ∧ Below w.heap.size w w' := by
  go_enter Tryz.func20, Tryz.ntmps20
  go_wp2_with fail
  go_ret
  exact ⟨_, rfl, (Below.refl _ _).alloc (Nat.le_refl _) _⟩

set_option maxRecDepth 100000 in
theorem has_as (p : Option Addr) (n : Nat) (x : ByteArray) (w : World) : Calls Tryz.prog 20 #[.iface 40 (.slice p n n), .iface 9 (.string x)] w fun r w' => ∃ p, r = .returned (.iface 51 p) ∧ Below w.heap.size w w' := by
  go_enter Tryz.func20, Tryz.ntmps20
  go_wp2_with (go_at_call 22; refine (toInt_string x _).mono ?_; rintro r w2 ⟨rfl, rfl⟩)
  go_ret
  exact ⟨_, rfl, (Below.refl _ _).alloc (Nat.le_refl _) _⟩

set_option maxRecDepth 100000 in
theorem has_ii (i : Int) (y : Int) (w : World) : Calls Tryz.prog 20 #[.iface 3 (.int .i64 i), .iface 3 (.int .i64 y)] w fun r w' => ∃ p, r = .returned (.iface 51 p) ∧ Below w.heap.size w w' := by
  go_enter Tryz.func20, Tryz.ntmps20
  go_wp2_with fail
  go_ret
  exact ⟨_, rfl, (Below.refl _ _).alloc (Nat.le_refl _) _⟩

set_option maxRecDepth 100000 in
theorem has_is (i : Int) (x : ByteArray) (w : World) : Calls Tryz.prog 20 #[.iface 3 (.int .i64 i), .iface 9 (.string x)] w fun r w' => ∃ p, r = .returned (.iface 51 p) ∧ Below w.heap.size w w' := by
  go_enter Tryz.func20, Tryz.ntmps20
  go_wp2_with fail
  go_ret
  exact ⟨_, rfl, (Below.refl _ _).alloc (Nat.le_refl _) _⟩

set_option maxRecDepth 100000 in
theorem has_ff (f : Nat) (g : Nat) (w : World) : Calls Tryz.prog 20 #[.iface 22 (.float .f64 f), .iface 22 (.float .f64 g)] w fun r w' => ∃ p, r = .returned (.iface 51 p) ∧ Below w.heap.size w w' := by
  go_enter Tryz.func20, Tryz.ntmps20
  go_wp2_with fail
  go_ret
  exact ⟨_, rfl, (Below.refl _ _).alloc (Nat.le_refl _) _⟩

set_option maxRecDepth 100000 in
theorem zhas_Number (i y : Int) (w : World) : Calls Tryz.prog 16 #[.int .i64 i, .int .i64 y] w fun r w' => r = .returned (.tuple #[.bool false, .bool false, .bool true]) ∧ Below w.heap.size w w' := by
  go_enter Tryz.func16, Tryz.ntmps16
  go_wp2_with (first | (go_at_call 20; refine (has_ii i y _).mono ?_; rintro r w2 ⟨p2, rfl, B2⟩; have HB2 := Lib.hid B2; clear B2) | (go_at_call 19; refine (anyRes_err _ _).mono ?_; rintro r w5 ⟨rfl, rfl⟩))
  go_ret3
  exact ⟨rfl, HB2.out⟩

set_option maxRecDepth 100000 in
theorem zhas_NumberString (i : Int) (x : ByteArray) (w : World) : Calls Tryz.prog 17 #[.int .i64 i, .string x] w fun r w' => r = .returned (.tuple #[.bool false, .bool false, .bool true]) ∧ Below w.heap.size w w' := by
  go_enter Tryz.func17, Tryz.ntmps17
  go_wp2_with (first | (go_at_call 20; refine (has_is i x _).mono ?_; rintro r w2 ⟨p2, rfl, B2⟩; have HB2 := Lib.hid B2; clear B2) | (go_at_call 19; refine (anyRes_err _ _).mono ?_; rintro r w5 ⟨rfl, rfl⟩))
  go_ret3
  exact ⟨rfl, HB2.out⟩

set_option maxRecDepth 100000 in
theorem zhas_FloatFloat (f g : Nat) (w : World) : Calls Tryz.prog 18 #[.float .f64 f, .float .f64 g] w fun r w' => r = .returned (.tuple #[.bool false, .bool false, .bool true]) ∧ Below w.heap.size w w' := by
  go_enter Tryz.func18, Tryz.ntmps18
  go_wp2_with (first | (go_at_call 20; refine (has_ff f g _).mono ?_; rintro r w2 ⟨p2, rfl, B2⟩; have HB2 := Lib.hid B2; clear B2) | (go_at_call 19; refine (anyRes_err _ _).mono ?_; rintro r w5 ⟨rfl, rfl⟩))
  go_ret3
  exact ⟨rfl, HB2.out⟩

set_option maxRecDepth 100000 in
theorem zhas_ArrayString (n : Nat) (x : ByteArray) (w : World) (h1 : n ≤ 65536) : Calls Tryz.prog 15 #[.int .i64 n, .string x] w fun r w' => r = .returned (.tuple #[.bool false, .bool false, .bool true]) ∧ Below w.heap.size w w' := by
  have hmk := run_make_row' (P := Tryz.prog) 40 20 .nilIface 16 Tryz.underlying40 info_any rfl .i64 .i64 n (by omega) (by omega)
  have HB1 : Hid (Below w.heap.size w (w.alloc (.cells (madeCells #[.nilIface] n) 20))) := Lib.hid ((Below.refl _ _).alloc (Nat.le_refl _) _)
  go_enter Tryz.func15, Tryz.ntmps15
  go_wp2_with (first | (go_at_call 20; refine (has_as _ n x _).mono ?_; rintro r w2 ⟨p2, rfl, B2⟩; have HB2 := Lib.hid B2; clear B2) | (go_at_call 19; refine (anyRes_err _ _).mono ?_; rintro r w5 ⟨rfl, rfl⟩))
  go_ret3
  exact ⟨rfl, HB1.out.trans (HB2.out.mono HB1.out.size)⟩

theorem zhas_Null (x : ByteArray) (w : World) : Calls Tryz.prog 12 #[.string x] w fun r w' => r = .returned (.tuple #[.bool false, .bool true, .bool false]) ∧ w = w' := by
  go_enter Tryz.func12, Tryz.ntmps12
  go_wp2_with (first | (go_at_call 20; refine (has_null x _).mono ?_; rintro r w2 ⟨rfl, rfl⟩) | (go_at_call 19; refine (anyRes_bool _ _).mono ?_; rintro r w5 ⟨rfl, rfl⟩))
  go_ret3
  exact ⟨rfl, rfl⟩

set_option maxRecDepth 100000 in
theorem zhas_ObjectInt (a : Option Addr) (cap : Nat) (ss : List ByteArray) (y : Int) (w : World) (h : SlotsAt w a (ss.map Value.string)) (hn : ss.length ≤ 65536) (hz : ∀ j, j < ss.length → (ss.getD j ByteArray.empty).size ≤ 1048576) :
    Calls Tryz.prog 13 #[.slice a ss.length cap, .int .i64 y] w fun r w' => r = .returned (.tuple #[.bool false, .bool false, .bool true]) ∧ Below w.heap.size w w' := by
  have HOB := Lib.hid (fun w h => objOf_any a cap ss w h hn hz)
  have HS := Lib.hid h
  clear h hz
  go_enter Tryz.func13, Tryz.ntmps13
  go_wp2_with (first | (go_at_call 21; refine (HOB.out _ HS.out).mono ?_; rintro r w1 ⟨b1, rfl, h1, B1⟩; have H1 := Lib.hid h1; have HB1 := Lib.hid B1; clear h1 B1) | (go_at_call 20; refine (has_mi b1 y _).mono ?_; rintro r w2 ⟨p2, rfl, B2⟩; have HB2 := Lib.hid B2; clear B2) | (go_at_call 19; refine (anyRes_err _ _).mono ?_; rintro r w5 ⟨rfl, rfl⟩))
  go_ret3
  exact ⟨rfl, HB1.out.trans (HB2.out.mono HB1.out.size)⟩

set_option maxRecDepth 100000 in
theorem zhas_ObjectFloat (a : Option Addr) (cap : Nat) (ss : List ByteArray) (g : Nat) (w : World) (h : SlotsAt w a (ss.map Value.string)) (hn : ss.length ≤ 65536) (hz : ∀ j, j < ss.length → (ss.getD j ByteArray.empty).size ≤ 1048576) :
    Calls Tryz.prog 14 #[.slice a ss.length cap, .float .f64 g] w fun r w' => r = .returned (.tuple #[.bool false, .bool false, .bool true]) ∧ Below w.heap.size w w' := by
  have HOB := Lib.hid (fun w h => objOf_any a cap ss w h hn hz)
  have HS := Lib.hid h
  clear h hz
  go_enter Tryz.func14, Tryz.ntmps14
  go_wp2_with (first | (go_at_call 21; refine (HOB.out _ HS.out).mono ?_; rintro r w1 ⟨b1, rfl, h1, B1⟩; have H1 := Lib.hid h1; have HB1 := Lib.hid B1; clear h1 B1) | (go_at_call 20; refine (has_mf b1 g _).mono ?_; rintro r w2 ⟨p2, rfl, B2⟩; have HB2 := Lib.hid B2; clear B2) | (go_at_call 19; refine (anyRes_err _ _).mono ?_; rintro r w5 ⟨rfl, rfl⟩))
  go_ret3
  exact ⟨rfl, HB1.out.trans (HB2.out.mono HB1.out.size)⟩

set_option maxRecDepth 100000 in
theorem zhas_Object (a : Option Addr) (cap : Nat) (ss : List ByteArray) (x : ByteArray) (w : World) (h : SlotsAt w a (ss.map Value.string)) (hn : ss.length ≤ 65536) (hz : ∀ j, j < ss.length → (ss.getD j ByteArray.empty).size ≤ 1048576) (hx : x.size ≤ 1048576) :
    Calls Tryz.prog 11 #[.slice a ss.length cap, .string x] w fun r w' => r = .returned (.tuple #[.bool (memB ss x), .bool true, .bool false]) ∧ Below w.heap.size w w' := by
  have HOB := Lib.hid (fun w h => objOf_any a cap ss w h hn hz)
  have HH : Hid (Maps.has (mapOf ss ss.length) (.string x.data.toList) = memB ss x) := Lib.hid (mapOf_has ss x ss.length)
  have HC := Lib.hid (fun b w h => has_obj b ss.length (mapOf ss ss.length) x w h hx)
  rw [HH.out] at HC
  have HS := Lib.hid h
  clear h hz HH
  go_enter Tryz.func11, Tryz.ntmps11
  go_wp2_with (first | (go_at_call 21; refine (HOB.out _ HS.out).mono ?_; rintro r w1 ⟨b1, rfl, h1, B1⟩; have H1 := Lib.hid h1; have HB1 := Lib.hid B1; clear h1 B1) | (go_at_call 20; refine (HC.out b1 _ H1.out).mono ?_; rintro r w2 ⟨rfl, rfl⟩) | (go_at_call 19; refine (anyRes_bool _ _).mono ?_; rintro r w5 ⟨rfl, rfl⟩))
  go_ret3
  exact ⟨rfl, HB1.out⟩
end Go.Proofs.YthhfmmbealhdfaaGreatDoor
