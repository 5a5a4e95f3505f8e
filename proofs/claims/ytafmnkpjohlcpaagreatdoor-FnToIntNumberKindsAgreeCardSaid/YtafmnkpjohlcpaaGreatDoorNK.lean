/- The exports of row 19 and toInt at a string, a bool and nil. -/
import Derived.Test.YtafmnkpjohlcpaaGreatDoorRows
import Derived.WalkKit
import Derived.ProofKit
import Derived.OpenShut
import Derived.WalkSpells
import Derived.WalkLawsBesides
import Derived.Outline
import Derived.Lib.Hide
import Derived.Test.YtafmnkpjohlcpaaGreatDoorCom
import Derived.Test.YtafmnkpjohlcpaaGreatDoorTI
import Derived.Test.YtafmnkpjohlcpaaGreatDoorBI
import Derived.Test.YtafmnkpjohlcpaaGreatDoorJN
namespace Go.Proofs.YtafmnkpjohlcpaaGreatDoor
open Go.RowKit
set_option linter.unusedVariables false

@[go_sem] theorem no_s_int (v : Value) (w : World) : (Instr.typeAssert (.iface 9 v) 20 3 true).run Tryz.prog w = .ok (.tuple #[.int .i64 0, .bool false]) w := by kernel_rfl
@[go_sem] theorem no_s_float64 (v : Value) (w : World) : (Instr.typeAssert (.iface 9 v) 20 26 true).run Tryz.prog w = .ok (.tuple #[.float .f64 0, .bool false]) w := by kernel_rfl
@[go_sem] theorem no_s_bigInt (v : Value) (w : World) : (Instr.typeAssert (.iface 9 v) 20 49 true).run Tryz.prog w = .ok (.tuple #[.pointer none, .bool false]) w := by kernel_rfl
@[go_sem] theorem no_s_jsonNumber (v : Value) (w : World) : (Instr.typeAssert (.iface 9 v) 20 45 true).run Tryz.prog w = .ok (.tuple #[.string ⟨#[]⟩, .bool false]) w := by kernel_rfl
@[go_sem] theorem no_b_int (v : Value) (w : World) : (Instr.typeAssert (.iface 4 v) 20 3 true).run Tryz.prog w = .ok (.tuple #[.int .i64 0, .bool false]) w := by kernel_rfl
@[go_sem] theorem no_b_float64 (v : Value) (w : World) : (Instr.typeAssert (.iface 4 v) 20 26 true).run Tryz.prog w = .ok (.tuple #[.float .f64 0, .bool false]) w := by kernel_rfl
@[go_sem] theorem no_b_bigInt (v : Value) (w : World) : (Instr.typeAssert (.iface 4 v) 20 49 true).run Tryz.prog w = .ok (.tuple #[.pointer none, .bool false]) w := by kernel_rfl
@[go_sem] theorem no_b_jsonNumber (v : Value) (w : World) : (Instr.typeAssert (.iface 4 v) 20 45 true).run Tryz.prog w = .ok (.tuple #[.string ⟨#[]⟩, .bool false]) w := by kernel_rfl
@[go_sem] theorem no_n_int (w : World) : (Instr.typeAssert .nilIface 20 3 true).run Tryz.prog w = .ok (.tuple #[.int .i64 0, .bool false]) w := by kernel_rfl
@[go_sem] theorem no_n_float64 (w : World) : (Instr.typeAssert .nilIface 20 26 true).run Tryz.prog w = .ok (.tuple #[.float .f64 0, .bool false]) w := by kernel_rfl
@[go_sem] theorem no_n_bigInt (w : World) : (Instr.typeAssert .nilIface 20 49 true).run Tryz.prog w = .ok (.tuple #[.pointer none, .bool false]) w := by kernel_rfl
@[go_sem] theorem no_n_jsonNumber (w : World) : (Instr.typeAssert .nilIface 20 45 true).run Tryz.prog w = .ok (.tuple #[.string ⟨#[]⟩, .bool false]) w := by kernel_rfl

theorem toInt_string (s : ByteArray) (w : World) : Calls Tryz.prog 26 #[.iface 9 (.string s)] w fun r w' => r = .returned (.tuple #[.int .i64 0, .bool false]) ∧ w = w' := by
  go_enter Tryz.func26, Tryz.ntmps26
  go_wp2_with fail
  go_ret2
  exact ⟨rfl, rfl⟩

theorem toInt_bool (b : Bool) (w : World) : Calls Tryz.prog 26 #[.iface 4 (.bool b)] w fun r w' => r = .returned (.tuple #[.int .i64 0, .bool false]) ∧ w = w' := by
  go_enter Tryz.func26, Tryz.ntmps26
  go_wp2_with fail
  go_ret2
  exact ⟨rfl, rfl⟩

theorem toInt_nil (w : World) : Calls Tryz.prog 26 #[.nilIface] w fun r w' => r = .returned (.tuple #[.int .i64 0, .bool false]) ∧ w = w' := by
  go_enter Tryz.func26, Tryz.ntmps26
  go_wp2_with fail
  go_ret2
  exact ⟨rfl, rfl⟩

theorem z13 (n : Int) (w : World) : Calls Tryz.prog 13 #[.int .i64 n] w fun r w' => r = .returned (.tuple #[.int .i64 n, .bool true]) ∧ w = w' := by
  go_enter Tryz.func13, Tryz.ntmps13
  go_wp2_with (go_at_call 26; refine (toInt_int n _).mono ?_; rintro r w2 ⟨rfl, rfl⟩)
  go_ret2
  exact ⟨rfl, rfl⟩

theorem z17 (s : ByteArray) (w : World) : Calls Tryz.prog 17 #[.string s] w fun r w' => r = .returned (.tuple #[.int .i64 0, .bool false]) ∧ w = w' := by
  go_enter Tryz.func17, Tryz.ntmps17
  go_wp2_with (go_at_call 26; refine (toInt_string s _).mono ?_; rintro r w2 ⟨rfl, rfl⟩)
  go_ret2
  exact ⟨rfl, rfl⟩

theorem z18 (b : Bool) (w : World) : Calls Tryz.prog 18 #[.bool b] w fun r w' => r = .returned (.tuple #[.int .i64 0, .bool false]) ∧ w = w' := by
  go_enter Tryz.func18, Tryz.ntmps18
  go_wp2_with (go_at_call 26; refine (toInt_bool b _).mono ?_; rintro r w2 ⟨rfl, rfl⟩)
  go_ret2
  exact ⟨rfl, rfl⟩

theorem z19 (w : World) : Calls Tryz.prog 19 #[] w fun r w' => r = .returned (.tuple #[.int .i64 0, .bool false]) ∧ w = w' := by
  go_enter Tryz.func19, Tryz.ntmps19
  go_wp2_with (go_at_call 26; refine (toInt_nil _).mono ?_; rintro r w2 ⟨rfl, rfl⟩)
  go_ret2
  exact ⟨rfl, rfl⟩

theorem z14 (s : ByteArray) (n : Int) (w : World) (h0 : -9223372036854775808 ≤ n) (h1 : n ≤ 9223372036854775807) (hs : s.size ≤ 1048576) (hp : Lib.parseIntB 64 s.data.toList = .ok n) : Calls Tryz.prog 14 #[.string s] w fun r w' => r = .returned (.tuple #[.int .i64 n, .bool true]) ∧ Below w.heap.size w w' := by
  have H := Lib.hid (fun w => toInt_json s n w h0 h1 hs hp)
  clear hp
  go_enter Tryz.func14, Tryz.ntmps14
  go_wp2_with (go_at_call 26; refine (H.out _).mono ?_; rintro r w2 ⟨rfl, hb⟩)
  go_ret2
  exact ⟨rfl, hb⟩

theorem z16 (n : Int) (w : World) (h0 : -9223372036854775808 ≤ n) (h1 : n ≤ 9223372036854775807) : Calls Tryz.prog 16 #[.int .i64 n] w fun r w' => r = .returned (.tuple #[.int .i64 n, .bool true]) ∧ Below w.heap.size w w' := by
  go_enter Tryz.func16, Tryz.ntmps16
  go_wp2_with (first | (go_at_call 27; refine (newInt_any n _ h0 h1).mono ?_; rintro r w2 ⟨a, rfl, hB, hb⟩) | (go_at_call 26; refine (toInt_big n a _ h0 h1 hB).mono ?_; rintro r w3 ⟨rfl, rfl⟩))
  go_ret2
  exact ⟨rfl, hb⟩
end Go.Proofs.YtafmnkpjohlcpaaGreatDoor
