/- The walks of json.Number's Int64, of parseNumber and of toInt at a decimal text of an int64. -/
import Derived.Test.YtafmnkpjohlcpaaGreatDoorRows
import Derived.WalkKit
import Derived.ProofKit
import Derived.OpenShut
import Derived.WalkSpells
import Derived.WalkLawsBesides
import Derived.Outline
import Derived.Lib.Hide
import Derived.Test.YtafmnkpjohlcpaaGreatDoorSH
import Derived.Test.YtafmnkpjohlcpaaGreatDoorCom
import Derived.Test.YtafmnkpjohlcpaaGreatDoorTI
namespace Go.Proofs.YtafmnkpjohlcpaaGreatDoor
open Go.RowKit
set_option linter.unusedVariables false

theorem parseInt_ok (s : ByteArray) (n : Int) (w : World) (hs : s.size ≤ 1048576) (hp : Lib.parseIntB 64 s.data.toList = .ok n) :
    Calls Tryz.prog 42 #[.string s, .int .i64 10, .int .i64 64] w fun r w' => r = .returned (.tuple #[.int .i64 n, .nilIface]) ∧ Below w.heap.size w w' := by
  refine (Tryz.strconv_ParseInt_10_at64_ok s (by omega) n hp w).mono ?_
  rintro r w' ⟨h, hw⟩
  refine ⟨h, ?_⟩
  rcases hw with hw | ⟨t, hw⟩
  · rw [hw]; exact Below.refl _ _
  · rw [hw]; exact Lib.bytesWorld_below _ _ _

theorem jnInt64_any (s : ByteArray) (n : Int) (w : World) (hs : s.size ≤ 1048576) (hp : Lib.parseIntB 64 s.data.toList = .ok n) :
    Calls Tryz.prog 35 #[.string s] w fun r w' => r = .returned (.tuple #[.int .i64 n, .nilIface]) ∧ Below w.heap.size w w' := by
  have H := Lib.hid (fun w => parseInt_ok s n w hs hp)
  clear hp
  go_enter Tryz.func35, Tryz.ntmps35
  go_wp2_with (go_at_call 42; refine (H.out _).mono ?_; rintro r w2 ⟨rfl, hw⟩)
  go_ret2
  exact ⟨rfl, hw⟩

theorem parseNumber_any (s : ByteArray) (n : Int) (w : World) (h0 : -9223372036854775808 ≤ n) (h1 : n ≤ 9223372036854775807) (hs : s.size ≤ 1048576) (hp : Lib.parseIntB 64 s.data.toList = .ok n) :
    Calls Tryz.prog 33 #[.string s] w fun r w' => r = .returned (.iface 3 (.int .i64 n)) ∧ Below w.heap.size w w' := by
  have H := Lib.hid (fun w => jnInt64_any s n w hs hp)
  clear hp
  have t1 : decide (-9223372036854775808 ≤ n) = true := decide_eq_true h0
  have t2 : decide (n ≤ 9223372036854775807) = true := decide_eq_true h1
  go_enter Tryz.func33, Tryz.ntmps33
  go_wp2_with (go_at_call 35; refine (H.out _).mono ?_; rintro r w2 ⟨rfl, hb⟩)
  go_ret
  exact ⟨rfl, hb⟩

@[go_sem] theorem as_N_i (v : Value) (w : World) : (Instr.typeAssert (.iface 45 v) 20 3 true).run Tryz.prog w = .ok (.tuple #[.int .i64 0, .bool false]) w := by kernel_rfl
@[go_sem] theorem as_N_f (v : Value) (w : World) : (Instr.typeAssert (.iface 45 v) 20 26 true).run Tryz.prog w = .ok (.tuple #[.float .f64 0, .bool false]) w := by kernel_rfl
@[go_sem] theorem as_N_B (v : Value) (w : World) : (Instr.typeAssert (.iface 45 v) 20 49 true).run Tryz.prog w = .ok (.tuple #[.pointer none, .bool false]) w := by kernel_rfl
@[go_sem] theorem as_N_N (v : Value) (w : World) : (Instr.typeAssert (.iface 45 v) 20 45 true).run Tryz.prog w = .ok (.tuple #[v, .bool true]) w := by kernel_rfl

theorem toInt_json (s : ByteArray) (n : Int) (w : World) (h0 : -9223372036854775808 ≤ n) (h1 : n ≤ 9223372036854775807) (hs : s.size ≤ 1048576) (hp : Lib.parseIntB 64 s.data.toList = .ok n) :
    Calls Tryz.prog 26 #[.iface 45 (.string s)] w fun r w' => r = .returned (.tuple #[.int .i64 n, .bool true]) ∧ Below w.heap.size w w' := by
  have H := Lib.hid (fun w => parseNumber_any s n w h0 h1 hs hp)
  clear hp
  go_enter Tryz.func26, Tryz.ntmps26
  go_wp2_with (first | (go_at_call 33; refine (H.out _).mono ?_; rintro r w2 ⟨rfl, hb⟩) | (go_at_call 26; refine (toInt_int n _).mono ?_; rintro r w3 ⟨rfl, rfl⟩))
  go_ret2
  exact ⟨rfl, hb⟩
end Go.Proofs.YtafmnkpjohlcpaaGreatDoor
