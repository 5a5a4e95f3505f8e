/- The walks of json.Number's Int64, of parseNumber and of toInt at a decimal text of an int64. -/
import Derived.Test.YthcjepmdejljiaaGreatDoorRows
import Derived.WalkKit
import Derived.ProofKit
import Derived.OpenShut
import Derived.WalkSpells
import Derived.WalkLawsBesides
import Derived.Outline
import Derived.Lib.Hide
import Derived.Test.YthcjepmdejljiaaGreatDoorSH
import Derived.Test.YthcjepmdejljiaaGreatDoorCom
namespace Go.Proofs.YthcjepmdejljiaaGreatDoor
open Go.RowKit
set_option linter.unusedVariables false

theorem parseInt_ok (s : ByteArray) (n : Int) (w : World) (hs : s.size ≤ 1048576) (hp : Lib.parseIntB 64 s.data.toList = .ok n) :
    Calls Tryz.prog 18 #[.string s, .int .i64 10, .int .i64 64] w fun r w' => r = .returned (.tuple #[.int .i64 n, .nilIface]) ∧ Below w.heap.size w w' := by
  refine (Tryz.strconv_ParseInt_10_at64_ok s (by omega) n hp w).mono ?_
  rintro r w' ⟨h, hw⟩
  refine ⟨h, ?_⟩
  rcases hw with hw | ⟨t, hw⟩
  · rw [hw]; exact Below.refl _ _
  · rw [hw]; exact Lib.bytesWorld_below _ _ _

theorem jnInt64_any (s : ByteArray) (n : Int) (w : World) (hs : s.size ≤ 1048576) (hp : Lib.parseIntB 64 s.data.toList = .ok n) :
    Calls Tryz.prog 11 #[.string s] w fun r w' => r = .returned (.tuple #[.int .i64 n, .nilIface]) ∧ Below w.heap.size w w' := by
  have H := Lib.hid (fun w => parseInt_ok s n w hs hp)
  clear hp
  go_enter Tryz.func11, Tryz.ntmps11
  go_wp2_with (go_at_call 18; refine (H.out _).mono ?_; rintro r w2 ⟨rfl, hw⟩)
  go_ret2
  exact ⟨rfl, hw⟩

theorem parseNumber_any (s : ByteArray) (n : Int) (w : World) (h0 : -9223372036854775808 ≤ n) (h1 : n ≤ 9223372036854775807) (hs : s.size ≤ 1048576) (hp : Lib.parseIntB 64 s.data.toList = .ok n) :
    Calls Tryz.prog 10 #[.string s] w fun r w' => r = .returned (.iface 3 (.int .i64 n)) ∧ Below w.heap.size w w' := by
  have H := Lib.hid (fun w => jnInt64_any s n w hs hp)
  clear hp
  have t1 : decide (-9223372036854775808 ≤ n) = true := decide_eq_true h0
  have t2 : decide (n ≤ 9223372036854775807) = true := decide_eq_true h1
  go_enter Tryz.func10, Tryz.ntmps10
  go_wp2_with (go_at_call 11; refine (H.out _).mono ?_; rintro r w2 ⟨rfl, hb⟩)
  go_ret
  exact ⟨rfl, hb⟩

end Go.Proofs.YthcjepmdejljiaaGreatDoor
