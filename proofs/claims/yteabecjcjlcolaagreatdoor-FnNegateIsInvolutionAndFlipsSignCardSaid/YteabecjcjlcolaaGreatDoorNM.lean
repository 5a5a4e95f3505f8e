/- negate at the least int, as int and as text. -/
import Derived.Test.YteabecjcjlcolaaGreatDoorFL
import Derived.Test.YteabecjcjlcolaaGreatDoorNG
import Derived.Test.YteabecjcjlcolaaGreatDoorTX
namespace Go.Proofs.YteabecjcjlcolaaGreatDoor
open Go.RowKit
set_option linter.unusedVariables false

set_option maxRecDepth 100000 in
theorem zneg_min (w : World) : Calls Tryz.prog 8 #[.int .i64 (-9223372036854775808)] w fun r w' => r = .returned (.tuple #[.int .i64 0, .bool false]) ∧ Below w.heap.size w w' := by
  go_enter Tryz.func8, Tryz.ntmps8
  go_wp2_with (go_at_call 22; refine (negate_min _).mono ?_; rintro r w2 ⟨z, c, rfl, H, B2⟩; have HH := Lib.hid H; have HB2 := Lib.hid B2; clear H B2)
  go_ret2
  exact ⟨rfl, HB2.out⟩

set_option maxRecDepth 100000 in
theorem znegB_min (w : World) (hl : w.cell? ⟨1, 0, none⟩ = some (.int .i64 8)) : Calls Tryz.prog 9 #[.int .i64 (-9223372036854775808)] w fun r w' => r = .returned (.tuple #[.string (itoaB 9223372036854775808), .bool true]) ∧ Below w.heap.size w w' := by
  have l1 : 1 < w.heap.size := World.block_lt_of_cell? w _ hl
  have HL := Lib.hid hl
  clear hl
  go_enter Tryz.func9, Tryz.ntmps9
  go_wp2_with (first | (go_at_call 22; refine (negate_min _).mono ?_; rintro r w2 ⟨z, c, rfl, H, B2⟩; have HH := Lib.hid H; have HB2 := Lib.hid B2; clear H B2) | (go_at_call 23; refine (string_big 9223372036854775808 z c _ HH.out (by omega) (by omega) ((World.cell?_of_block (HB2.out.block _ l1)).trans HL.out)).mono ?_; rintro r w3 ⟨rfl, B3⟩; have HB3 := Lib.hid B3; clear B3))
  go_ret2
  exact ⟨rfl, HB2.out.trans (HB3.out.mono HB2.out.size)⟩
end Go.Proofs.YteabecjcjlcolaaGreatDoor
