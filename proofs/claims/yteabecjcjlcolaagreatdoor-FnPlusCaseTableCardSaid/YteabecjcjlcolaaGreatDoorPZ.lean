/- The exported ways to plus (printed by genpz.py). -/
import Derived.Test.YteabecjcjlcolaaGreatDoorPL
import Derived.LaidEql
import Derived.WideMake
import Derived.Deep.QuietTactic
import Derived.BigQuiet
namespace Go.Proofs.YteabecjcjlcolaaGreatDoor
open Go.RowKit
set_option linter.unusedVariables false


set_option maxRecDepth 100000 in
theorem zplus_int (v : Int) (w : World) : Calls Tryz.prog 12 #[.int .i64 v] w fun r w' => r = .returned (.tuple #[.int .i64 v, .bool true]) ∧ w = w' := by
  go_enter Tryz.func12, Tryz.ntmps12
  go_wp2_with (go_at_call 24; refine (plus_int v _).mono ?_; rintro r w2 ⟨rfl, rfl⟩)
  go_ret2
  exact ⟨rfl, rfl⟩

set_option maxRecDepth 100000 in
theorem zplus_float (v : Nat) (w : World) : Calls Tryz.prog 13 #[.float .f64 v] w fun r w' => r = .returned (.tuple #[.float .f64 v, .bool true]) ∧ w = w' := by
  go_enter Tryz.func13, Tryz.ntmps13
  go_wp2_with (go_at_call 24; refine (plus_float v _).mono ?_; rintro r w2 ⟨rfl, rfl⟩)
  go_ret2
  exact ⟨rfl, rfl⟩

set_option maxRecDepth 100000 in
theorem zplus_number (s : ByteArray) (w : World) : Calls Tryz.prog 15 #[.string s] w fun r w' => r = .returned (.tuple #[.string s, .bool true]) ∧ w = w' := by
  go_enter Tryz.func15, Tryz.ntmps15
  go_wp2_with (go_at_call 24; refine (plus_number s _).mono ?_; rintro r w2 ⟨rfl, rfl⟩)
  go_ret2
  exact ⟨rfl, rfl⟩

set_option maxRecDepth 100000 in
theorem zplus_string (s : ByteArray) (w : World) : Calls Tryz.prog 17 #[.string s] w fun r w' => r = .returned (.tuple #[.string ⟨#[112, 108, 117, 115]⟩, .string s, .bool true]) ∧ Below w.heap.size w w' := by
  go_enter Tryz.func17, Tryz.ntmps17
  go_wp2_with (go_at_call 24; refine (plus_string s _).mono ?_; rintro r w2 ⟨p, rfl, p0, p1, B2⟩; have HB2 := Lib.hid B2; clear B2)
  go_ret3
  exact ⟨rfl, HB2.out⟩

set_option maxRecDepth 100000 in
theorem zplus_bool (b : Bool) (w : World) : Calls Tryz.prog 18 #[.bool b] w fun r w' => r = .returned (.tuple #[.string ⟨#[112, 108, 117, 115]⟩, .bool b, .bool true]) ∧ Below w.heap.size w w' := by
  go_enter Tryz.func18, Tryz.ntmps18
  go_wp2_with (go_at_call 24; refine (plus_bool b _).mono ?_; rintro r w2 ⟨p, rfl, p0, p1, B2⟩; have HB2 := Lib.hid B2; clear B2)
  go_ret3
  exact ⟨rfl, HB2.out⟩

set_option maxRecDepth 100000 in
theorem zplus_nil (w : World) : Calls Tryz.prog 19 #[] w fun r w' => r = .returned (.tuple #[.string ⟨#[112, 108, 117, 115]⟩, .bool true]) ∧ Below w.heap.size w w' := by
  have hq := fun (w : World) => (show (binOp .eql 20 .nilIface .nilIface).run Tryz.prog w = .ok (.bool true) w by kernel_rfl)
  go_enter Tryz.func19, Tryz.ntmps19
  go_wp2_with (go_at_call 24; refine (plus_nil _).mono ?_; rintro r w2 ⟨p, rfl, p0, p1, B2⟩; have HB2 := Lib.hid B2; clear B2)
  go_quiet (fail)
  go_wp2_with fail
  go_ret2
  exact ⟨rfl, below_drewN HB2.out _⟩

set_option maxRecDepth 100000 in
theorem zplus_array (w : World) : Calls Tryz.prog 20 #[] w fun r w' => r = .returned (.tuple #[.string ⟨#[112, 108, 117, 115]⟩, .bool true]) ∧ Below w.heap.size w w' := by
  go_enter Tryz.func20, Tryz.ntmps20
  go_wp2_with (go_at_call 24; refine (plus_array _ _ _ _).mono ?_; rintro r w2 ⟨p, rfl, p0, p1, B2⟩; have HB2 := Lib.hid B2; clear B2)
  go_ret2
  exact ⟨rfl, ((Below.refl w.heap.size w).alloc (Nat.le_refl _) _).trans (HB2.out.mono (by rw [World.size_alloc]; omega))⟩

set_option maxRecDepth 100000 in
theorem zplus_map (w : World) : Calls Tryz.prog 21 #[] w fun r w' => r = .returned (.tuple #[.string ⟨#[112, 108, 117, 115]⟩, .bool true]) ∧ Below w.heap.size w w' := by
  have hmm := fun (w : World) => run_makeMap_plain (P := Tryz.prog) w 59
  go_enter Tryz.func21, Tryz.ntmps21
  go_wp2_with (go_at_call 24; refine (plus_map _ _).mono ?_; rintro r w2 ⟨p, rfl, p0, p1, B2⟩; have HB2 := Lib.hid B2; clear B2)
  go_ret2
  exact ⟨rfl, ((Below.refl w.heap.size w).alloc (Nat.le_refl _) _).trans (HB2.out.mono (by rw [World.size_alloc]; omega))⟩
end Go.Proofs.YteabecjcjlcolaaGreatDoor
