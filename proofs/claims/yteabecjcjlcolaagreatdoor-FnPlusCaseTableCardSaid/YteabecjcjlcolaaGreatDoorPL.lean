/- plus of one value: every kind (printed by genpl.py). -/
import Derived.Test.YteabecjcjlcolaaGreatDoorFL
import Derived.Test.YteabecjcjlcolaaGreatDoorTX
import Derived.Test.YteabecjcjlcolaaGreatDoorBN
namespace Go.Proofs.YteabecjcjlcolaaGreatDoor
open Go.RowKit
set_option linter.unusedVariables false

@[go_sem] theorem as_f_i (v : Value) (w : World) : (Instr.typeAssert (.iface 29 v) 20 3 true).run Tryz.prog w = .ok (.tuple #[.int .i64 0, .bool false]) w := by kernel_rfl
@[go_sem] theorem as_f_f (v : Value) (w : World) : (Instr.typeAssert (.iface 29 v) 20 29 true).run Tryz.prog w = .ok (.tuple #[v, .bool true]) w := by kernel_rfl
@[go_sem] theorem as_B_f (v : Value) (w : World) : (Instr.typeAssert (.iface 45 v) 20 29 true).run Tryz.prog w = .ok (.tuple #[.float .f64 0, .bool false]) w := by kernel_rfl
@[go_sem] theorem as_N_i (v : Value) (w : World) : (Instr.typeAssert (.iface 49 v) 20 3 true).run Tryz.prog w = .ok (.tuple #[.int .i64 0, .bool false]) w := by kernel_rfl
@[go_sem] theorem as_N_f (v : Value) (w : World) : (Instr.typeAssert (.iface 49 v) 20 29 true).run Tryz.prog w = .ok (.tuple #[.float .f64 0, .bool false]) w := by kernel_rfl
@[go_sem] theorem as_N_B (v : Value) (w : World) : (Instr.typeAssert (.iface 49 v) 20 45 true).run Tryz.prog w = .ok (.tuple #[.pointer none, .bool false]) w := by kernel_rfl
@[go_sem] theorem as_N_N (v : Value) (w : World) : (Instr.typeAssert (.iface 49 v) 20 49 true).run Tryz.prog w = .ok (.tuple #[v, .bool true]) w := by kernel_rfl
@[go_sem] theorem as_s_i (v : Value) (w : World) : (Instr.typeAssert (.iface 9 v) 20 3 true).run Tryz.prog w = .ok (.tuple #[.int .i64 0, .bool false]) w := by kernel_rfl
@[go_sem] theorem as_s_f (v : Value) (w : World) : (Instr.typeAssert (.iface 9 v) 20 29 true).run Tryz.prog w = .ok (.tuple #[.float .f64 0, .bool false]) w := by kernel_rfl
@[go_sem] theorem as_s_B (v : Value) (w : World) : (Instr.typeAssert (.iface 9 v) 20 45 true).run Tryz.prog w = .ok (.tuple #[.pointer none, .bool false]) w := by kernel_rfl
@[go_sem] theorem as_s_N (v : Value) (w : World) : (Instr.typeAssert (.iface 9 v) 20 49 true).run Tryz.prog w = .ok (.tuple #[.string ⟨#[]⟩, .bool false]) w := by kernel_rfl
@[go_sem] theorem as_b_i (v : Value) (w : World) : (Instr.typeAssert (.iface 4 v) 20 3 true).run Tryz.prog w = .ok (.tuple #[.int .i64 0, .bool false]) w := by kernel_rfl
@[go_sem] theorem as_b_f (v : Value) (w : World) : (Instr.typeAssert (.iface 4 v) 20 29 true).run Tryz.prog w = .ok (.tuple #[.float .f64 0, .bool false]) w := by kernel_rfl
@[go_sem] theorem as_b_B (v : Value) (w : World) : (Instr.typeAssert (.iface 4 v) 20 45 true).run Tryz.prog w = .ok (.tuple #[.pointer none, .bool false]) w := by kernel_rfl
@[go_sem] theorem as_b_N (v : Value) (w : World) : (Instr.typeAssert (.iface 4 v) 20 49 true).run Tryz.prog w = .ok (.tuple #[.string ⟨#[]⟩, .bool false]) w := by kernel_rfl
@[go_sem] theorem as_a_i (v : Value) (w : World) : (Instr.typeAssert (.iface 57 v) 20 3 true).run Tryz.prog w = .ok (.tuple #[.int .i64 0, .bool false]) w := by kernel_rfl
@[go_sem] theorem as_a_f (v : Value) (w : World) : (Instr.typeAssert (.iface 57 v) 20 29 true).run Tryz.prog w = .ok (.tuple #[.float .f64 0, .bool false]) w := by kernel_rfl
@[go_sem] theorem as_a_B (v : Value) (w : World) : (Instr.typeAssert (.iface 57 v) 20 45 true).run Tryz.prog w = .ok (.tuple #[.pointer none, .bool false]) w := by kernel_rfl
@[go_sem] theorem as_a_N (v : Value) (w : World) : (Instr.typeAssert (.iface 57 v) 20 49 true).run Tryz.prog w = .ok (.tuple #[.string ⟨#[]⟩, .bool false]) w := by kernel_rfl
@[go_sem] theorem as_m_i (v : Value) (w : World) : (Instr.typeAssert (.iface 59 v) 20 3 true).run Tryz.prog w = .ok (.tuple #[.int .i64 0, .bool false]) w := by kernel_rfl
@[go_sem] theorem as_m_f (v : Value) (w : World) : (Instr.typeAssert (.iface 59 v) 20 29 true).run Tryz.prog w = .ok (.tuple #[.float .f64 0, .bool false]) w := by kernel_rfl
@[go_sem] theorem as_m_B (v : Value) (w : World) : (Instr.typeAssert (.iface 59 v) 20 45 true).run Tryz.prog w = .ok (.tuple #[.pointer none, .bool false]) w := by kernel_rfl
@[go_sem] theorem as_m_N (v : Value) (w : World) : (Instr.typeAssert (.iface 59 v) 20 49 true).run Tryz.prog w = .ok (.tuple #[.string ⟨#[]⟩, .bool false]) w := by kernel_rfl
@[go_sem] theorem as_nil_i (w : World) : (Instr.typeAssert .nilIface 20 3 true).run Tryz.prog w = .ok (.tuple #[.int .i64 0, .bool false]) w := by kernel_rfl
@[go_sem] theorem as_nil_f (w : World) : (Instr.typeAssert .nilIface 20 29 true).run Tryz.prog w = .ok (.tuple #[.float .f64 0, .bool false]) w := by kernel_rfl
@[go_sem] theorem as_nil_B (w : World) : (Instr.typeAssert .nilIface 20 45 true).run Tryz.prog w = .ok (.tuple #[.pointer none, .bool false]) w := by kernel_rfl
@[go_sem] theorem as_nil_N (w : World) : (Instr.typeAssert .nilIface 20 49 true).run Tryz.prog w = .ok (.tuple #[.string ⟨#[]⟩, .bool false]) w := by kernel_rfl
@[go_sem] theorem as_s_s (v : Value) (w : World) : (Instr.typeAssert (.iface 9 v) 20 9 true).run Tryz.prog w = .ok (.tuple #[v, .bool true]) w := by kernel_rfl
@[go_sem] theorem as_b_b (v : Value) (w : World) : (Instr.typeAssert (.iface 4 v) 20 4 true).run Tryz.prog w = .ok (.tuple #[v, .bool true]) w := by kernel_rfl
@[go_sem] theorem as_a_a (v : Value) (w : World) : (Instr.typeAssert (.iface 57 v) 20 57 true).run Tryz.prog w = .ok (.tuple #[v, .bool true]) w := by kernel_rfl
@[go_sem] theorem as_m_m (v : Value) (w : World) : (Instr.typeAssert (.iface 59 v) 20 59 true).run Tryz.prog w = .ok (.tuple #[v, .bool true]) w := by kernel_rfl
@[go_sem] theorem as_u_u (v : Value) (w : World) : (Instr.typeAssert (.iface 52 v) 20 52 true).run Tryz.prog w = .ok (.tuple #[v, .bool true]) w := by kernel_rfl

set_option maxRecDepth 100000 in
theorem plus_int (v : Int) (w : World) : Calls Tryz.prog 24 #[.iface 3 (.int .i64 v)] w fun r w' => r = .returned (.iface 3 (.int .i64 v)) ∧ w = w' := by
  go_enter Tryz.func24, Tryz.ntmps24
  go_wp2_with fail
  go_ret
  exact ⟨rfl, rfl⟩

set_option maxRecDepth 100000 in
theorem plus_float (v : Nat) (w : World) : Calls Tryz.prog 24 #[.iface 29 (.float .f64 v)] w fun r w' => r = .returned (.iface 29 (.float .f64 v)) ∧ w = w' := by
  go_enter Tryz.func24, Tryz.ntmps24
  go_wp2_with fail
  go_ret
  exact ⟨rfl, rfl⟩

set_option maxRecDepth 100000 in
theorem plus_big (v : Option Addr) (w : World) : Calls Tryz.prog 24 #[.iface 45 (.pointer v)] w fun r w' => r = .returned (.iface 45 (.pointer v)) ∧ w = w' := by
  go_enter Tryz.func24, Tryz.ntmps24
  go_wp2_with fail
  go_ret
  exact ⟨rfl, rfl⟩

set_option maxRecDepth 100000 in
theorem plus_number (s : ByteArray) (w : World) : Calls Tryz.prog 24 #[.iface 49 (.string s)] w fun r w' => r = .returned (.iface 49 (.string s)) ∧ w = w' := by
  go_enter Tryz.func24, Tryz.ntmps24
  go_wp2_with fail
  go_ret
  exact ⟨rfl, rfl⟩

set_option maxRecDepth 100000 in
theorem plus_string (s : ByteArray) (w : World) : Calls Tryz.prog 24 #[.iface 9 (.string s)] w fun r w' => ∃ p, r = .returned (.iface 52 (.pointer (some ⟨p, 0, none⟩))) ∧ w'.cell? ⟨p, 0, none⟩ = some (.string ⟨#[112, 108, 117, 115]⟩) ∧ w'.cell? ⟨p, 1, none⟩ = some (.iface 9 (.string s)) ∧ Below w.heap.size w w' := by
  go_enter Tryz.func24, Tryz.ntmps24
  go_wp2_with fail
  go_ret
  exact ⟨_, rfl, cell_blk (heap_alloc_new w _) 0, cell_blk (heap_alloc_new w _) 1, (Below.refl _ _).alloc (Nat.le_refl _) _⟩

set_option maxRecDepth 100000 in
theorem plus_bool (b : Bool) (w : World) : Calls Tryz.prog 24 #[.iface 4 (.bool b)] w fun r w' => ∃ p, r = .returned (.iface 52 (.pointer (some ⟨p, 0, none⟩))) ∧ w'.cell? ⟨p, 0, none⟩ = some (.string ⟨#[112, 108, 117, 115]⟩) ∧ w'.cell? ⟨p, 1, none⟩ = some (.iface 4 (.bool b)) ∧ Below w.heap.size w w' := by
  go_enter Tryz.func24, Tryz.ntmps24
  go_wp2_with fail
  go_ret
  exact ⟨_, rfl, cell_blk (heap_alloc_new w _) 0, cell_blk (heap_alloc_new w _) 1, (Below.refl _ _).alloc (Nat.le_refl _) _⟩

set_option maxRecDepth 100000 in
theorem plus_nil (w : World) : Calls Tryz.prog 24 #[.nilIface] w fun r w' => ∃ p, r = .returned (.iface 52 (.pointer (some ⟨p, 0, none⟩))) ∧ w'.cell? ⟨p, 0, none⟩ = some (.string ⟨#[112, 108, 117, 115]⟩) ∧ w'.cell? ⟨p, 1, none⟩ = some (.nilIface) ∧ Below w.heap.size w w' := by
  go_enter Tryz.func24, Tryz.ntmps24
  go_wp2_with fail
  go_ret
  exact ⟨_, rfl, cell_blk (heap_alloc_new w _) 0, cell_blk (heap_alloc_new w _) 1, (Below.refl _ _).alloc (Nat.le_refl _) _⟩

set_option maxRecDepth 100000 in
theorem plus_array (a : Option Addr) (n c : Nat) (w : World) : Calls Tryz.prog 24 #[.iface 57 (.slice a n c)] w fun r w' => ∃ p, r = .returned (.iface 52 (.pointer (some ⟨p, 0, none⟩))) ∧ w'.cell? ⟨p, 0, none⟩ = some (.string ⟨#[112, 108, 117, 115]⟩) ∧ w'.cell? ⟨p, 1, none⟩ = some (.iface 57 (.slice a n c)) ∧ Below w.heap.size w w' := by
  go_enter Tryz.func24, Tryz.ntmps24
  go_wp2_with fail
  go_ret
  exact ⟨_, rfl, cell_blk (heap_alloc_new w _) 0, cell_blk (heap_alloc_new w _) 1, (Below.refl _ _).alloc (Nat.le_refl _) _⟩

set_option maxRecDepth 100000 in
theorem plus_map (m : Option Nat) (w : World) : Calls Tryz.prog 24 #[.iface 59 (.map m)] w fun r w' => ∃ p, r = .returned (.iface 52 (.pointer (some ⟨p, 0, none⟩))) ∧ w'.cell? ⟨p, 0, none⟩ = some (.string ⟨#[112, 108, 117, 115]⟩) ∧ w'.cell? ⟨p, 1, none⟩ = some (.iface 59 (.map m)) ∧ Below w.heap.size w w' := by
  go_enter Tryz.func24, Tryz.ntmps24
  go_wp2_with fail
  go_ret
  exact ⟨_, rfl, cell_blk (heap_alloc_new w _) 0, cell_blk (heap_alloc_new w _) 1, (Below.refl _ _).alloc (Nat.le_refl _) _⟩
end Go.Proofs.YteabecjcjlcolaaGreatDoor
