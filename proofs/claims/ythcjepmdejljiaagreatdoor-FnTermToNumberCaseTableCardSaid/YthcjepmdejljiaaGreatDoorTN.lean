/- The walks of a term's toNumber. -/
import Derived.Test.YthcjepmdejljiaaGreatDoorRows
import Derived.WalkKit
import Derived.ProofKit
import Derived.OpenShut
import Derived.WalkSpells
import Derived.WalkLawsBesides
import Derived.Outline
import Derived.Lib.Hide
import Derived.Test.YthcjepmdejljiaaGreatDoorCom
import Derived.Test.YthcjepmdejljiaaGreatDoorJP
import Derived.Test.YthcjepmdejljiaaGreatDoorDW
namespace Go.Proofs.YthcjepmdejljiaaGreatDoor
open Go.RowKit
set_option linter.unusedVariables false

@[go_sem] theorem as_i_i (v : Value) (w : World) : (Instr.typeAssert (.iface 3 v) 20 3 true).run Tryz.prog w = .ok (.tuple #[v, .bool true]) w := by kernel_rfl

theorem kind_nil (w : World) : Calls Tryz.prog 7 #[.nilIface] w fun r w' => r = .returned (.tuple #[.int .i64 0, .int .i64 0, .string ⟨#[]⟩]) ∧ w = w' := by
  go_enter Tryz.func7, Tryz.ntmps7
  go_wp2_with fail
  go_ret3
  exact ⟨rfl, rfl⟩
theorem kind_int (n : Int) (w : World) : Calls Tryz.prog 7 #[.iface 3 (.int .i64 n)] w fun r w' => r = .returned (.tuple #[.int .i64 1, .int .i64 n, .string ⟨#[]⟩]) ∧ w = w' := by
  go_enter Tryz.func7, Tryz.ntmps7
  go_wp2_with fail
  go_ret3
  exact ⟨rfl, rfl⟩

/-- what a text says that spells an int64 -/
def Spells (s : ByteArray) (n : Int) : Prop := Lib.parseIntB 64 s.data.toList = .ok n ∧ -9223372036854775808 ≤ n ∧ n ≤ 9223372036854775807

theorem toNumber_any (s : ByteArray) (n : Int) (w : World) (hs : s.size ≤ 1048576) (hp : Spells s n) :
    Calls Tryz.prog 9 #[.string s] w fun r w' => r = .returned (.iface 3 (.int .i64 n)) ∧ Below w.heap.size w w' := by
  go_enter Tryz.func9, Tryz.ntmps9
  go_wp2_with (go_at_call 10; refine (parseNumber_any s n _ hp.2.1 hp.2.2 hs hp.1).mono ?_; rintro r w2 ⟨rfl, hb⟩)
  go_ret
  exact ⟨rfl, hb⟩

theorem term_other (ty : Int) (a : Nat) (w : World) (c0 : w.cell? ⟨a, 0, none⟩ = some (.int .i64 ty)) (ht : (ty == 10) = false) :
    Calls Tryz.prog 8 #[.pointer (some ⟨a, 0, none⟩)] w fun r w' => r = .returned .nilIface ∧ w = w' := by
  go_enter Tryz.func8, Tryz.ntmps8
  go_wp2_with fail
  go_ret
  exact ⟨rfl, rfl⟩
theorem term_number (s : ByteArray) (n : Int) (a : Nat) (w : World) (c0 : w.cell? ⟨a, 0, none⟩ = some (.int .i64 10)) (c5 : w.cell? ⟨a, 5, none⟩ = some (.string s)) (hs : s.size ≤ 1048576) (hp : Spells s n) :
    Calls Tryz.prog 8 #[.pointer (some ⟨a, 0, none⟩)] w fun r w' => r = .returned (.iface 3 (.int .i64 n)) ∧ Below w.heap.size w w' := by
  go_enter Tryz.func8, Tryz.ntmps8
  go_wp2_with (go_at_call 9; refine (toNumber_any s n _ hs hp).mono ?_; rintro r w2 ⟨rfl, hb⟩)
  go_ret
  exact ⟨rfl, hb⟩

theorem z_other (ty : Int) (a : Nat) (w : World) (c0 : w.cell? ⟨a, 0, none⟩ = some (.int .i64 ty)) (ht : (ty == 10) = false) :
    Calls Tryz.prog 6 #[.pointer (some ⟨a, 0, none⟩)] w fun r w' => r = .returned (.tuple #[.int .i64 0, .int .i64 0, .string ⟨#[]⟩]) ∧ Below w.heap.size w w' := by
  go_enter Tryz.func6, Tryz.ntmps6
  go_wp2_with (first | (go_at_call 8; refine (term_other ty a _ c0 ht).mono ?_; rintro r w2 ⟨rfl, rfl⟩) | (go_at_call 7; refine (kind_nil _).mono ?_; rintro r w3 ⟨rfl, rfl⟩))
  go_ret3
  exact ⟨rfl, Below.refl _ _⟩
theorem z_number (s : ByteArray) (n : Int) (a : Nat) (w : World) (c0 : w.cell? ⟨a, 0, none⟩ = some (.int .i64 10)) (c5 : w.cell? ⟨a, 5, none⟩ = some (.string s)) (hs : s.size ≤ 1048576) (hp : Spells s n) :
    Calls Tryz.prog 6 #[.pointer (some ⟨a, 0, none⟩)] w fun r w' => r = .returned (.tuple #[.int .i64 1, .int .i64 n, .string ⟨#[]⟩]) ∧ Below w.heap.size w w' := by
  go_enter Tryz.func6, Tryz.ntmps6
  go_wp2_with (first | (go_at_call 8; refine (term_number s n a _ c0 c5 hs hp).mono ?_; rintro r w2 ⟨rfl, hb⟩) | (go_at_call 7; refine (kind_int n _).mono ?_; rintro r w3 ⟨rfl, rfl⟩))
  go_ret3
  exact ⟨rfl, hb⟩

theorem decimal2 (s : ByteArray) (w : World) (hs : s.size ≤ 1048576) :
    Calls Tryz.prog 5 #[.string s] w fun r w' => ∃ n ok, r = .returned (.tuple #[.int .i64 n, .bool ok]) ∧ (ok = true → Spells s n) ∧ w = w' := by
  refine (decimal_any s w hs).mono ?_
  rintro r w' ⟨h, hw⟩
  rcases h with h | ⟨n, h, h1, h2, h3⟩
  · exact ⟨0, false, h, (fun e => Bool.noConfusion e), hw⟩
  · exact ⟨n, true, h, (fun _ => ⟨h1, h2, h3⟩), hw⟩
end Go.Proofs.YthcjepmdejljiaaGreatDoor
