/- The walks of math.Ceil and of toIntCeil at an int and at a float. -/
import Derived.Test.YtdieahcigcdnpaaGreatDoorTI
import Derived.Test.YtdieahcigcdnpaaGreatDoorTC
namespace Go.Proofs.YtdieahcigcdnpaaGreatDoor
open Go.RowKit
set_option linter.unusedVariables false

@[go_sem] theorem as_i_f (v : Value) (w : World) : (Instr.typeAssert (.iface 3 v) 20 55 true).run Tryz.prog w = .ok (.tuple #[.float .f64 0, .bool false]) w := by kernel_rfl

def CeilOut (x : Nat) (w : World) (e : Ending) (w' : World) : Prop := ∃ y, e = .returned (.float .f64 y) ∧ (w' = w ∨ w' = w.drew) ∧ (¬ Flt.nan x → y = cl x) ∧ (Flt.nan x → Flt.nan y)

set_option maxRecDepth 100000 in
theorem ceil_any (x : Nat) (w : World) : Calls Tryz.prog 33 #[.float .f64 x] w (CeilOut x w) := by
  obtain ⟨y, w1, hr, hw, h1, h2⟩ := ceil_run (P := Tryz.prog) x w
  have hc : (callFunc 42 #[.float .f64 x]).run Tryz.prog w = .ok (.value (.float .f64 y)) w1 := by
    rw [run_callFunc_extern (e := Extern.MathFloor.toIntegral "math.archCeil" .up) Tryz.func42 (by kernel_rfl) (by kernel_rfl) (by kernel_rfl) (by kernel_rfl), hr]
    rfl
  have H1 := Lib.hid hw
  have H2 := Lib.hid (And.intro h1 h2)
  clear hr hw h1 h2
  go_enter Tryz.func33, Tryz.ntmps33
  go_wp2
  go_ret
  exact ⟨y, rfl, H1.out, fun h => (H2.out.1 h), H2.out.2⟩

theorem below_or {w w' : World} (h : w' = w ∨ w' = w.drew) : Below w.heap.size w w' := by
  rcases h with rfl | rfl
  · exact Below.refl _ _
  · exact (Below.refl _ _).drew

theorem tci_of {x y : Nat} (h1 : ¬ Flt.nan x → y = cl x) (h2 : Flt.nan x → Flt.nan y) : fti y = tci x := by
  by_cases h : Flt.nan x
  · rw [tci_nan h, fti_nan (h2 h)]
  · rw [tci_num h, h1 h]

theorem toIntCeil_float (x : Nat) (w : World) : Calls Tryz.prog 26 #[.iface 55 (.float .f64 x)] w fun r w' => r = .returned (.tuple #[.int .i64 (tci x), .bool true]) ∧ Below w.heap.size w w' := by
  go_enter Tryz.func26, Tryz.ntmps26
  go_wp2_with (first | (go_at_call 33; refine (ceil_any x _).mono ?_; rintro r w1 ⟨y, rfl, hw, h1, h2⟩; have HB := below_or hw; have HT := Lib.hid (tci_of h1 h2); clear hw h1 h2) | (go_at_call 24; refine (toInt_float _ _).mono ?_; rintro r w2 ⟨rfl, rfl⟩))
  go_ret2
  exact ⟨by rw [← HT.out]; rfl, HB⟩

theorem toIntCeil_int (n : Int) (w : World) : Calls Tryz.prog 26 #[.iface 3 (.int .i64 n)] w fun r w' => r = .returned (.tuple #[.int .i64 n, .bool true]) ∧ w = w' := by
  go_enter Tryz.func26, Tryz.ntmps26
  go_wp2_with (go_at_call 24; refine (toInt_int n _).mono ?_; rintro r w2 ⟨rfl, rfl⟩)
  go_ret2
  exact ⟨rfl, rfl⟩
end Go.Proofs.YtdieahcigcdnpaaGreatDoor
