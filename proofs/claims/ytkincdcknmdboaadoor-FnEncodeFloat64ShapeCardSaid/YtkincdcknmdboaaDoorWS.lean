/- The walks of the small functions of unrounded scaling. -/
import Derived.Test.YtkincdcknmdboaaDoorRows
import Derived.WalkKit
import Derived.ProofKit
import Derived.OpenShut
import Derived.WalkSpells
import Derived.WalkLawsBesides
import Derived.Outline
import Derived.Lib.Hide
import Derived.Deep.QuietTactic
import Derived.BigQuiet
import Derived.Laws.Bits64
import Derived.Test.YtkincdcknmdboaaDoorCom
import Derived.Test.YtkincdcknmdboaaDoorSH
namespace Go.Proofs.YtkincdcknmdboaaDoor
open Go.RowKit
set_option linter.unusedVariables false

theorem wraps_u64 (n : Int) (h0 : 0 ≤ n) (h1 : n < 2 ^ 64) : IntKind.u64.wrap n = n := by rw [IntKind.wrap_u64]; omega
theorem u_and1 (x : Int) (h0 : 0 ≤ x) (h1 : x < 18446744073709551616) : bits .and .u64 x 1 = x % 2 := bits_mask .u64 64 (by decide) wraps_u64 1 (by decide) x h0 h1

theorem skewed_any (x : Int) (h0 : -5000 ≤ x) (h1 : x ≤ 5000) (w : World) : Calls Tryd.prog 38 #[.int .i64 x] w fun r w' => r = .returned (.int .i64 ((x * 631305 - 261663) / 2097152)) ∧ w = w' := by
  go_enter Tryd.func38, Tryd.ntmps38
  go_wp2_with fail
  go_ret
  exact ⟨rfl, rfl⟩

theorem log10_any (x : Int) (h0 : -5000 ≤ x) (h1 : x ≤ 5000) (w : World) : Calls Tryd.prog 29 #[.int .i64 x] w fun r w' => r = .returned (.int .i64 (x * 78913 / 262144)) ∧ w = w' := by
  go_enter Tryd.func29, Tryd.ntmps29
  go_wp2_with fail
  go_ret
  exact ⟨rfl, rfl⟩

theorem log2_any (x : Int) (h0 : -5000 ≤ x) (h1 : x ≤ 5000) (w : World) : Calls Tryd.prog 40 #[.int .i64 x] w fun r w' => r = .returned (.int .i64 (x * 108853 / 32768)) ∧ w = w' := by
  go_enter Tryd.func40, Tryd.ntmps40
  go_wp2_with fail
  go_ret
  exact ⟨rfl, rfl⟩

theorem floor_any (u : Nat) (h : u < 18446744073709551616) (w : World) : Calls Tryd.prog 44 #[.int .u64 u] w fun r w' => r = .returned (.int .u64 (u / 4 : Nat)) ∧ w = w' := by
  go_enter Tryd.func44, Tryd.ntmps44
  go_wp2_with fail
  go_ret
  exact ⟨rfl, rfl⟩

theorem ceil_any (u : Nat) (h : u < 9223372036854775808) (w : World) : Calls Tryd.prog 43 #[.int .u64 u] w fun r w' => r = .returned (.int .u64 ((u + 3) / 4 : Nat)) ∧ w = w' := by
  go_enter Tryd.func43, Tryd.ntmps43
  go_wp2_with fail
  go_ret
  exact ⟨rfl, rfl⟩

theorem round_any (u : Nat) (h : u < 9223372036854775808) (w : World) : Calls Tryd.prog 45 #[.int .u64 u] w fun r w' => r = .returned (.int .u64 ((u + 1 + u / 4 % 2) / 4 : Nat)) ∧ w = w' := by
  have hb : bits .and .u64 ((u : Int) / 4) 1 = ((u : Int) / 4) % 2 := u_and1 _ (by omega) (by omega)
  have hw : IntKind.u64.wrap ((u : Int) + 1 + (u : Int) / 4 % 2) = (u : Int) + 1 + (u : Int) / 4 % 2 := by rw [IntKind.wrap_u64]; omega
  go_enter Tryd.func45, Tryd.ntmps45
  go_wp2_with fail
  go_ret
  exact ⟨rfl, rfl⟩

theorem nudge_any (u : Nat) (d : Int) (h : u < 9223372036854775808) (hd : d = 0 ∨ d = 1 ∨ (d = -1 ∧ 1 ≤ u)) (w : World) : Calls Tryd.prog 42 #[.int .u64 u, .int .i64 d] w fun r w' => r = .returned (.int .u64 ((u : Int) + d)) ∧ w = w' := by
  have hw : IntKind.u64.wrap ((u : Int) + IntKind.u64.wrap d) = (u : Int) + d := by rw [IntKind.wrap_u64, IntKind.wrap_u64]; omega
  go_enter Tryd.func42, Tryd.ntmps42
  go_wp2_with fail
  go_ret
  exact ⟨rfl, rfl⟩

theorem bool2_t (w : World) : Calls Tryd.prog 59 #[.bool true] w fun r w' => r = .returned (.int .u64 1) ∧ w = w' := by
  go_enter Tryd.func59, Tryd.ntmps59
  go_wp2_with fail
  go_ret
  exact ⟨rfl, rfl⟩
theorem bool2_f (w : World) : Calls Tryd.prog 59 #[.bool false] w fun r w' => r = .returned (.int .u64 0) ∧ w = w' := by
  go_enter Tryd.func59, Tryd.ntmps59
  go_wp2_with fail
  go_ret
  exact ⟨rfl, rfl⟩
theorem ret_int {k : IntKind} {a b : Int} (h : a = b) : Ending.returned (.int k a) = .returned (.int k b) := by rw [h]
theorem bool2_any (b : Bool) (w : World) : Calls Tryd.prog 59 #[.bool b] w fun r w' => r = .returned (.int .u64 (if b then 1 else 0)) ∧ w = w' := by
  cases b
  all_goals
    go_enter Tryd.func59, Tryd.ntmps59
    go_wp2_with fail
    go_ret
    exact ⟨rfl, rfl⟩
end Go.Proofs.YtkincdcknmdboaaDoor
