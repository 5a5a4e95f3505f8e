/- The walks of ZZsliceInts, zzInRange, zzPickInts and zzEqInts. -/
import Derived.LoopTactic
import Derived.Deep.QuietTactic
import Derived.BigQuiet
import Derived.Test.YtdieahcigcdnpaaGreatDoorAI
import Derived.Test.YtdieahcigcdnpaaGreatDoorLW
namespace Go.Proofs.YtdieahcigcdnpaaGreatDoor
open Go.RowKit
set_option linter.unusedVariables false

@[go_sem] theorem as_a_a (v : Value) (w : World) : (Instr.typeAssert (.iface 40 v) 20 40 true).run Tryz.prog w = .ok (.tuple #[v, .bool true]) w := by kernel_rfl

set_option maxRecDepth 100000 in
theorem zslice_any (v : Value) (zs : List Int) (sb eb : Bool) (s e : Int) (st en : Nat) (hst : (st : Int) = stOf sb s zs.length) (hen : (en : Int) = enOf eb e st zs.length) (w : World) (h : OwnAt w v (zs.map (Value.int .i64))) (hm : zs.length ≤ 131072)
    (s0 : -9223372036854775808 ≤ s) (e0 : -9223372036854775808 ≤ e) :
    Calls Tryz.prog 13 #[v, .bool eb, .int .i64 e, .bool sb, .int .i64 s] w fun r w' => ∃ a cap, r = .returned (.tuple #[.slice a (en - st) cap, .bool false]) ∧ OwnAt w' (.slice a (en - st) cap) ((win zs st en).map (Value.int .i64)) ∧ Below w.heap.size w w' := by
  have b1 := st_bounds sb s zs.length (by omega)
  rw [← hst] at b1
  have b2 := en_bounds eb e st zs.length (by omega) (by omega)
  rw [← hen] at b2
  have en_le : en ≤ zs.length := by omega
  have HL : Hid ((win zs st en).length = en - st) := Lib.hid (win_len zs st en en_le)
  have HL2 : Hid ((win zs st en).length ≤ 131072) := Lib.hid (by rw [win_len zs st en en_le]; omega)
  have HM := Lib.hid hm
  have H := Lib.hid h
  have HST : Hid ((st : Int) = stOf sb s (zs.map boxI).length) := Lib.hid (by rw [List.length_map]; exact hst)
  have HEN : Hid ((en : Int) = enOf eb e st (zs.map boxI).length) := Lib.hid (by rw [List.length_map]; exact hen)
  clear b1 b2 en_le h hst hen hm
  have K : ∀ (w1 : World) (v1 : Value), OwnAt w1 v1 (zs.map boxI) → ∀ x y, x = optI eb e → y = optI sb s → Calls Tryz.prog 21 #[v1, x, y] w1 fun r w' => ∃ v', r = .returned (.iface 40 v') ∧ OwnAt w1 v' ((win zs st en).map boxI) ∧ w1 = w' := fun w1 v1 h1 x y hx hy => by
    subst hx; subst hy
    rw [← win_map]
    exact slice_any v1 (zs.map boxI) sb eb s e st en HST.out HEN.out w1 h1 (by rw [List.length_map]; exact HM.out) s0 e0
  have K' := Lib.hid K
  clear K
  cases sb <;> cases eb
  all_goals
    go_enter Tryz.func13, Tryz.ntmps13
    go_wp2_with (first | (go_at_call 22; refine (any_ints v zs _ H.out HM.out).mono ?_; rintro r w1 ⟨v1, rfl, h1, B1⟩; have H1 := Lib.hid h1; have HB1 := Lib.hid B1; clear h1 B1) | (go_at_call 21; refine (K'.out _ v1 H1.out _ _ rfl rfl).mono ?_; rintro r w2 ⟨v2, rfl, h2, rfl⟩; have H2 := Lib.hid h2; clear h2) | (go_at_call 23; refine (ints_any v2 (win zs st en) _ H2.out HL2.out).mono ?_; rintro r w3 ⟨v3, rfl, h3, B3⟩; have H3 := Lib.hid h3; have HB3 := Lib.hid B3; clear h3 B3))
    go_ret2
    obtain ⟨a, cap, rfl⟩ := H3.out.shape ((List.length_map ..).trans HL.out)
    exact ⟨a, cap, rfl, H3.out, HB1.out.trans (HB3.out.mono HB1.out.size)⟩

theorem inRange_any (i n s e : Int) (sb eb : Bool) (w : World) (h0 : 0 ≤ i) (h1 : i < n) (h2 : n ≤ 1048576) (s0 : -9223372036854775808 ≤ s) (e0 : -9223372036854775808 ≤ e) :
    Calls Tryz.prog 20 #[.int .i64 i, .int .i64 n, .bool sb, .int .i64 s, .bool eb, .int .i64 e] w fun r w' => r = .returned (.bool (inR i n sb s eb e)) ∧ w = w' := by
  have key : ∀ b, b = inR i n sb s eb e → Calls Tryz.prog 20 #[.int .i64 i, .int .i64 n, .bool sb, .int .i64 s, .bool eb, .int .i64 e] w fun r w' => r = .returned (.bool b) ∧ w = w' := by
    intro b hb
    have HB : Hid (b = inR i n sb s eb e) := hb
    clear hb
    cases sb <;> cases eb
    all_goals
      go_enter Tryz.func20, Tryz.ntmps20
      go_wp2
    all_goals
      go_ret
      refine ⟨?_, rfl⟩
      have e1 := HB.out
      unfold inR at e1
      simp only [Bool.false_and, Bool.true_and, Bool.not_false] at e1
      first
      | (have e2 : b = true := by rw [e1]; try ((repeat' split) <;> simp <;> omega)
         subst e2; rfl)
      | (have e2 : b = false := by rw [e1]; try ((repeat' split) <;> simp <;> omega)
         subst e2; rfl)
  exact key _ rfl
end Go.Proofs.YtdieahcigcdnpaaGreatDoor
