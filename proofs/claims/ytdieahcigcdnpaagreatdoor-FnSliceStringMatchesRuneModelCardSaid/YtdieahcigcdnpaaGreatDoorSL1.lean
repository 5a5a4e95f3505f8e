/- The walks of clampIndex and of slice at two ints or nil. -/
import Derived.Test.YtdieahcigcdnpaaGreatDoorTI
import Derived.Test.YtdieahcigcdnpaaGreatDoorCI
import Derived.Test.YtdieahcigcdnpaaGreatDoorSA
import Derived.Test.YtdieahcigcdnpaaGreatDoorLW
namespace Go.Proofs.YtdieahcigcdnpaaGreatDoor
open Go.RowKit
set_option linter.unusedVariables false

theorem clamp_any (i mn mx : Int) (w : World) (h0 : 0 ≤ mx) (h1 : mx ≤ 1048576) (i0 : -9223372036854775808 ≤ i) :
    Calls Tryz.prog 25 #[.int .i64 i, .int .i64 mn, .int .i64 mx] w fun r w' => r = .returned (.int .i64 (clampI i mn mx)) ∧ w = w' := by
  unfold clampI
  by_cases h : i < 0
  · rw [if_pos h]
    by_cases a : i + mx < mn
    · rw [if_pos a]
      go_enter Tryz.func25, Tryz.ntmps25
      go_wp2
      go_ret
      exact ⟨rfl, rfl⟩
    · rw [if_neg a]
      by_cases b : i + mx < mx
      · rw [if_pos b]
        go_enter Tryz.func25, Tryz.ntmps25
        go_wp2
        go_ret
        exact ⟨rfl, rfl⟩
      · omega
  · rw [if_neg h]
    by_cases a : i < mn
    · rw [if_pos a]
      go_enter Tryz.func25, Tryz.ntmps25
      go_wp2
      go_ret
      exact ⟨rfl, rfl⟩
    · rw [if_neg a]
      by_cases b : i < mx
      · rw [if_pos b]
        go_enter Tryz.func25, Tryz.ntmps25
        go_wp2
        go_ret
        exact ⟨rfl, rfl⟩
      · rw [if_neg b]
        go_enter Tryz.func25, Tryz.ntmps25
        go_wp2
        go_ret
        exact ⟨rfl, rfl⟩

/-- an index that may be unset -/
def optI (b : Bool) (i : Int) : Value := if b = true then .iface 3 (.int .i64 i) else .nilIface

theorem OwnAt.sliced {w : World} {b off len cap st en : Nat} {xs : List Value} (h : OwnAt w (.slice (some ⟨b, off, none⟩) len cap) xs) (h1 : st ≤ en) (h2 : en ≤ len) :
    OwnAt w (sliced (some ⟨b, off, none⟩) st en cap 1) (win xs st en) := by
  rcases h with ⟨h, _⟩ | ⟨b', off', cap', e, h3, h4, h5⟩
  · cases h
  · simp only [Value.slice.injEq, Option.some.injEq, Addr.mk.injEq, and_true] at e
    obtain ⟨⟨rfl, rfl⟩, rfl, rfl⟩ := e
    have hl := win_len xs st en h2
    unfold Go.sliced
    by_cases e : cap = st
    · rw [if_pos e]
      refine Or.inr ⟨b, off, cap - st, by rw [hl], by omega, by omega, fun j hj => by omega⟩
    · rw [if_neg e]
      refine Or.inr ⟨b, off + st, cap - st, ?_, by omega, by omega, fun j hj => ?_⟩
      · rw [hl]
        rcases Nat.eq_zero_or_pos st with z | z
        · subst z; simp [Addr.add]
        · simp [Addr.add, Nat.ne_of_gt z]
      · rw [Nat.add_assoc, h5 (st + j) (by omega), win_get xs st en j _ h2 (by omega)]

theorem any_und : Tryz.prog.underlying 40 = some (.slice (Tryz.prog.elem 40)) := by kernel_rfl
theorem any_el (w : World) : (sizeOf (Tryz.prog.elem 40)).run Tryz.prog w = .ok 1 w := by kernel_rfl

theorem any_slice (a : Option Addr) (len cap st en : Nat) (w : World) (h1 : st ≤ en) (h2 : en ≤ cap) :
    (Instr.slice 40 (.slice a len cap) (some (.int .i64 (st : Int))) (some (.int .i64 (en : Int))) none).run Tryz.prog w = .ok (sliced a st en cap 1) w := by
  rw [run_slice_lh w 40 a len cap any_und .i64 .i64 st en (by omega) (by omega) (by omega), any_el]
  rfl
theorem any_sliceAt (a : Option Addr) (len cap st en : Nat) (w : World) (h1 : st ≤ en) (h2 : en ≤ cap) :
    (Instr.sliceAt 40 (.slice a len cap) (some (.int .i64 (st : Int))) (some (.int .i64 (en : Int))) none).run Tryz.prog w = .ok (sliced a st en cap 1) w := by
  rw [run_sliceAt_slice w _ _ _ _ _ any_und, any_slice a len cap st en w h1 h2]

theorem sliced0 (a : Option Addr) (en cap : Nat) : sliced a 0 en cap 1 = .slice a en cap := by
  unfold Go.sliced
  cases a <;> simp [Addr.add]

set_option maxRecDepth 100000 in
/-- slice gives the elements between the two ends -/
theorem slice_any (v : Value) (xs : List Value) (sb eb : Bool) (s e : Int) (st en : Nat) (hst : (st : Int) = stOf sb s xs.length) (hen : (en : Int) = enOf eb e st xs.length) (w : World) (h : OwnAt w v xs) (hm : xs.length ≤ 131072)
    (s0 : -9223372036854775808 ≤ s) (e0 : -9223372036854775808 ≤ e) :
    Calls Tryz.prog 21 #[v, optI eb e, optI sb s] w fun r w' => ∃ v', r = .returned (.iface 40 v') ∧ OwnAt w v' (win xs st en) ∧ w = w' := by
  have b1 := st_bounds sb s xs.length (by omega)
  have b2 := en_bounds eb e st xs.length (by omega) (by omega)
  rw [← hst] at b1
  rw [← hen] at b2
  have st_le : st ≤ en := by omega
  have en_le : en ≤ xs.length := by omega
  clear b1 b2
  have key : ∃ (a : Option Addr) (cap : Nat), v = .slice a xs.length cap ∧ xs.length ≤ cap ∧ OwnAt w (sliced a st en cap 1) (win xs st en) := by
    rcases h with ⟨rfl, rfl⟩ | ⟨b, off, cap, rfl, h2, h3, h4⟩
    · refine ⟨none, 0, rfl, by simp, ?_⟩
      have : en = 0 := by simpa using en_le
      subst this
      obtain rfl : st = 0 := by omega
      exact Or.inl ⟨rfl, rfl⟩
    · exact ⟨_, cap, rfl, h2, OwnAt.sliced (Or.inr ⟨b, off, cap, rfl, h2, h3, h4⟩) st_le en_le⟩
  obtain ⟨a, cap, rfl, hcap, HO⟩ := key
  obtain ⟨V, hV⟩ : ∃ V, V = sliced a st en cap 1 := ⟨_, rfl⟩
  rw [← hV] at HO
  have HO' := Lib.hid HO
  have hsl := fun w => any_slice a xs.length cap st en w st_le (by omega)
  have hsl2 := fun w => any_sliceAt a xs.length cap st en w st_le (by omega)
  rw [← hV] at hsl hsl2
  replace hV : Hid (V = sliced a st en cap 1) := hV
  clear HO h
  obtain ⟨n, hn⟩ : ∃ n, n = xs.length := ⟨_, rfl⟩
  rw [← hn] at hst hen en_le hm hcap hsl hsl2
  rw [← hn]
  have HN := Lib.hid hn
  clear hn
  cases sb <;> cases eb
  · simp only [stOf, enOf, Bool.false_eq_true, if_false] at hst hen
    obtain rfl : st = 0 := by omega
    obtain rfl : en = n := by omega
    clear hsl hsl2 hst hen
    go_enter Tryz.func21, Tryz.ntmps21
    unfold optI
    go_wp2_with fail
    go_ret
    exact ⟨_, rfl, (by have := HO'.out; rw [hV.out, sliced0] at this; exact this), rfl⟩
  · simp only [stOf, enOf, Bool.false_eq_true, if_false, if_true] at hst hen
    obtain rfl : st = 0 := by omega
    have hd : clampI e 0 n = en := hen.symm
    clear hst hen hsl hsl2
    go_enter Tryz.func21, Tryz.ntmps21
    unfold optI
    go_wp2_with (first | (go_at_call 26; refine (toIntCeil_int e _).mono ?_; rintro r w2 ⟨rfl, rfl⟩) | (go_at_call 25; refine (clamp_any _ _ _ _ (by omega) (by omega) (by omega)).mono ?_; rintro r w3 ⟨rfl, rfl⟩))
    go_ret
    exact ⟨_, rfl, (by have := HO'.out; rw [hV.out, sliced0] at this; exact this), rfl⟩
  · simp only [stOf, enOf, Bool.false_eq_true, if_false, if_true] at hst hen
    obtain rfl : en = n := by omega
    have hc : clampI s 0 en = st := hst.symm
    clear hst hen
    go_enter Tryz.func21, Tryz.ntmps21
    unfold optI
    go_wp2_with (first | (go_at_call 24; refine (toInt_int s _).mono ?_; rintro r w2 ⟨rfl, rfl⟩) | (go_at_call 25; refine (clamp_any _ _ _ _ (by omega) (by omega) (by omega)).mono ?_; rintro r w3 ⟨rfl, rfl⟩))
    go_ret
    exact ⟨V, rfl, HO'.out, rfl⟩
  · simp only [stOf, enOf, if_true] at hst hen
    have hc : clampI s 0 n = st := hst.symm
    have hd : clampI e st n = en := hen.symm
    clear hst hen
    go_enter Tryz.func21, Tryz.ntmps21
    unfold optI
    go_wp2_with (first | (go_at_call 24; refine (toInt_int s _).mono ?_; rintro r w2 ⟨rfl, rfl⟩) | (go_at_call 26; refine (toIntCeil_int e _).mono ?_; rintro r w2 ⟨rfl, rfl⟩) | (go_at_call 25; refine (clamp_any _ _ _ _ (by omega) (by omega) (by omega)).mono ?_; rintro r w3 ⟨rfl, rfl⟩))
    go_ret
    exact ⟨V, rfl, HO'.out, rfl⟩
end Go.Proofs.YtdieahcigcdnpaaGreatDoor
