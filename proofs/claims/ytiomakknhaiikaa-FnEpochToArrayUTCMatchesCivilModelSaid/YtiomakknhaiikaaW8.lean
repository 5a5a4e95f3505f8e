/- The walks of epochToArray at UTC and of what it calls. -/
import Derived.Test.YtiomakknhaiikaaRows
import Derived.WalkKit
import Derived.ProofKit
import Derived.OpenShut
import Derived.WalkSpells
import Derived.WalkLawsBesides
import Derived.Outline
import Derived.Lib.Hide
import Derived.Deep.RegionHeld3
import Derived.Deep.QuietTactic
import Derived.BigQuiet
import Derived.Laws.FloatArith
import Derived.Laws.Externs
import Derived.Test.YtiomakknhaiikaaCom
import Derived.Test.YtiomakknhaiikaaW1
import Derived.Test.YtiomakknhaiikaaCal
namespace Go.Proofs.Ytiomakknhaiikaa
open Go.RowKit
set_option linter.unusedVariables false

theorem ret_int {k : IntKind} {a b : Int} (h : a = b) : Ending.returned (.int k a) = .returned (.int k b) := by rw [h]

theorem ret_int3 {k l m : IntKind} {a b c a' b' c' : Int} (h1 : a = a') (h2 : b = b') (h3 : c = c') : Ending.returned (.tuple #[.int k a, .int l b, .int m c]) = .returned (.tuple #[.int k a', .int l b', .int m c']) := by rw [h1, h2, h3]
theorem ret_int2 {k l : IntKind} {a b a' b' : Int} (h1 : a = a') (h2 : b = b') : Ending.returned (.tuple #[.int k a, .int l b]) = .returned (.tuple #[.int k a', .int l b']) := by rw [h1, h2]
theorem day_yearI (g : Int) (h0 : 0 ≤ g) (h1 : g < 36525) : 2939745 * (4 * g + 3) / 4294967296 = (4 * g + 3) / 1461 ∧ 2939745 * (4 * g + 3) % 4294967296 / 2939745 / 4 = (4 * g + 3) % 1461 / 4 := by
  obtain ⟨n, rfl⟩ := Int.eq_ofNat_of_zero_le h0
  have h := Cal.day_year n (by omega)
  obtain ⟨A, hA⟩ : ∃ A : Nat, 2939745 * (4 * n + 3) = A := ⟨_, rfl⟩
  obtain ⟨B, hB⟩ : ∃ B : Nat, 4 * n + 3 = B := ⟨_, rfl⟩
  rw [hA, hB] at h
  have eA : 2939745 * (4 * (n : Int) + 3) = A := by omega
  have eB : 4 * (n : Int) + 3 = B := by omega
  rw [eA, eB]
  clear eA eB hA hB h0 h1
  omega

theorem utc_any (w : World) : Calls Try.prog 13 #[] w fun e w' => e = .returned (.pointer (some ⟨w.heap.size, 0, none⟩)) ∧ Below w.heap.size w w' ∧
    w'.cell? ⟨w.heap.size, 0, none⟩ = some (.bool true) ∧ w.heap.size < w'.heap.size := by
  go_enter Try.func13, Try.ntmps13
  go_wp2
  go_ret
  exact ⟨rfl, (Below.refl _ _).alloc (Nat.le_refl _) _, by go_simp, by simp⟩

theorem get_nil (w : World) : Calls Try.prog 50 #[.pointer none] w fun e w' => e = .returned (.pointer (some ⟨w.heap.size, 0, none⟩)) ∧ Below w.heap.size w w' ∧
    w'.cell? ⟨w.heap.size, 0, none⟩ = some (.bool true) ∧ w.heap.size < w'.heap.size := by
  go_enter Try.func50, Try.ntmps50
  go_wp2_with (go_at_call 13; refine (utc_any _).mono ?_; rintro x w1 ⟨rfl, hb, hc, hs⟩)
  go_ret
  exact ⟨rfl, hb, hc, hs⟩

/-- the seconds from the absolute zero, as Go counts them -/
def absOf (u : Int) : Int := u + 9223372028741760000

theorem absSec_any (n e : Int) (w : World) (h0 : 0 ≤ n) (h1 : n < 1000000000) (b0 : -2000000000000 ≤ e - 62135596800) (b1 : e - 62135596800 ≤ 2000000000000) :
    Calls Try.prog 36 #[.agg #[.int .u64 n, .int .i64 e, .pointer none]] w fun r w' => r = .returned (.int .u64 (absOf (e - 62135596800))) ∧ Below w.heap.size w w' := by
  have q0 : -9000000000000000000 ≤ e := by omega
  have q1 : e ≤ 9000000000000000000 := by omega
  go_enter Try.func36, Try.ntmps36
  go_wp2_with (first | (go_at_call 50; refine (get_nil _).mono ?_; rintro x w1 ⟨rfl, hb, hc, hs⟩; obtain ⟨hcc, hff⟩ := bcell hb; simp at hc hs) | (go_at_call 31; refine (unixSec_any n e w.heap.size _ h0 h1 q0 q1 (by go_simp) (by go_simp)).mono ?_; rintro x w2 ⟨rfl, rfl⟩))
  go_ret
  refine ⟨ret_int ?_, ?_⟩
  · unfold absOf wrap64
    rw [IntKind.wrap_u64]
    omega
  · exact ((Below.refl _ _).alloc (Nat.le_refl _) _).trans (hb.mono (by simp))

theorem days_any (a : Int) (w : World) (h0 : 0 ≤ a) (h1 : a < 18446744073709551616) :
    Calls Try.prog 37 #[.int .u64 a] w fun r w' => r = .returned (.int .u64 (a / 86400)) ∧ w = w' := by
  go_enter Try.func37, Try.ntmps37
  go_wp2
  go_ret
  exact ⟨rfl, rfl⟩

theorem mul32_any (x : Int) (w : World) (h0 : 0 ≤ x) (h1 : x < 4294967296) :
    Calls Try.prog 52 #[.int .u32 2939745, .int .u32 x] w fun r w' => r = .returned (.tuple #[.int .u32 (2939745 * x / 4294967296), .int .u32 (2939745 * x % 4294967296)]) ∧ w = w' := by
  go_enter Try.func52, Try.ntmps52
  go_wp2
  go_ret2
  exact ⟨rfl, rfl⟩

theorem or3 (x : Int) (h0 : 0 ≤ x) (h1 : x < 146097) : bits BinOp.or IntKind.u32 x 3 = 4 * (x / 4) + 3 := by
  obtain ⟨n, rfl⟩ := Int.eq_ofNat_of_zero_le h0
  rw [show (3 : Int) = ((3 : Nat) : Int) from rfl, u32_or_nat n 3 (by omega) (by omega)]
  have e : n ||| 3 = 4 * (n / 4) + 3 := by
    have h : n = 4 * (n / 4) ||| n % 4 := by
      rw [nat_join 2 (4 * (n / 4)) (n % 4) (by omega) (by omega)]; omega
    have hm : n % 4 ||| 3 = 3 := by
      have : n % 4 = 0 ∨ n % 4 = 1 ∨ n % 4 = 2 ∨ n % 4 = 3 := by omega
      rcases this with h | h | h | h <;> rw [h] <;> rfl
    conv => lhs; rw [h, Nat.or_assoc, hm]
    exact nat_join 2 _ _ (by omega) (by omega)
  rw [e]; omega

theorem split_any (d : Int) (w : World) (h0 : 0 ≤ d) (h1 : d < 4000000000000000000) :
    Calls Try.prog 38 #[.int .u64 d] w fun r w' => r = .returned (.tuple #[.int .u64 (Cal.gc d), .int .i64 (Cal.gy d), .int .i64 (Cal.ga d)]) ∧ w = w' := by
  have ho := or3 ((4 * d + 3) % 146097) (by omega) (by omega)
  have b1 : 0 ≤ (4 * d + 3) % 146097 / 4 := by omega
  have b2 : (4 * d + 3) % 146097 / 4 < 36525 := by omega
  go_enter Try.func38, Try.ntmps38
  go_wp2_with (go_at_call 52; refine (mul32_any (4 * ((4 * d + 3) % 146097 / 4) + 3) _ (by omega) (by omega)).mono ?_; rintro x w2 ⟨rfl, rfl⟩)
  go_ret3
  have e1 : 2939745 * (4 * ((4 * d + 3) % 146097 / 4) + 3) / 4294967296 = Cal.gy d := (day_yearI _ b1 b2).1
  have e2 : 2939745 * (4 * ((4 * d + 3) % 146097 / 4) + 3) % 4294967296 / 2939745 / 4 = Cal.ga d := (day_yearI _ b1 b2).2
  exact ⟨by rw [← e1, ← e2]; rfl, rfl⟩

theorem janFeb_any (a : Int) (w : World) (h0 : 0 ≤ a) (h1 : a ≤ 365) :
    Calls Try.prog 39 #[.int .i64 a] w fun r w' => r = .returned (.int .i64 (Cal.jf a)) ∧ w = w' := by
  by_cases c : 306 ≤ a
  · have t : decide (a ≥ 306) = true := by simp; omega
    go_enter Try.func39, Try.ntmps39
    go_wp2
    go_ret
    exact ⟨ret_int (by unfold Cal.jf; rw [if_pos (by omega)]), rfl⟩
  · have t : decide (a ≥ 306) = false := by simp; omega
    go_enter Try.func39, Try.ntmps39
    go_wp2
    go_ret
    exact ⟨ret_int (by unfold Cal.jf; rw [if_neg (by omega)]), rfl⟩

theorem year_any (c y j : Int) (w : World) (h0 : 0 ≤ c) (h1 : c < 1000000000000) (h2 : 0 ≤ y) (h3 : y < 1000) (h4 : 0 ≤ j) (h5 : j ≤ 1) :
    Calls Try.prog 40 #[.int .u64 c, .int .i64 y, .int .i64 j] w fun r w' => r = .returned (.int .i64 (c * 100 - 292277022400 + y + j)) ∧ w = w' := by
  go_enter Try.func40, Try.ntmps40
  go_wp2
  go_ret
  refine ⟨ret_int ?_, rfl⟩
  unfold wrap64
  rw [IntKind.wrap_u64]
  omega

theorem mdsplit_any (a : Int) (w : World) (h0 : 0 ≤ a) (h1 : a ≤ 365) :
    Calls Try.prog 41 #[.int .i64 a] w fun r w' => r = .returned (.tuple #[.int .i64 (Cal.am a), .int .i64 (Cal.md a)]) ∧ w = w' := by
  have hb : bits BinOp.and IntKind.u32 (2141 * a + 197913) 65535 = (2141 * a + 197913) % 65536 := by
    obtain ⟨n, rfl⟩ := Int.eq_ofNat_of_zero_le h0
    rw [u32_and (2141 * (n : Int) + 197913) 65535 (by omega) (by omega) (by omega) (by omega)]
    rw [show (65535 : Int).toNat = 2^16 - 1 from rfl, Nat.and_two_pow_sub_one_eq_mod]
    omega
  go_enter Try.func41, Try.ntmps41
  go_wp2
  go_ret2
  exact ⟨rfl, rfl⟩

theorem month_any (m j : Int) (w : World) (h0 : 0 ≤ m) (h1 : m < 1000) (h4 : 0 ≤ j) (h5 : j ≤ 1) :
    Calls Try.prog 42 #[.int .i64 m, .int .i64 j] w fun r w' => r = .returned (.int .i64 (m - j * 12)) ∧ w = w' := by
  go_enter Try.func42, Try.ntmps42
  go_wp2
  go_ret
  exact ⟨rfl, rfl⟩

theorem weekday_any (d : Int) (w : World) (h0 : 0 ≤ d) (h1 : d < 4000000000000000000) :
    Calls Try.prog 43 #[.int .u64 d] w fun r w' => r = .returned (.int .i64 ((d + 3) % 7)) ∧ w = w' := by
  go_enter Try.func43, Try.ntmps43
  go_wp2
  go_ret
  exact ⟨rfl, rfl⟩

theorem leap_any (c y : Int) (w : World) (h0 : 0 ≤ c) (h1 : c < 1000000000000) (h2 : 0 ≤ y) (h3 : y < 1000) :
    Calls Try.prog 54 #[.int .u64 c, .int .i64 y] w fun r w' => r = .returned (.int .i64 (Cal.lp c y)) ∧ w = w' := by
  by_cases c1 : y % 4 = 0 <;> by_cases c2 : y = 0 <;> by_cases c3 : c % 4 = 0
  all_goals
    have H1 := Lib.hid c1
    have H2 := Lib.hid c2
    have H3 := Lib.hid c3
    first | (have t1 : (y % 4 == 0) = true := by simp; omega) | (have t1 : (y % 4 == 0) = false := by simp; omega)
    first | (have t2 : (y != 0) = true := by simp; omega) | (have t2 : (y != 0) = false := by simp; omega)
    first | (have t3 : (c % 4 == 0) = true := by simp; omega) | (have t3 : (c % 4 == 0) = false := by simp; omega)
    clear c1 c2 c3
    go_enter Try.func54, Try.ntmps54
    go_wp2
    go_ret
    refine ⟨ret_int ?_, rfl⟩
    have k1 := H1.out
    have k2 := H2.out
    have k3 := H3.out
    unfold Cal.lp
    first | (rw [if_pos (by omega)]; decide +kernel) | (rw [if_neg (by omega)]; decide +kernel)

def ydv (a j l : Int) : Int := a + 60 + (if j = 1 then 0 else l) - 365 * j

theorem yday_any (a j l : Int) (w : World) (h0 : 0 ≤ a) (h1 : a ≤ 365) (hj : j = 0 ∨ j = 1) (hl : l = 0 ∨ l = 1) :
    Calls Try.prog 53 #[.int .i64 a, .int .i64 j, .int .i64 l] w fun r w' => r = .returned (.int .i64 (ydv a j l)) ∧ w = w' := by
  have z00 : bits BinOp.andNot IntKind.i64 0 0 = 0 := by decide +kernel
  have z01 : bits BinOp.andNot IntKind.i64 0 1 = 0 := by decide +kernel
  have z10 : bits BinOp.andNot IntKind.i64 1 0 = 1 := by decide +kernel
  have z11 : bits BinOp.andNot IntKind.i64 1 1 = 0 := by decide +kernel
  rcases hj with rfl | rfl <;> rcases hl with rfl | rfl
  all_goals
    go_enter Try.func53, Try.ntmps53
    go_wp2
    go_ret
    refine ⟨ret_int ?_, rfl⟩
    unfold ydv
    first | rfl | (simp; omega) | omega

theorem gc_bd (d : Int) (h0 : 0 ≤ d) (h1 : d < 1000000000000000) : 0 ≤ Cal.gc d ∧ Cal.gc d < 1000000000000 := by unfold Cal.gc; omega
theorem gd_bd (d : Int) : 0 ≤ Cal.gd d ∧ Cal.gd d < 36525 := by unfold Cal.gd; omega
theorem gy_bd (d : Int) : 0 ≤ Cal.gy d ∧ Cal.gy d < 1000 := by have := gd_bd d; unfold Cal.gy; omega
theorem ga_bd (d : Int) : 0 ≤ Cal.ga d ∧ Cal.ga d ≤ 365 := by unfold Cal.ga; omega
theorem jf_bd (a : Int) : 0 ≤ Cal.jf a ∧ Cal.jf a ≤ 1 := by unfold Cal.jf; split <;> omega
theorem jf_or (a : Int) : Cal.jf a = 0 ∨ Cal.jf a = 1 := by unfold Cal.jf; split <;> simp
theorem lp_or (c y : Int) : Cal.lp c y = 0 ∨ Cal.lp c y = 1 := by unfold Cal.lp; split <;> simp
theorem am_bd (a : Int) (h0 : 0 ≤ a) (h1 : a ≤ 365) : 0 ≤ Cal.am a ∧ Cal.am a < 1000 := by unfold Cal.am; omega

theorem yearYday_any (d : Int) (w : World) (h0 : 0 ≤ d) (h1 : d < 1000000000000000) :
    Calls Try.prog 44 #[.int .u64 d] w fun r w' => r = .returned (.tuple #[.int .i64 (Cal.year d), .int .i64 (Cal.yd d)]) ∧ w = w' := by
  have b1 := gc_bd d h0 h1
  have b2 := gy_bd d
  have b3 := ga_bd d
  have b4 := jf_bd (Cal.ga d)
  have b5 := Lib.hid (jf_or (Cal.ga d))
  have b6 := Lib.hid (lp_or (Cal.gc d) (Cal.gy d))
  go_enter Try.func44, Try.ntmps44
  go_wp2_with (first
    | (go_at_call 38; refine (split_any d _ h0 (by omega)).mono ?_; rintro x w2 ⟨rfl, rfl⟩)
    | (go_at_call 39; refine (janFeb_any (Cal.ga d) _ b3.1 b3.2).mono ?_; rintro x w2 ⟨rfl, rfl⟩)
    | (go_at_call 40; refine (year_any (Cal.gc d) (Cal.gy d) (Cal.jf (Cal.ga d)) _ b1.1 b1.2 b2.1 b2.2 b4.1 b4.2).mono ?_; rintro x w2 ⟨rfl, rfl⟩)
    | (go_at_call 54; refine (leap_any (Cal.gc d) (Cal.gy d) _ b1.1 b1.2 b2.1 b2.2).mono ?_; rintro x w2 ⟨rfl, rfl⟩)
    | (go_at_call 53; refine (yday_any (Cal.ga d) (Cal.jf (Cal.ga d)) (Cal.lp (Cal.gc d) (Cal.gy d)) _ b3.1 b3.2 b5.out b6.out).mono ?_; rintro x w2 ⟨rfl, rfl⟩))
  go_ret2
  exact ⟨rfl, rfl⟩

/-- the absolute day of the second u -/
def dayOf (u : Int) : Int := absOf u / 86400
theorem absOf_bd (u : Int) (h0 : -2000000000000 ≤ u) (h1 : u ≤ 2000000000000) : 0 ≤ absOf u ∧ absOf u < 18446744073709551616 := by unfold absOf; omega
theorem dayOf_bd (u : Int) (h0 : -2000000000000 ≤ u) (h1 : u ≤ 2000000000000) : 0 ≤ dayOf u ∧ dayOf u < 1000000000000000 := by unfold dayOf absOf; omega

theorem daysOf_any (u : Int) (w : World) (h0 : -2000000000000 ≤ u) (h1 : u ≤ 2000000000000) :
    Calls Try.prog 37 #[.int .u64 (absOf u)] w fun r w' => r = .returned (.int .u64 (dayOf u)) ∧ w = w' :=
  days_any (absOf u) w (absOf_bd u h0 h1).1 (absOf_bd u h0 h1).2

theorem Year_any (n e : Int) (w : World) (h0 : 0 ≤ n) (h1 : n < 1000000000) (b0 : -2000000000000 ≤ e - 62135596800) (b1 : e - 62135596800 ≤ 2000000000000) :
    Calls Try.prog 23 #[.agg #[.int .u64 n, .int .i64 e, .pointer none]] w fun r w' => r = .returned (.int .i64 (Cal.year (dayOf (e - 62135596800)))) ∧ Below w.heap.size w w' := by
  have d0 := dayOf_bd _ b0 b1
  have d1 := gc_bd _ d0.1 d0.2
  have d2 := gy_bd (dayOf (e - 62135596800))
  have d3 := ga_bd (dayOf (e - 62135596800))
  have d4 := jf_bd (Cal.ga (dayOf (e - 62135596800)))
  go_enter Try.func23, Try.ntmps23
  go_wp2_with (first
    | (go_at_call 36; refine (absSec_any n e _ h0 h1 b0 b1).mono ?_; rintro x w1 ⟨rfl, hb⟩)
    | (go_at_call 37; refine (daysOf_any (e - 62135596800) _ b0 b1).mono ?_; rintro x w2 ⟨rfl, rfl⟩)
    | (go_at_call 38; refine (split_any (dayOf (e - 62135596800)) _ d0.1 (by omega)).mono ?_; rintro x w2 ⟨rfl, rfl⟩)
    | (go_at_call 39; refine (janFeb_any (Cal.ga (dayOf (e - 62135596800))) _ d3.1 d3.2).mono ?_; rintro x w2 ⟨rfl, rfl⟩)
    | (go_at_call 40; refine (year_any (Cal.gc (dayOf (e - 62135596800))) (Cal.gy (dayOf (e - 62135596800))) (Cal.jf (Cal.ga (dayOf (e - 62135596800)))) _ d1.1 d1.2 d2.1 d2.2 d4.1 d4.2).mono ?_; rintro x w2 ⟨rfl, rfl⟩))
  go_ret
  exact ⟨rfl, ((Below.refl _ _).alloc (Nat.le_refl _) _).trans (hb.mono (by simp))⟩
end Go.Proofs.Ytiomakknhaiikaa
