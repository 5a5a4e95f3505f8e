/- The walks of the law's own calendar. -/
import Derived.Test.YtiomakknhaiikaaW9
namespace Go.Proofs.Ytiomakknhaiikaa
open Go.RowKit
set_option linter.unusedVariables false

theorem tmod_neg {n k : Int} (h : n ≤ 0) : n.tmod k = -((-n) % k) := by
  have := Int.neg_tmod (-n) k
  rw [Int.neg_neg] at this
  rw [this, Int.tmod_eq_emod_of_nonneg (by omega)]

theorem zfdiv86400_pos (a : Int) (w : World) (h0 : 0 ≤ a) (h1 : a ≤ 10000000000000) :
    Calls Try.prog 14 #[.int .i64 a, .int .i64 86400] w fun r w' => r = .returned (.int .i64 (a / 86400)) ∧ w = w' := by
  have t0 : decide (a < 0) = false := by simp; omega
  by_cases c : a % 86400 = 0
  · have t1 : (a % 86400 != 0) = false := by simp; omega
    have C := Lib.hid c
    clear c
    go_enter Try.func14, Try.ntmps14
    go_wp2
    go_ret
    exact ⟨rfl, rfl⟩
  · have t1 : (a % 86400 != 0) = true := by simp; omega
    have C := Lib.hid c
    clear c
    go_enter Try.func14, Try.ntmps14
    go_wp2
    go_ret
    exact ⟨rfl, rfl⟩

theorem zfdiv86400_neg (a d m : Int) (w : World) (h0 : a < 0) (h1 : -10000000000000 ≤ a) (hd : a.tdiv 86400 = d) (hm : a.tmod 86400 = m) (d0 : -10000000000000 ≤ d) (d1 : d ≤ 0) (hm0 : m = 0) :
    Calls Try.prog 14 #[.int .i64 a, .int .i64 86400] w fun r w' => r = .returned (.int .i64 d) ∧ w = w' := by
  subst hm0
  go_enter Try.func14, Try.ntmps14
  go_wp2
  go_ret
  exact ⟨rfl, rfl⟩

theorem zfdiv86400_neg' (a d m : Int) (w : World) (h0 : a < 0) (h1 : -10000000000000 ≤ a) (hd : a.tdiv 86400 = d) (hm : a.tmod 86400 = m) (d0 : -10000000000000 ≤ d) (d1 : d ≤ 0) (hm0 : ¬ m = 0) :
    Calls Try.prog 14 #[.int .i64 a, .int .i64 86400] w fun r w' => r = .returned (.int .i64 (d - 1)) ∧ w = w' := by
  have t0 : decide (a < 0) = true := by simp; omega
  have t1 : (m != 0) = true := by simp; omega
  have C := Lib.hid hm0
  clear hm0
  go_enter Try.func14, Try.ntmps14
  go_wp2
  go_ret
  exact ⟨rfl, rfl⟩

theorem zfdiv86400_any (a : Int) (w : World) (h0 : -10000000000000 ≤ a) (h1 : a ≤ 10000000000000) :
    Calls Try.prog 14 #[.int .i64 a, .int .i64 86400] w fun r w' => r = .returned (.int .i64 (a / 86400)) ∧ w = w' := by
  by_cases c : 0 ≤ a
  · exact zfdiv86400_pos a w c h1
  · have e1 := tdiv_neg (n := a) (k := 86400) (by omega)
    have e2 := tmod_neg (n := a) (k := 86400) (by omega)
    by_cases c0 : (-a) % 86400 = 0
    · have := zfdiv86400_neg a _ _ w (by omega) h0 e1 e2 (by omega) (by omega) (by omega)
      rw [show -((-a) / 86400) = a / 86400 by omega] at this
      exact this
    · have := zfdiv86400_neg' a _ _ w (by omega) h0 e1 e2 (by omega) (by omega) (by omega)
      rw [show -((-a) / 86400) - 1 = a / 86400 by omega] at this
      exact this

theorem zfdiv7_pos (a : Int) (w : World) (h0 : 0 ≤ a) (h1 : a ≤ 10000000000000) :
    Calls Try.prog 14 #[.int .i64 a, .int .i64 7] w fun r w' => r = .returned (.int .i64 (a / 7)) ∧ w = w' := by
  have t0 : decide (a < 0) = false := by simp; omega
  by_cases c : a % 7 = 0
  · have t1 : (a % 7 != 0) = false := by simp; omega
    have C := Lib.hid c
    clear c
    go_enter Try.func14, Try.ntmps14
    go_wp2
    go_ret
    exact ⟨rfl, rfl⟩
  · have t1 : (a % 7 != 0) = true := by simp; omega
    have C := Lib.hid c
    clear c
    go_enter Try.func14, Try.ntmps14
    go_wp2
    go_ret
    exact ⟨rfl, rfl⟩

theorem zfdiv7_neg (a d m : Int) (w : World) (h0 : a < 0) (h1 : -10000000000000 ≤ a) (hd : a.tdiv 7 = d) (hm : a.tmod 7 = m) (d0 : -10000000000000 ≤ d) (d1 : d ≤ 0) (hm0 : m = 0) :
    Calls Try.prog 14 #[.int .i64 a, .int .i64 7] w fun r w' => r = .returned (.int .i64 d) ∧ w = w' := by
  subst hm0
  go_enter Try.func14, Try.ntmps14
  go_wp2
  go_ret
  exact ⟨rfl, rfl⟩

theorem zfdiv7_neg' (a d m : Int) (w : World) (h0 : a < 0) (h1 : -10000000000000 ≤ a) (hd : a.tdiv 7 = d) (hm : a.tmod 7 = m) (d0 : -10000000000000 ≤ d) (d1 : d ≤ 0) (hm0 : ¬ m = 0) :
    Calls Try.prog 14 #[.int .i64 a, .int .i64 7] w fun r w' => r = .returned (.int .i64 (d - 1)) ∧ w = w' := by
  have t0 : decide (a < 0) = true := by simp; omega
  have t1 : (m != 0) = true := by simp; omega
  have C := Lib.hid hm0
  clear hm0
  go_enter Try.func14, Try.ntmps14
  go_wp2
  go_ret
  exact ⟨rfl, rfl⟩

theorem zfdiv7_any (a : Int) (w : World) (h0 : -10000000000000 ≤ a) (h1 : a ≤ 10000000000000) :
    Calls Try.prog 14 #[.int .i64 a, .int .i64 7] w fun r w' => r = .returned (.int .i64 (a / 7)) ∧ w = w' := by
  by_cases c : 0 ≤ a
  · exact zfdiv7_pos a w c h1
  · have e1 := tdiv_neg (n := a) (k := 7) (by omega)
    have e2 := tmod_neg (n := a) (k := 7) (by omega)
    by_cases c0 : (-a) % 7 = 0
    · have := zfdiv7_neg a _ _ w (by omega) h0 e1 e2 (by omega) (by omega) (by omega)
      rw [show -((-a) / 7) = a / 7 by omega] at this
      exact this
    · have := zfdiv7_neg' a _ _ w (by omega) h0 e1 e2 (by omega) (by omega) (by omega)
      rw [show -((-a) / 7) - 1 = a / 7 by omega] at this
      exact this

theorem zfmod7_any (a : Int) (w : World) (h0 : -10000000000000 ≤ a) (h1 : a ≤ 10000000000000) :
    Calls Try.prog 16 #[.int .i64 a, .int .i64 7] w fun r w' => r = .returned (.int .i64 (a % 7)) ∧ w = w' := by
  have e := Lib.hid (show a - a / 7 * 7 = a % 7 by omega)
  go_enter Try.func16, Try.ntmps16
  go_wp2_with (go_at_call 14; refine (zfdiv7_any a _ h0 h1).mono ?_; rintro x w2 ⟨rfl, rfl⟩)
  go_ret
  exact ⟨by rw [← e.out]; rfl, rfl⟩

theorem civil_pos_early (z E e y d p : Int) (w : World) (hz : 0 ≤ z + 719468) (b0 : -100000000 ≤ z) (b1 : z ≤ 100000000) (hE : (z + 719468) / 146097 = E) (E0 : -10000 ≤ E) (E1 : E ≤ 10000)
    (he : z + 719468 - E * 146097 = e) (e0 : 0 ≤ e) (e1 : e ≤ 146096) (hy : (e - e / 1460 + e / 36524 - e / 146096) / 365 = y) (y0 : 0 ≤ y) (y1 : y ≤ 399)
    (hd : e - (365 * y + y / 4 - y / 100) = d) (d0 : 0 ≤ d) (d1 : d ≤ 366) (hp : (5 * d + 2) / 153 = p) (p0 : 0 ≤ p) (p1 : p ≤ 11) (hh : p < 10) :
    Calls Try.prog 15 #[.int .i64 z] w fun r w' => r = .returned (.tuple #[.int .i64 (y + E * 400), .int .i64 (p + 3), .int .i64 (d - (153 * p + 2) / 5 + 1)]) ∧ w = w' := by
  have t0 : decide (z + 719468 ≥ 0) = true := by simp; omega
  have t1 : decide (p < 10) = true := by simp; omega
  have t2 : decide (p + 3 ≤ 2) = false := by simp; omega
  go_enter Try.func15, Try.ntmps15
  go_wp2
  go_ret3
  exact ⟨rfl, rfl⟩

theorem civil_pos_late (z E e y d p : Int) (w : World) (hz : 0 ≤ z + 719468) (b0 : -100000000 ≤ z) (b1 : z ≤ 100000000) (hE : (z + 719468) / 146097 = E) (E0 : -10000 ≤ E) (E1 : E ≤ 10000)
    (he : z + 719468 - E * 146097 = e) (e0 : 0 ≤ e) (e1 : e ≤ 146096) (hy : (e - e / 1460 + e / 36524 - e / 146096) / 365 = y) (y0 : 0 ≤ y) (y1 : y ≤ 399)
    (hd : e - (365 * y + y / 4 - y / 100) = d) (d0 : 0 ≤ d) (d1 : d ≤ 366) (hp : (5 * d + 2) / 153 = p) (p0 : 0 ≤ p) (p1 : p ≤ 11) (hh : 10 ≤ p) :
    Calls Try.prog 15 #[.int .i64 z] w fun r w' => r = .returned (.tuple #[.int .i64 (y + E * 400 + 1), .int .i64 (p - 9), .int .i64 (d - (153 * p + 2) / 5 + 1)]) ∧ w = w' := by
  have t0 : decide (z + 719468 ≥ 0) = true := by simp; omega
  have t1 : decide (p < 10) = false := by simp; omega
  have t2 : decide (p - 9 ≤ 2) = true := by simp; omega
  go_enter Try.func15, Try.ntmps15
  go_wp2
  go_ret3
  exact ⟨rfl, rfl⟩

theorem civil_neg_early (z E e y d p : Int) (w : World) (hz : z + 719468 < 0) (b0 : -100000000 ≤ z) (b1 : z ≤ 100000000) (hE : (z + 719468 - 146096).tdiv 146097 = E) (E0 : -10000 ≤ E) (E1 : E ≤ 10000)
    (he : z + 719468 - E * 146097 = e) (e0 : 0 ≤ e) (e1 : e ≤ 146096) (hy : (e - e / 1460 + e / 36524 - e / 146096) / 365 = y) (y0 : 0 ≤ y) (y1 : y ≤ 399)
    (hd : e - (365 * y + y / 4 - y / 100) = d) (d0 : 0 ≤ d) (d1 : d ≤ 366) (hp : (5 * d + 2) / 153 = p) (p0 : 0 ≤ p) (p1 : p ≤ 11) (hh : p < 10) :
    Calls Try.prog 15 #[.int .i64 z] w fun r w' => r = .returned (.tuple #[.int .i64 (y + E * 400), .int .i64 (p + 3), .int .i64 (d - (153 * p + 2) / 5 + 1)]) ∧ w = w' := by
  have t0 : decide (z + 719468 ≥ 0) = false := by simp; omega
  have t1 : decide (p < 10) = true := by simp; omega
  have t2 : decide (p + 3 ≤ 2) = false := by simp; omega
  go_enter Try.func15, Try.ntmps15
  go_wp2
  go_ret3
  exact ⟨rfl, rfl⟩

theorem civil_neg_late (z E e y d p : Int) (w : World) (hz : z + 719468 < 0) (b0 : -100000000 ≤ z) (b1 : z ≤ 100000000) (hE : (z + 719468 - 146096).tdiv 146097 = E) (E0 : -10000 ≤ E) (E1 : E ≤ 10000)
    (he : z + 719468 - E * 146097 = e) (e0 : 0 ≤ e) (e1 : e ≤ 146096) (hy : (e - e / 1460 + e / 36524 - e / 146096) / 365 = y) (y0 : 0 ≤ y) (y1 : y ≤ 399)
    (hd : e - (365 * y + y / 4 - y / 100) = d) (d0 : 0 ≤ d) (d1 : d ≤ 366) (hp : (5 * d + 2) / 153 = p) (p0 : 0 ≤ p) (p1 : p ≤ 11) (hh : 10 ≤ p) :
    Calls Try.prog 15 #[.int .i64 z] w fun r w' => r = .returned (.tuple #[.int .i64 (y + E * 400 + 1), .int .i64 (p - 9), .int .i64 (d - (153 * p + 2) / 5 + 1)]) ∧ w = w' := by
  have t0 : decide (z + 719468 ≥ 0) = false := by simp; omega
  have t1 : decide (p < 10) = false := by simp; omega
  have t2 : decide (p - 9 ≤ 2) = true := by simp; omega
  go_enter Try.func15, Try.ntmps15
  go_wp2
  go_ret3
  exact ⟨rfl, rfl⟩

theorem civil_any (z : Int) (w : World) (b0 : -100000000 ≤ z) (b1 : z ≤ 100000000) :
    Calls Try.prog 15 #[.int .i64 z] w fun r w' => r = .returned (.tuple #[.int .i64 (Cal.yy (z + 719468)), .int .i64 (Cal.mm (z + 719468)), .int .i64 (Cal.dd (z + 719468))]) ∧ w = w' := by
  obtain ⟨c, g, y, a, hc0, hc3, hg0, hg1, hy0, hy1, ha0, ha1, he, hg, hc, hy, ha, hyo, hdo⟩ := Cal.core (z + 719468)
  have f1 : z + 719468 - (z + 719468) / 146097 * 146097 = Cal.me (z + 719468) := by unfold Cal.me; omega
  have f2 : (Cal.me (z + 719468) - Cal.me (z + 719468) / 1460 + Cal.me (z + 719468) / 36524 - Cal.me (z + 719468) / 146096) / 365 = Cal.yoe (z + 719468) := rfl
  have f3 : Cal.me (z + 719468) - (365 * Cal.yoe (z + 719468) + Cal.yoe (z + 719468) / 4 - Cal.yoe (z + 719468) / 100) = Cal.doy (z + 719468) := rfl
  have f4 : (5 * Cal.doy (z + 719468) + 2) / 153 = Cal.mp (z + 719468) := rfl
  have g1 : 0 ≤ Cal.me (z + 719468) ∧ Cal.me (z + 719468) ≤ 146096 := by unfold Cal.me; omega
  have g2 : 0 ≤ Cal.yoe (z + 719468) ∧ Cal.yoe (z + 719468) ≤ 399 := by rw [hyo]; omega
  have g3 : 0 ≤ Cal.doy (z + 719468) ∧ Cal.doy (z + 719468) ≤ 366 := by rw [hdo]; omega
  have g4 : 0 ≤ Cal.mp (z + 719468) ∧ Cal.mp (z + 719468) ≤ 11 := by unfold Cal.mp; rw [hdo]; omega
  have g5 : -10000 ≤ (z + 719468) / 146097 ∧ (z + 719468) / 146097 ≤ 10000 := by omega
  have hs : ¬ 0 ≤ z + 719468 → (z + 719468 - 146096).tdiv 146097 = (z + 719468) / 146097 := fun h => by
    rw [tdiv_neg (by omega)]; omega
  by_cases hp : Cal.mp (z + 719468) < 10
  · have e1 : Cal.yy (z + 719468) = Cal.yoe (z + 719468) + (z + 719468) / 146097 * 400 := by
      unfold Cal.yy Cal.mm; rw [if_pos hp, if_neg (by omega)]; omega
    have e2 : Cal.mm (z + 719468) = Cal.mp (z + 719468) + 3 := by unfold Cal.mm; rw [if_pos hp]
    rw [e1, e2]
    by_cases h : 0 ≤ z + 719468
    · exact civil_pos_early z _ _ _ _ _ w h b0 b1 rfl g5.1 g5.2 f1 g1.1 g1.2 f2 g2.1 g2.2 f3 g3.1 g3.2 f4 g4.1 g4.2 hp
    · exact civil_neg_early z _ _ _ _ _ w (by omega) b0 b1 (hs h) g5.1 g5.2 f1 g1.1 g1.2 f2 g2.1 g2.2 f3 g3.1 g3.2 f4 g4.1 g4.2 hp
  · have e1 : Cal.yy (z + 719468) = Cal.yoe (z + 719468) + (z + 719468) / 146097 * 400 + 1 := by
      unfold Cal.yy Cal.mm; rw [if_neg hp, if_pos (by omega)]
    have e2 : Cal.mm (z + 719468) = Cal.mp (z + 719468) - 9 := by unfold Cal.mm; rw [if_neg hp]
    rw [e1, e2]
    by_cases h : 0 ≤ z + 719468
    · exact civil_pos_late z _ _ _ _ _ w h b0 b1 rfl g5.1 g5.2 f1 g1.1 g1.2 f2 g2.1 g2.2 f3 g3.1 g3.2 f4 g4.1 g4.2 (by omega)
    · exact civil_neg_late z _ _ _ _ _ w (by omega) b0 b1 (hs h) g5.1 g5.2 f1 g1.1 g1.2 f2 g2.1 g2.2 f3 g3.1 g3.2 f4 g4.1 g4.2 (by omega)

theorem jan1_pos (y E e : Int) (w : World) (hz : 0 ≤ y - 1) (b0 : -100000000 ≤ y) (b1 : y ≤ 100000000) (hE : (y - 1) / 400 = E) (E0 : -1000000 ≤ E) (E1 : E ≤ 1000000)
    (he : y - 1 - E * 400 = e) (e0 : 0 ≤ e) (e1 : e ≤ 399) :
    Calls Try.prog 17 #[.int .i64 y, .int .i64 1, .int .i64 1] w fun r w' => r = .returned (.int .i64 (E * 146097 + (e * 365 + e / 4 - e / 100 + 306) - 719468)) ∧ w = w' := by
  have t0 : decide (y - 1 ≥ 0) = true := by simp; omega
  go_enter Try.func17, Try.ntmps17
  go_wp2
  go_ret
  exact ⟨rfl, rfl⟩

theorem jan1_neg (y E e : Int) (w : World) (hz : y - 1 < 0) (b0 : -100000000 ≤ y) (b1 : y ≤ 100000000) (hE : (y - 1 - 399).tdiv 400 = E) (E0 : -1000000 ≤ E) (E1 : E ≤ 1000000)
    (he : y - 1 - E * 400 = e) (e0 : 0 ≤ e) (e1 : e ≤ 399) :
    Calls Try.prog 17 #[.int .i64 y, .int .i64 1, .int .i64 1] w fun r w' => r = .returned (.int .i64 (E * 146097 + (e * 365 + e / 4 - e / 100 + 306) - 719468)) ∧ w = w' := by
  have t0 : decide (y - 1 ≥ 0) = false := by simp; omega
  go_enter Try.func17, Try.ntmps17
  go_wp2
  go_ret
  exact ⟨rfl, rfl⟩

theorem jan1_any (y : Int) (w : World) (b0 : -100000000 ≤ y) (b1 : y ≤ 100000000) :
    Calls Try.prog 17 #[.int .i64 y, .int .i64 1, .int .i64 1] w fun r w' => r = .returned (.int .i64 (Cal.jan1 y)) ∧ w = w' := by
  by_cases h : 0 ≤ y - 1
  · exact jan1_pos y _ _ w h b0 b1 rfl (by omega) (by omega) rfl (by omega) (by omega)
  · exact jan1_neg y ((y - 1) / 400) _ w (by omega) b0 b1 (by rw [tdiv_neg (by omega)]; omega) (by omega) (by omega) rfl (by omega) (by omega)

theorem eff_a (s k : Int) (w : World) (h : s < 0) (hk : 0 < k) (b0 : -2000000000000 ≤ s) :
    Calls Try.prog 7 #[.int .i64 s, .int .i64 k] w fun r w' => r = .returned (.int .i64 (s + 1)) ∧ w = w' := by
  have t0 : decide (s < 0) = true := by simp; omega
  have t1 : decide (k > 0) = true := by simp; omega
  go_enter Try.func7, Try.ntmps7
  go_wp2
  go_ret
  exact ⟨rfl, rfl⟩

theorem eff_b (s k : Int) (w : World) (h : s < 0) (hk : ¬ 0 < k) :
    Calls Try.prog 7 #[.int .i64 s, .int .i64 k] w fun r w' => r = .returned (.int .i64 s) ∧ w = w' := by
  have t0 : decide (s < 0) = true := by simp; omega
  have t1 : decide (k > 0) = false := by simp; omega
  go_enter Try.func7, Try.ntmps7
  go_wp2
  go_ret
  exact ⟨rfl, rfl⟩

theorem eff_c (s k : Int) (w : World) (h : ¬ s < 0) :
    Calls Try.prog 7 #[.int .i64 s, .int .i64 k] w fun r w' => r = .returned (.int .i64 s) ∧ w = w' := by
  have t0 : decide (s < 0) = false := by simp; omega
  go_enter Try.func7, Try.ntmps7
  go_wp2
  go_ret
  exact ⟨rfl, rfl⟩

/-- the second that the instant lands on -/
def effOf (s k : Int) : Int := if s < 0 ∧ 0 < k then s + 1 else s

theorem eff_any (s k : Int) (w : World) (b0 : -2000000000000 ≤ s) :
    Calls Try.prog 7 #[.int .i64 s, .int .i64 k] w fun r w' => r = .returned (.int .i64 (effOf s k)) ∧ w = w' := by
  unfold effOf
  by_cases h : s < 0
  · by_cases hk : 0 < k
    · rw [if_pos ⟨h, hk⟩]; exact eff_a s k w h hk b0
    · rw [if_neg (fun x => hk x.2)]; exact eff_b s k w h hk
  · rw [if_neg (fun x => h x.1)]; exact eff_c s k w h

theorem yy_bd (z : Int) (b0 : -100000000 ≤ z) (b1 : z ≤ 100000000) : -1000000 ≤ Cal.yy z ∧ Cal.yy z ≤ 1000000 := by
  obtain ⟨c, g, y, a, hc0, hc3, hg0, hg1, hy0, hy1, ha0, ha1, he, hg, hc, hy, ha, hyo, hdo⟩ := Cal.core z
  unfold Cal.yy; rw [hyo]; split <;> omega
theorem mm_bd (z : Int) : 1 ≤ Cal.mm z ∧ Cal.mm z ≤ 12 := by
  obtain ⟨c, g, y, a, hc0, hc3, hg0, hg1, hy0, hy1, ha0, ha1, he, hg, hc, hy, ha, hyo, hdo⟩ := Cal.core z
  unfold Cal.mm Cal.mp; rw [hdo]; split <;> omega

def zday (u : Int) : Int := u / 86400

theorem fields_any (u : Int) (w : World) (h0 : -2000000000000 ≤ u) (h1 : u ≤ 2000000000000) :
    Calls Try.prog 9 #[.int .i64 u] w fun r w' => r = .returned (.tuple #[.int .i64 (Cal.yy (zday u + 719468)), .int .i64 (Cal.mm (zday u + 719468) - 1), .int .i64 (Cal.dd (zday u + 719468)),
      .int .i64 ((u - zday u * 86400) / 3600), .int .i64 ((u - zday u * 86400) % 3600 / 60), .int .i64 ((u - zday u * 86400) % 60), .int .i64 ((zday u + 4) % 7), .int .i64 (zday u - Cal.jan1 (Cal.yy (zday u + 719468)))]) ∧ w = w' := by
  have z0 : -100000000 ≤ zday u + 719468 ∧ zday u + 719468 ≤ 100000000 := by unfold zday; omega
  have z1 : -50000000 ≤ zday u ∧ zday u ≤ 50000000 := by unfold zday; omega
  have r0 : 0 ≤ u - zday u * 86400 := by unfold zday; omega
  have r1 : u - zday u * 86400 < 86400 := by unfold zday; omega
  have y0 := yy_bd _ z0.1 z0.2
  have m0 := mm_bd (zday u + 719468)
  have j0 : -1000000000000 ≤ Cal.jan1 (Cal.yy (zday u + 719468)) ∧ Cal.jan1 (Cal.yy (zday u + 719468)) ≤ 1000000000000 := by unfold Cal.jan1; omega
  have hd : ∀ w : World, Calls Try.prog 14 #[.int .i64 u, .int .i64 86400] w fun r w' => r = .returned (.int .i64 (zday u)) ∧ w = w' := fun w => zfdiv86400_any u w (by omega) (by omega)
  have HD := Lib.hid hd
  clear hd
  go_enter Try.func9, Try.ntmps9
  go_wp2_with (first
    | (go_at_call 14; refine (HD.out _).mono ?_; rintro x w2 ⟨rfl, rfl⟩)
    | (go_at_call 15; refine (civil_any (zday u) _ (by omega) (by omega)).mono ?_; rintro x w2 ⟨rfl, rfl⟩)
    | (go_at_call 16; refine (zfmod7_any (zday u + 4) _ (by omega) (by omega)).mono ?_; rintro x w2 ⟨rfl, rfl⟩)
    | (go_at_call 17; refine (jan1_any (Cal.yy (zday u + 719468)) _ (by omega) (by omega)).mono ?_; rintro x w2 ⟨rfl, rfl⟩))
  exact bodyPost_ret (v := .tuple #[.int .i64 (Cal.yy (zday u + 719468)), .int .i64 (Cal.mm (zday u + 719468) - 1), .int .i64 (Cal.dd (zday u + 719468)),
      .int .i64 ((u - zday u * 86400) / 3600), .int .i64 ((u - zday u * 86400) % 3600 / 60), .int .i64 ((u - zday u * 86400) % 60), .int .i64 ((zday u + 4) % 7), .int .i64 (zday u - Cal.jan1 (Cal.yy (zday u + 719468)))]) (by simp [results, Try.results9, go_sem]) rfl ⟨rfl, rfl⟩
end Go.Proofs.Ytiomakknhaiikaa
