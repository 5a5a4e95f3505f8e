/- The calendar: Go's day split (Neri and Schneider) against the civil day count, over plain whole numbers. -/
import Derived.Laws.BitsAllLaws
namespace Go.Proofs.Ytiomakknhaiikaa.Cal

/-! ### checks of ranges -/
def chk (P : Nat → Bool) : Nat → Nat → Bool
  | 0, i => P i
  | k + 1, i => chk P k i && chk P k (i + 2^k)

theorem chk_all (P : Nat → Bool) : ∀ (k i : Nat), chk P k i = true → ∀ j, i ≤ j → j < i + 2^k → P j = true
  | 0, i, h, j, h1, h2 => by
    obtain rfl : j = i := by simp at h2; omega
    exact h
  | k + 1, i, h, j, h1, h2 => by
    unfold chk at h
    rw [Bool.and_eq_true] at h
    rw [Nat.pow_succ] at h2
    by_cases c : j < i + 2^k
    · exact chk_all P k i h.1 j h1 c
    · exact chk_all P k (i + 2^k) h.2 j (by omega) (by omega)

/-- one day of a century: the multiplication stands for the division by 1461 -/
def ok1 (d : Nat) : Bool := Nat.ble 36525 d || (Nat.beq (2939745 * (4 * d + 3) / 4294967296) ((4 * d + 3) / 1461) && Nat.beq (2939745 * (4 * d + 3) % 4294967296 / 2939745 / 4) ((4 * d + 3) % 1461 / 4))
/-- one day of an era: its year -/
def ok2 (e : Nat) : Bool := Nat.ble 146097 e || Nat.beq ((e - e / 1460 + e / 36524 - e / 146096) / 365) (100 * ((4 * e + 3) / 146097) + (4 * (e - 36524 * ((4 * e + 3) / 146097)) + 3) / 1461)
/-- one day of a year that begins in March: its month and its day -/
def ok3 (a : Nat) : Bool := Nat.ble 366 a || (Nat.beq ((2141 * a + 197913) / 65536) ((5 * a + 2) / 153 + 3) && Nat.beq (1 + (2141 * a + 197913) % 65536 / 2141 + (153 * ((5 * a + 2) / 153) + 2) / 5) (a + 1) && (Nat.ble 306 a == Nat.ble 10 ((5 * a + 2) / 153)))
set_option maxRecDepth 100000 in
theorem c1a : chk ok1 15 0 = true := by decide +kernel
set_option maxRecDepth 100000 in
theorem c1b : chk ok1 12 32768 = true := by decide +kernel
set_option maxRecDepth 100000 in
theorem c2a : chk ok2 17 0 = true := by decide +kernel
set_option maxRecDepth 100000 in
theorem c2b : chk ok2 14 131072 = true := by decide +kernel
set_option maxRecDepth 100000 in
theorem c3 : chk ok3 9 0 = true := by decide +kernel

theorem day_year (d : Nat) (h : d < 36525) : 2939745 * (4 * d + 3) / 4294967296 = (4 * d + 3) / 1461 ∧ 2939745 * (4 * d + 3) % 4294967296 / 2939745 / 4 = (4 * d + 3) % 1461 / 4 := by
  have : ok1 d = true := by
    by_cases c : d < 32768
    · exact chk_all ok1 15 0 c1a d (Nat.zero_le _) (by simpa using c)
    · exact chk_all ok1 12 32768 c1b d (by omega) (by simp; omega)
  unfold ok1 at this
  have hb : Nat.ble 36525 d = false := by rw [← Bool.not_eq_true, Nat.ble_eq]; omega
  rw [hb, Bool.false_or, Bool.and_eq_true, Nat.beq_eq, Nat.beq_eq] at this
  exact this

theorem era_year (e : Nat) (h : e < 146097) : (e - e / 1460 + e / 36524 - e / 146096) / 365 = 100 * ((4 * e + 3) / 146097) + (4 * (e - 36524 * ((4 * e + 3) / 146097)) + 3) / 1461 := by
  have : ok2 e = true := by
    by_cases c : e < 131072
    · exact chk_all ok2 17 0 c2a e (Nat.zero_le _) (by simpa using c)
    · exact chk_all ok2 14 131072 c2b e (by omega) (by simp; omega)
  unfold ok2 at this
  have hb : Nat.ble 146097 e = false := by rw [← Bool.not_eq_true, Nat.ble_eq]; omega
  rw [hb, Bool.false_or, Nat.beq_eq] at this
  exact this

theorem year_month (a : Nat) (h : a < 366) : (2141 * a + 197913) / 65536 = (5 * a + 2) / 153 + 3 ∧ 1 + (2141 * a + 197913) % 65536 / 2141 + (153 * ((5 * a + 2) / 153) + 2) / 5 = a + 1 ∧ (306 ≤ a ↔ 10 ≤ (5 * a + 2) / 153) := by
  have : ok3 a = true := chk_all ok3 9 0 c3 a (Nat.zero_le _) (by simp; omega)
  unfold ok3 at this
  have hb : Nat.ble 366 a = false := by rw [← Bool.not_eq_true, Nat.ble_eq]; omega
  rw [hb, Bool.false_or, Bool.and_eq_true, Bool.and_eq_true, Nat.beq_eq, Nat.beq_eq, beq_iff_eq, Bool.eq_iff_iff, Nat.ble_eq, Nat.ble_eq] at this
  exact ⟨this.1.1, this.1.2, this.2⟩

/-! ### Go's side, of the absolute day d -/
def gc (d : Int) : Int := (4 * d + 3) / 146097
def gd (d : Int) : Int := (4 * d + 3) % 146097 / 4
def gy (d : Int) : Int := (4 * gd d + 3) / 1461
def ga (d : Int) : Int := (4 * gd d + 3) % 1461 / 4
def jf (a : Int) : Int := if 306 ≤ a then 1 else 0
def year (d : Int) : Int := gc d * 100 - 292277022400 + gy d + jf (ga d)
def am (a : Int) : Int := (2141 * a + 197913) / 65536
def md (a : Int) : Int := 1 + (2141 * a + 197913) % 65536 / 2141
def lp (c y : Int) : Int := if y % 4 = 0 ∧ (y ≠ 0 ∨ c % 4 = 0) then 1 else 0
def yd (d : Int) : Int := ga d + 60 + (if jf (ga d) = 1 then 0 else lp (gc d) (gy d)) - 365 * jf (ga d)

/-! ### the law's side, of the shifted day z -/
def me (z : Int) : Int := z % 146097
def yoe (z : Int) : Int := (me z - me z / 1460 + me z / 36524 - me z / 146096) / 365
def doy (z : Int) : Int := me z - (365 * yoe z + yoe z / 4 - yoe z / 100)
def mp (z : Int) : Int := (5 * doy z + 2) / 153
def dd (z : Int) : Int := doy z - (153 * mp z + 2) / 5 + 1
def mm (z : Int) : Int := if mp z < 10 then mp z + 3 else mp z - 9
def yy (z : Int) : Int := yoe z + z / 146097 * 400 + (if mm z ≤ 2 then 1 else 0)
/-- the first of January of year y, as the law counts days -/
def jan1 (y : Int) : Int := (y - 1) / 400 * 146097 + ((y - 1 - (y - 1) / 400 * 400) * 365 + (y - 1 - (y - 1) / 400 * 400) / 4 - (y - 1 - (y - 1) / 400 * 400) / 100 + 306) - 719468

/-- what joins the two: the century, the day in it, the year in it, the day in that -/
theorem core (z : Int) : ∃ c g y a : Int, 0 ≤ c ∧ c ≤ 3 ∧ 0 ≤ g ∧ g ≤ 36524 ∧ 0 ≤ y ∧ y ≤ 99 ∧ 0 ≤ a ∧ a ≤ 365 ∧ me z = 36524 * c + g ∧ g = 365 * y + y / 4 + a ∧
    (4 * me z + 3) / 146097 = c ∧ (4 * g + 3) / 1461 = y ∧ (4 * g + 3) % 1461 / 4 = a ∧ yoe z = 100 * c + y ∧ doy z = a := by
  obtain ⟨e, he, hlt⟩ : ∃ e : Nat, me z = (e : Int) ∧ e < 146097 := ⟨(z % 146097).toNat, by unfold me; omega, by omega⟩
  have hy := era_year e hlt
  have hyo : yoe z = 100 * ((4 * (e : Int) + 3) / 146097) + (4 * ((e : Int) - 36524 * ((4 * (e : Int) + 3) / 146097)) + 3) / 1461 := by
    unfold yoe; rw [he]
    obtain ⟨A, hA⟩ : ∃ A : Nat, e - e / 1460 + e / 36524 - e / 146096 = A := ⟨_, rfl⟩
    obtain ⟨C, hC⟩ : ∃ C : Nat, (4 * e + 3) / 146097 = C := ⟨_, rfl⟩
    obtain ⟨G, hG⟩ : ∃ G : Nat, e - 36524 * C = G := ⟨_, rfl⟩
    rw [hA, hC, hG] at hy
    have k1 : (e : Int) - (e : Int) / 1460 + (e : Int) / 36524 - (e : Int) / 146096 = A := by omega
    have k2 : (4 * (e : Int) + 3) / 146097 = C := by omega
    have k3 : (e : Int) - 36524 * C = G := by omega
    rw [k1, k2, k3]
    clear k1 k2 k3 hA hC hG he
    omega
  clear hy
  obtain ⟨c, hc⟩ : ∃ c : Int, (4 * (e : Int) + 3) / 146097 = c := ⟨_, rfl⟩
  obtain ⟨g, hg⟩ : ∃ g : Int, (e : Int) - 36524 * c = g := ⟨_, rfl⟩
  rw [hc, hg] at hyo
  have c0 : 0 ≤ c ∧ c ≤ 3 := by omega
  have g0 : 0 ≤ g ∧ g ≤ 36524 := by omega
  refine ⟨c, g, (4 * g + 3) / 1461, (4 * g + 3) % 1461 / 4, c0.1, c0.2, g0.1, g0.2, by omega, by omega, by omega, by omega, by omega, ?_, by rw [he]; exact hc, rfl, rfl, hyo, ?_⟩
  · omega
  · unfold doy
    rw [hyo, he]
    obtain ⟨y, hy⟩ : ∃ y : Int, (4 * g + 3) / 1461 = y := ⟨_, rfl⟩
    rw [hy]
    have e1 : (100 * c + y) / 4 = 25 * c + y / 4 := by omega
    have e2 : (100 * c + y) / 100 = c := by omega
    rw [e1, e2]
    omega

theorem yday1 (c y a : Int) (h1 : 0 ≤ c) (h2 : c ≤ 3) (h3 : 0 ≤ y) (h4 : y ≤ 99) (h0 : ¬ 100 * c + y = 0) :
    a + 60 + (if y % 4 = 0 ∧ (y ≠ 0 ∨ c % 4 = 0) then (1 : Int) else 0) - 1 = 36524 * c + (365 * y + y / 4 + a) - ((100 * c + y - 1) * 365 + (100 * c + y - 1) / 4 - (100 * c + y - 1) / 100 + 306) := by
  have hc : c = 0 ∨ c = 1 ∨ c = 2 ∨ c = 3 := by omega
  rcases hc with rfl | rfl | rfl | rfl <;> split <;> omega

/-- THE PLAIN LAW -/
theorem law (days d : Int) (hd : d = days + 106751991073400) :
    year d = yy (days + 719468) ∧ am (ga d) - 12 * jf (ga d) - 1 = mm (days + 719468) - 1 ∧ md (ga d) = dd (days + 719468) ∧ (d + 3) % 7 = (days + 4) % 7 ∧
      yd d - 1 = days - jan1 (yy (days + 719468)) := by
  obtain ⟨c, g, y, a, hc0, hc3, hg0, hg1, hy0, hy1, ha0, ha1, he, hg, hc, hy, ha, hyo, hdo⟩ := core (days + 719468)
  obtain ⟨E, hE⟩ : ∃ E : Int, (days + 719468) / 146097 = E := ⟨_, rfl⟩
  have hz : days + 719468 = 146097 * E + me (days + 719468) := by unfold me; omega
  have hme : 0 ≤ me (days + 719468) ∧ me (days + 719468) < 146097 := by unfold me; omega
  have e1 : gc d = 4 * (E + 730692556) + c := by unfold gc; omega
  have e0 : (4 * d + 3) % 146097 = 4 * g + 3 - c := by
    have e1' := e1
    unfold gc at e1'
    have : (4 * d + 3) % 146097 = 4 * d + 3 - 146097 * (4 * (E + 730692556) + c) := by omega
    rw [this]
    omega
  have e2 : gd d = g := by unfold gd; rw [e0]; omega
  have e3 : gy d = y := by unfold gy; rw [e2]; exact hy
  have e4 : ga d = a := by unfold ga; rw [e2]; exact ha
  obtain ⟨n, rfl⟩ := Int.eq_ofNat_of_zero_le ha0
  obtain ⟨m1, m2, m3⟩ := year_month n (by omega)
  have hmp : mp (days + 719468) = ((5 * n + 2) / 153 : Nat) := by unfold mp; rw [hdo]; omega
  have hmm : mm (days + 719468) = if 306 ≤ n then (((5 * n + 2) / 153 : Nat) : Int) - 9 else (((5 * n + 2) / 153 : Nat) : Int) + 3 := by
    unfold mm; rw [hmp]; split <;> split <;> omega
  have hj : jf (n : Int) = if 306 ≤ n then 1 else 0 := by unfold jf; split <;> split <;> omega
  have mp12 : (5 * n + 2) / 153 ≤ 11 := by omega
  have hb : (if mm (days + 719468) ≤ 2 then (1 : Int) else 0) = jf (n : Int) := by
    rw [hmm, hj]; split <;> split <;> omega
  have hyear : yy (days + 719468) = 100 * c + y + E * 400 + jf (n : Int) := by unfold yy; rw [hyo, hE, hb]
  refine ⟨?_, ?_, ?_, ?_, ?_⟩
  · unfold year; rw [hyear, e1, e3, e4]; omega
  · rw [e4, hmm, hj]; unfold am; split <;> omega
  · rw [e4]; unfold md dd; rw [hdo, hmp]
    obtain ⟨S, hS⟩ : ∃ S : Nat, (5 * n + 2) / 153 = S := ⟨_, rfl⟩
    obtain ⟨p, hp⟩ : ∃ p : Nat, (2141 * n + 197913) % 65536 / 2141 = p := ⟨_, rfl⟩
    obtain ⟨q, hq⟩ : ∃ q : Nat, (153 * S + 2) / 5 = q := ⟨_, rfl⟩
    rw [hS, hp, hq] at m2
    rw [hS]
    have k1 : (2141 * (n : Int) + 197913) % 65536 / 2141 = p := by rw [← hp]; simp
    have k2 : (153 * (S : Int) + 2) / 5 = q := by omega
    rw [k1, k2]
    clear k1 k2 hS hp hq
    omega
  · omega
  · rw [hyear]
    unfold yd lp jan1
    rw [e1, e3, e4, hj]
    by_cases hn : 306 ≤ n
    · rw [if_pos hn]
      have q1 : (100 * c + y + E * 400 + 1 - 1) / 400 = E := by omega
      rw [q1]
      rw [show 100 * c + y + E * 400 + 1 - 1 - E * 400 = 100 * c + y by omega, show (100 * c + y) / 4 = 25 * c + y / 4 by omega, show (100 * c + y) / 100 = c by omega]
      simp
      omega
    · rw [if_neg hn]
      by_cases z0 : 100 * c + y = 0
      · have c0 : c = 0 := by omega
        have y0 : y = 0 := by omega
        subst c0; subst y0
        have q1 : (100 * 0 + 0 + E * 400 + 0 - 1) / 400 = E - 1 := by omega
        rw [q1]
        rw [show (100 * 0 + 0 + E * 400 + 0 - 1 - (E - 1) * 400 : Int) = 399 by omega]
        simp
        omega
      · have q1 : (100 * c + y + E * 400 + 0 - 1) / 400 = E := by omega
        rw [q1]
        rw [show 100 * c + y + E * 400 + 0 - 1 - E * 400 = 100 * c + y - 1 by omega]
        have hl : (if y % 4 = 0 ∧ (y ≠ 0 ∨ (4 * (E + 730692556) + c) % 4 = 0) then (1 : Int) else 0) = if y % 4 = 0 ∧ (y ≠ 0 ∨ c % 4 = 0) then 1 else 0 := by
          rw [show (4 * (E + 730692556) + c) % 4 = c % 4 by omega]
        rw [hl]
        have key := yday1 c y n hc0 hc3 hy0 hy1 z0
        have hd2 : days = 146097 * E + (36524 * c + (365 * y + y / 4 + n)) - 719468 := by omega
        rw [hd2]
        simp
        simp at key
        omega
end Go.Proofs.Ytiomakknhaiikaa.Cal
