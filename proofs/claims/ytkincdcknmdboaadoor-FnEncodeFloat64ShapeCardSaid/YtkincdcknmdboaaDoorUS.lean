/- The walks of prescale and uscale. -/
import Derived.Test.YtkincdcknmdboaaDoorWS
namespace Go.Proofs.YtkincdcknmdboaaDoor
open Go.RowKit
set_option linter.unusedVariables false

/-- unrounded scaling of x by the 128-bit number hi, lo, shifted by s -/
def usc (x hi lo s : Nat) : Nat :=
  if x * hi / 18446744073709551616 / 2 ^ s * 2 ^ s = x * hi / 18446744073709551616 then
    (x * hi / 18446744073709551616 - (if x * hi % 18446744073709551616 < x * lo / 18446744073709551616 then 1 else 0)) / 2 ^ s ||| (if 1 < (x * hi % 18446744073709551616 + 18446744073709551616 - x * lo / 18446744073709551616) % 18446744073709551616 then 1 else 0)
  else x * hi / 18446744073709551616 / 2 ^ s ||| 1

theorem or_u64 (a b : Nat) (ha : a < 18446744073709551616) (hb : b < 18446744073709551616) : bits .or .u64 (a : Int) (b : Int) = ((a ||| b : Nat) : Int) := by
  have hb' : IntKind.u64.bits = 64 := rfl
  have h2 : a ||| b < 2 ^ 64 := Nat.or_lt_two_pow ha hb
  simp [bits, hb']
  rw [Nat.mod_eq_of_lt ha, Nat.mod_eq_of_lt hb, IntKind.wrap_u64]
  have h3 : ((a ||| b : Nat) : Int) < 18446744073709551616 := by omega
  omega
theorem and63 (s : Nat) (h : s < 64) : bits .and .i64 (s : Int) 63 = (s : Int) := by
  have hd : ∀ s : Nat, s < 64 → bits .and .i64 (s : Int) 63 = (s : Int) := by decide +kernel
  exact hd s h
theorem div_pow (h s : Nat) : (h : Int) / 2 ^ s = ((h / 2 ^ s : Nat) : Int) := by
  rw [Int.natCast_ediv, Int.natCast_pow]; rfl

set_option maxRecDepth 100000 in
theorem uscale_any (x hi lo s b : Nat) (w : World) (hx : x < 18446744073709551616) (hhi : hi < 18446744073709551616) (hlo : lo < 18446744073709551616) (hs : s < 64) (h1 : 1 ≤ x * hi / 18446744073709551616)
    (c0 : w.cell? ⟨b, 0, none⟩ = some (.int .u64 hi)) (c1 : w.cell? ⟨b, 1, none⟩ = some (.int .u64 lo)) (c2 : w.cell? ⟨b, 2, none⟩ = some (.int .i64 s)) :
    Calls Tryd.prog 41 #[.int .u64 x, .pointer (some ⟨b, 0, none⟩)] w fun r w' => r = .returned (.int .u64 (usc x hi lo s)) ∧ ∃ n, w' = w.drewN n := by
  have HM := Lib.hid (fun w => Tryd.bits_Mul64 x hi hx hhi w)
  have HM2 := Lib.hid (fun w => Tryd.bits_Mul64 x lo hx hlo w)
  have ha := and63 s hs
  have HU : Hid (usc x hi lo s = if x * hi / 18446744073709551616 / 2 ^ s * 2 ^ s = x * hi / 18446744073709551616 then (x * hi / 18446744073709551616 - (if x * hi % 18446744073709551616 < x * lo / 18446744073709551616 then 1 else 0)) / 2 ^ s ||| (if 1 < (x * hi % 18446744073709551616 + 18446744073709551616 - x * lo / 18446744073709551616) % 18446744073709551616 then 1 else 0) else x * hi / 18446744073709551616 / 2 ^ s ||| 1) := Lib.hid rfl
  have hlt : x * hi / 18446744073709551616 < 18446744073709551616 := Nat.div_lt_of_lt_mul (Nat.mul_lt_mul'' hx hhi)
  have hlt2 : x * lo / 18446744073709551616 < 18446744073709551616 := Nat.div_lt_of_lt_mul (Nat.mul_lt_mul'' hx hlo)
  have hlt3 : x * hi % 18446744073709551616 < 18446744073709551616 := Nat.mod_lt _ (by decide)
  obtain ⟨h, hh⟩ : ∃ h, h = x * hi / 18446744073709551616 := ⟨_, rfl⟩
  obtain ⟨mid, hmid⟩ : ∃ mid, mid = x * hi % 18446744073709551616 := ⟨_, rfl⟩
  obtain ⟨mid2, hmid2⟩ : ∃ mid2, mid2 = x * lo / 18446744073709551616 := ⟨_, rfl⟩
  obtain ⟨m3, hm3⟩ : ∃ m3, m3 = x * lo % 18446744073709551616 := ⟨_, rfl⟩
  obtain ⟨R, hR⟩ : ∃ R, R = usc x hi lo s := ⟨_, rfl⟩
  rw [← hh, ← hmid] at HM
  rw [← hmid2, ← hm3] at HM2
  rw [← hh] at h1 hlt
  rw [← hh, ← hmid, ← hmid2, ← hR] at HU
  rw [← hmid2] at hlt2
  rw [← hmid] at hlt3
  rw [← hR]
  clear hh hmid hmid2 hm3 hR
  have hds : h / 2 ^ s ≤ h := Nat.div_le_self _ _
  have hmu : h / 2 ^ s * 2 ^ s ≤ h := Nat.div_mul_le_self _ _
  have hwr : IntKind.u64.wrap ((h : Int) / 2 ^ s * 2 ^ s) = ((h / 2 ^ s * 2 ^ s : Nat) : Int) := by
    rw [IntKind.wrap_u64, div_pow, Int.natCast_mul, Int.natCast_pow]
    have e : ((h / 2 ^ s : Nat) : Int) * 2 ^ s = ((h / 2 ^ s * 2 ^ s : Nat) : Int) := by rw [Int.natCast_mul, Int.natCast_pow]; rfl
    rw [e]
    show ((h / 2 ^ s * 2 ^ s : Nat) : Int) % 18446744073709551616 = ((h / 2 ^ s : Nat) : Int) * 2 ^ s
    rw [e]
    omega
  by_cases q : h / 2 ^ s * 2 ^ s = h
  · rw [q] at hwr
    rw [if_pos q] at HU
    have t1 : ((h : Int) != (h : Int)) = false := by simp
    clear q hmu
    by_cases q2 : mid < mid2
    · have t2 : decide ((mid : Int) < (mid2 : Int)) = true := decide_eq_true (by omega)
      have t2n : decide (mid < mid2) = true := decide_eq_true q2
      have t3 : IntKind.u64.wrap ((h : Int) - 1) = ((h - 1 : Nat) : Int) := by rw [IntKind.wrap_u64]; omega
      rw [if_pos q2] at HU
      have t4 : IntKind.u64.wrap ((mid : Int) - (mid2 : Int)) = (((mid + 18446744073709551616 - mid2) % 18446744073709551616 : Nat) : Int) := by rw [IntKind.wrap_u64]; omega
      have hd2 : (h - 1) / 2 ^ s ≤ h - 1 := Nat.div_le_self _ _
      by_cases q3 : 1 < (mid + 18446744073709551616 - mid2) % 18446744073709551616
      · rw [if_pos q3] at HU
        have t5 : decide ((((mid + 18446744073709551616 - mid2) % 18446744073709551616 : Nat) : Int) > 1) = true := decide_eq_true (by omega)
        have t6 : bits .or .u64 (((h : Int) - 1) / 2 ^ s) 1 = (((h - 1) / 2 ^ s ||| 1 : Nat) : Int) := by rw [show (h : Int) - 1 = ((h - 1 : Nat) : Int) by omega, div_pow]; exact or_u64 _ 1 (by omega) (by omega)
        have T6 : Hid (bits .or .u64 (((h : Int) - 1) / 2 ^ s) 1 = (((h - 1) / 2 ^ s ||| 1 : Nat) : Int)) := Lib.hid t6
        have T7 := T6
        have T8 : Hid (bits .or .u64 (((h - 1 : Nat) : Int) / 2 ^ s) 1 = (((h - 1) / 2 ^ s ||| 1 : Nat) : Int)) := Lib.hid (by rw [div_pow]; exact or_u64 _ 1 (by omega) (by omega))
        have T9 := T8
        have t5n := q3
        generalize (mid + 18446744073709551616 - mid2) % 18446744073709551616 = z at t4 t5 t5n
        have t5m : decide (1 < z) = true := decide_eq_true t5n
        clear q2 q3 t5n
        go_enter Tryd.func41, Tryd.ntmps41
        go_wp2_with (first | (go_at_call 58; (with_reducible refine (HM.out _).mono ?_); rintro r w2 ⟨rfl, rfl⟩) | (go_at_call 58; (with_reducible refine (HM2.out _).mono ?_); rintro r w2 ⟨rfl, rfl⟩) | (go_at_call 59; (with_reducible refine (bool2_t _).mono ?_); rintro r w2 ⟨rfl, rfl⟩) | (go_at_call 59; (with_reducible refine (bool2_f _).mono ?_); rintro r w2 ⟨rfl, rfl⟩))
        go_quiet (first | exact Calls.quiet_of_same ((bool2_t _).mono (fun r w' h => ⟨h.1, h.2.symm⟩)) | exact Calls.quiet_of_same ((bool2_f _).mono (fun r w' h => ⟨h.1, h.2.symm⟩)))
        go_wp2
        go_ret
        refine ⟨ret_int ?_, _, rfl⟩
        rw [HU.out]
        first | exact T6.out | exact T7.out | exact T8.out | exact T9.out | rfl
      · rw [if_neg q3] at HU
        have t5 : decide ((((mid + 18446744073709551616 - mid2) % 18446744073709551616 : Nat) : Int) > 1) = false := decide_eq_false (by omega)
        have t6 : bits .or .u64 (((h : Int) - 1) / 2 ^ s) 0 = (((h - 1) / 2 ^ s ||| 0 : Nat) : Int) := by rw [show (h : Int) - 1 = ((h - 1 : Nat) : Int) by omega, div_pow]; exact or_u64 _ 0 (by omega) (by omega)
        have T6 : Hid (bits .or .u64 (((h : Int) - 1) / 2 ^ s) 0 = (((h - 1) / 2 ^ s ||| 0 : Nat) : Int)) := Lib.hid t6
        have T7 : Hid (((h : Int) - 1) / 2 ^ s = (((h - 1) / 2 ^ s ||| 0 : Nat) : Int)) := Lib.hid (by first | rw [show (h : Int) - 1 = ((h - 1 : Nat) : Int) by omega, div_pow, Nat.or_zero] | rw [div_pow, Nat.or_zero])
        have T8 : Hid (((h - 1 : Nat) : Int) / 2 ^ s = (((h - 1) / 2 ^ s ||| 0 : Nat) : Int)) := Lib.hid (by rw [div_pow, Nat.or_zero])
        have T9 : Hid (bits .or .u64 (((h - 1 : Nat) : Int) / 2 ^ s) 0 = (((h - 1) / 2 ^ s ||| 0 : Nat) : Int)) := Lib.hid (by rw [div_pow]; exact or_u64 _ 0 (by omega) (by omega))
        have t5n := q3
        generalize (mid + 18446744073709551616 - mid2) % 18446744073709551616 = z at t4 t5 t5n
        have t5m : decide (1 < z) = false := decide_eq_false t5n
        clear q2 q3 t5n
        go_enter Tryd.func41, Tryd.ntmps41
        go_wp2_with (first | (go_at_call 58; (with_reducible refine (HM.out _).mono ?_); rintro r w2 ⟨rfl, rfl⟩) | (go_at_call 58; (with_reducible refine (HM2.out _).mono ?_); rintro r w2 ⟨rfl, rfl⟩) | (go_at_call 59; (with_reducible refine (bool2_t _).mono ?_); rintro r w2 ⟨rfl, rfl⟩) | (go_at_call 59; (with_reducible refine (bool2_f _).mono ?_); rintro r w2 ⟨rfl, rfl⟩))
        go_quiet (first | exact Calls.quiet_of_same ((bool2_t _).mono (fun r w' h => ⟨h.1, h.2.symm⟩)) | exact Calls.quiet_of_same ((bool2_f _).mono (fun r w' h => ⟨h.1, h.2.symm⟩)))
        go_wp2
        go_ret
        refine ⟨ret_int ?_, _, rfl⟩
        rw [HU.out]
        first | exact T6.out | exact T7.out | exact T8.out | exact T9.out | rfl
    · have t2 : decide ((mid : Int) < (mid2 : Int)) = false := decide_eq_false (by omega)
      have t2n : decide (mid < mid2) = false := decide_eq_false q2
      have t3 : IntKind.u64.wrap (h : Int) = (h : Int) := by rw [IntKind.wrap_u64]; omega
      rw [if_neg q2] at HU
      have t4 : IntKind.u64.wrap ((mid : Int) - (mid2 : Int)) = (((mid + 18446744073709551616 - mid2) % 18446744073709551616 : Nat) : Int) := by rw [IntKind.wrap_u64]; omega
      by_cases q3 : 1 < (mid + 18446744073709551616 - mid2) % 18446744073709551616
      · rw [if_pos q3] at HU
        have t5 : decide ((((mid + 18446744073709551616 - mid2) % 18446744073709551616 : Nat) : Int) > 1) = true := decide_eq_true (by omega)
        have t6 : bits .or .u64 ((h : Int) / 2 ^ s) 1 = ((h / 2 ^ s ||| 1 : Nat) : Int) := by rw [div_pow]; exact or_u64 _ 1 (by omega) (by omega)
        have T6 : Hid (bits .or .u64 ((h : Int) / 2 ^ s) 1 = ((h / 2 ^ s ||| 1 : Nat) : Int)) := Lib.hid t6
        have T7 := T6
        have T8 : Hid (bits .or .u64 (((h : Nat) : Int) / 2 ^ s) 1 = ((h / 2 ^ s ||| 1 : Nat) : Int)) := Lib.hid (by rw [div_pow]; exact or_u64 _ 1 (by omega) (by omega))
        have T9 := T8
        have t5n := q3
        generalize (mid + 18446744073709551616 - mid2) % 18446744073709551616 = z at t4 t5 t5n
        have t5m : decide (1 < z) = true := decide_eq_true t5n
        clear q2 q3 t5n
        go_enter Tryd.func41, Tryd.ntmps41
        go_wp2_with (first | (go_at_call 58; (with_reducible refine (HM.out _).mono ?_); rintro r w2 ⟨rfl, rfl⟩) | (go_at_call 58; (with_reducible refine (HM2.out _).mono ?_); rintro r w2 ⟨rfl, rfl⟩) | (go_at_call 59; (with_reducible refine (bool2_t _).mono ?_); rintro r w2 ⟨rfl, rfl⟩) | (go_at_call 59; (with_reducible refine (bool2_f _).mono ?_); rintro r w2 ⟨rfl, rfl⟩))
        go_quiet (first | exact Calls.quiet_of_same ((bool2_t _).mono (fun r w' h => ⟨h.1, h.2.symm⟩)) | exact Calls.quiet_of_same ((bool2_f _).mono (fun r w' h => ⟨h.1, h.2.symm⟩)))
        go_wp2
        go_ret
        refine ⟨ret_int ?_, _, rfl⟩
        rw [HU.out]
        first | exact T6.out | exact T7.out | exact T8.out | exact T9.out | rfl
      · rw [if_neg q3] at HU
        have t5 : decide ((((mid + 18446744073709551616 - mid2) % 18446744073709551616 : Nat) : Int) > 1) = false := decide_eq_false (by omega)
        have t6 : bits .or .u64 ((h : Int) / 2 ^ s) 0 = ((h / 2 ^ s ||| 0 : Nat) : Int) := by rw [div_pow]; exact or_u64 _ 0 (by omega) (by omega)
        have T6 : Hid (bits .or .u64 ((h : Int) / 2 ^ s) 0 = ((h / 2 ^ s ||| 0 : Nat) : Int)) := Lib.hid t6
        have T7 : Hid ((h : Int) / 2 ^ s = ((h / 2 ^ s ||| 0 : Nat) : Int)) := Lib.hid (by first | rw [show (h : Int) - 1 = ((h - 1 : Nat) : Int) by omega, div_pow, Nat.or_zero] | rw [div_pow, Nat.or_zero])
        have T8 : Hid (((h : Nat) : Int) / 2 ^ s = ((h / 2 ^ s ||| 0 : Nat) : Int)) := Lib.hid (by rw [div_pow, Nat.or_zero])
        have T9 : Hid (bits .or .u64 (((h : Nat) : Int) / 2 ^ s) 0 = ((h / 2 ^ s ||| 0 : Nat) : Int)) := Lib.hid (by rw [div_pow]; exact or_u64 _ 0 (by omega) (by omega))
        have t5n := q3
        generalize (mid + 18446744073709551616 - mid2) % 18446744073709551616 = z at t4 t5 t5n
        have t5m : decide (1 < z) = false := decide_eq_false t5n
        clear q2 q3 t5n
        go_enter Tryd.func41, Tryd.ntmps41
        go_wp2_with (first | (go_at_call 58; (with_reducible refine (HM.out _).mono ?_); rintro r w2 ⟨rfl, rfl⟩) | (go_at_call 58; (with_reducible refine (HM2.out _).mono ?_); rintro r w2 ⟨rfl, rfl⟩) | (go_at_call 59; (with_reducible refine (bool2_t _).mono ?_); rintro r w2 ⟨rfl, rfl⟩) | (go_at_call 59; (with_reducible refine (bool2_f _).mono ?_); rintro r w2 ⟨rfl, rfl⟩))
        go_quiet (first | exact Calls.quiet_of_same ((bool2_t _).mono (fun r w' h => ⟨h.1, h.2.symm⟩)) | exact Calls.quiet_of_same ((bool2_f _).mono (fun r w' h => ⟨h.1, h.2.symm⟩)))
        go_wp2
        go_ret
        refine ⟨ret_int ?_, _, rfl⟩
        rw [HU.out]
        first | exact T6.out | exact T7.out | exact T8.out | exact T9.out | rfl
  · rw [if_neg q] at HU
    have t1 : (((h / 2 ^ s * 2 ^ s : Nat) : Int) != (h : Int)) = true := by
      rw [bne_iff_ne]; omega
    have t6 : bits .or .u64 ((h : Int) / 2 ^ s) 1 = ((h / 2 ^ s ||| 1 : Nat) : Int) := by rw [div_pow]; exact or_u64 _ 1 (by omega) (by omega)
    have T6 : Hid (bits .or .u64 ((h : Int) / 2 ^ s) 1 = ((h / 2 ^ s ||| 1 : Nat) : Int)) := Lib.hid t6
    have T7 := T6
    have T8 : Hid (bits .or .u64 (((h : Nat) : Int) / 2 ^ s) 1 = ((h / 2 ^ s ||| 1 : Nat) : Int)) := Lib.hid (by rw [div_pow]; exact or_u64 _ 1 (by omega) (by omega))
    have T9 := T8
    generalize h / 2 ^ s * 2 ^ s = y at hwr t1
    clear q hmu
    go_enter Tryd.func41, Tryd.ntmps41
    go_wp2_with (first | (go_at_call 58; (with_reducible refine (HM.out _).mono ?_); rintro r w2 ⟨rfl, rfl⟩) | (go_at_call 58; (with_reducible refine (HM2.out _).mono ?_); rintro r w2 ⟨rfl, rfl⟩) | (go_at_call 59; (with_reducible refine (bool2_t _).mono ?_); rintro r w2 ⟨rfl, rfl⟩) | (go_at_call 59; (with_reducible refine (bool2_f _).mono ?_); rintro r w2 ⟨rfl, rfl⟩))
    go_ret
    refine ⟨ret_int ?_, 0, rfl⟩
    rw [HU.out]
    try first | rfl | exact T6.out
end Go.Proofs.YtkincdcknmdboaaDoor
