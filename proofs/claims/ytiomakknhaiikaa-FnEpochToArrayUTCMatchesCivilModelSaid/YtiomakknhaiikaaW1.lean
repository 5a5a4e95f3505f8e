/- The walks of timeToEpoch and what it calls. -/
import Derived.Test.YtiomakknhaiikaaRows
import Derived.WalkKit
import Derived.ProofKit
import Derived.OpenShut
import Derived.WalkSpells
import Derived.WalkLawsBesides
import Derived.Outline
import Derived.Lib.Hide
import Derived.Deep.RegionHeld3
import Derived.Deep.QuietTactic
import Derived.BigQuiet
import Derived.Laws.FloatArith
import Derived.Test.YtiomakknhaiikaaCom
namespace Go.Proofs.Ytiomakknhaiikaa
open Go.RowKit
set_option linter.unusedVariables false

/-- a time value: the wall word, the seconds since year 1, no location -/
def tm (a : Nat) (e : Int) : Value := .agg #[.int .u64 a, .int .i64 e, .pointer none]


theorem unixTime_any (s n : Int) (w : World) (h0 : 0 ≤ n) (h1 : n < 1000000000) (hs : -9000000000000000000 ≤ s) (hs' : s ≤ 9000000000000000000) :
    Calls Try.prog 20 #[.int .i64 s, .int .i32 n] w fun e w' => e = .returned (.agg #[.int .u64 n, .int .i64 (s + 62135596800), .pointer none]) ∧ Below w.heap.size w w' := by
  go_enter Try.func20, Try.ntmps20
  go_wp2
  exact bodyPost_ret (v := .agg #[.int .u64 n, .int .i64 (s + 62135596800), .pointer none]) (by simp [results, Try.results20, go_sem]) rfl ⟨rfl, (Below.refl _ _).alloc (Nat.le_refl _) _⟩

theorem and_top (n : Int) (h0 : 0 ≤ n) (h1 : n < 1000000000) : (bits BinOp.and IntKind.u64 n 9223372036854775808 != 0) = false := by
  rw [u64_and n 9223372036854775808 h0 (by omega) (by omega) (by omega)]
  have : n.toNat &&& (9223372036854775808 : Int).toNat = 0 := by
    rw [show (9223372036854775808 : Int).toNat = 2^63 from rfl, nat_bit, Nat.div_eq_of_lt (by omega)]
  rw [this]; rfl

theorem and_low (n : Int) (h0 : 0 ≤ n) (h1 : n < 1000000000) : bits BinOp.and IntKind.u64 n 1073741823 = n := by
  rw [u64_and n 1073741823 h0 (by omega) (by omega) (by omega)]
  have : n.toNat &&& (1073741823 : Int).toNat = n.toNat := by
    rw [show (1073741823 : Int).toNat = 2^30 - 1 from rfl, Nat.and_two_pow_sub_one_eq_mod, Nat.mod_eq_of_lt (by omega)]
  rw [this]; omega

theorem sec_any (n e : Int) (a : Nat) (w : World) (h0 : 0 ≤ n) (h1 : n < 1000000000)
    (c0 : w.cell? ⟨a, 0, none⟩ = some (.int .u64 n)) (c1 : w.cell? ⟨a, 1, none⟩ = some (.int .i64 e)) :
    Calls Try.prog 45 #[.pointer (some ⟨a, 0, none⟩)] w fun r w' => r = .returned (.int .i64 e) ∧ w = w' := by
  have ht := and_top n h0 h1
  go_enter Try.func45, Try.ntmps45
  go_wp2
  go_ret
  exact ⟨rfl, rfl⟩

theorem unixSec_any (n e : Int) (a : Nat) (w : World) (h0 : 0 ≤ n) (h1 : n < 1000000000) (b0 : -9000000000000000000 ≤ e) (b1 : e ≤ 9000000000000000000)
    (c0 : w.cell? ⟨a, 0, none⟩ = some (.int .u64 n)) (c1 : w.cell? ⟨a, 1, none⟩ = some (.int .i64 e)) :
    Calls Try.prog 31 #[.pointer (some ⟨a, 0, none⟩)] w fun r w' => r = .returned (.int .i64 (e - 62135596800)) ∧ w = w' := by
  go_enter Try.func31, Try.ntmps31
  go_wp2_with (go_at_call 45; refine (sec_any n e a _ h0 h1 c0 c1).mono ?_; rintro r w' ⟨rfl, rfl⟩)
  go_ret
  exact ⟨rfl, rfl⟩

theorem nsec_any (n : Int) (a : Nat) (w : World) (h0 : 0 ≤ n) (h1 : n < 1000000000)
    (c0 : w.cell? ⟨a, 0, none⟩ = some (.int .u64 n)) :
    Calls Try.prog 32 #[.pointer (some ⟨a, 0, none⟩)] w fun r w' => r = .returned (.int .i32 n) ∧ w = w' := by
  have hl := and_low n h0 h1
  go_enter Try.func32, Try.ntmps32
  go_wp2
  go_ret
  exact ⟨rfl, rfl⟩

theorem unix_any (n e : Int) (l : Value) (w : World) (h0 : 0 ≤ n) (h1 : n < 1000000000) (b0 : -9000000000000000000 ≤ e) (b1 : e ≤ 9000000000000000000) :
    Calls Try.prog 18 #[.agg #[.int .u64 n, .int .i64 e, l]] w fun r w' => r = .returned (.int .i64 (e - 62135596800)) ∧ Below w.heap.size w w' := by
  go_enter Try.func18, Try.ntmps18
  go_wp2_with (go_at_call 31; refine (unixSec_any n e w.heap.size _ h0 h1 b0 b1 (by go_simp) (by go_simp)).mono ?_; rintro r w' ⟨rfl, rfl⟩)
  go_ret
  exact ⟨rfl, (Below.refl _ _).alloc (Nat.le_refl _) _⟩

theorem nanosecond_any (n e : Int) (l : Value) (w : World) (h0 : 0 ≤ n) (h1 : n < 1000000000) :
    Calls Try.prog 19 #[.agg #[.int .u64 n, .int .i64 e, l]] w fun r w' => r = .returned (.int .i64 n) ∧ Below w.heap.size w w' := by
  go_enter Try.func19, Try.ntmps19
  go_wp2_with (go_at_call 32; refine (nsec_any n w.heap.size _ h0 h1 (by go_simp)).mono ?_; rintro r w' ⟨rfl, rfl⟩)
  go_ret
  exact ⟨rfl, (Below.refl _ _).alloc (Nat.le_refl _) _⟩

theorem timeToEpoch_any (n e : Int) (q r : Nat) (w : World) (h0 : 0 ≤ n) (h1 : n < 1000000000) (b0 : -9000000000000000000 ≤ e) (b1 : e ≤ 9000000000000000000)
    (hq : floatBits .quo .f64 (floatOfInt .f64 n) 4741671816366391296 = some q) (hr : floatBits .add .f64 (floatOfInt .f64 (e - 62135596800)) q = some r) :
    Calls Try.prog 10 #[.agg #[.int .u64 n, .int .i64 e, .pointer none]] w fun x w' => x = .returned (.float .f64 r) ∧ Below w.heap.size w w' := by
  have Hq := fun w => run_float_arith (P := Try.prog) w .quo 22 .f64 _ _ _ hq
  have Hr := fun w => run_float_arith (P := Try.prog) w .add 22 .f64 _ _ _ hr
  clear hq hr
  have HB : Below w.heap.size w (w.alloc (Obj.cells #[Value.int IntKind.u64 n, Value.int IntKind.i64 e, Value.pointer none] 36)).drew := ((Below.refl _ _).alloc (Nat.le_refl _) _).drew
  go_enter Try.func10, Try.ntmps10
  go_wp2_with fail
  go_region_held3 (fun w' => w'.cell? ⟨w.heap.size, 0, none⟩ = some (.int .u64 n) ∧ w'.cell? ⟨w.heap.size, 1, none⟩ = some (.int .i64 e) ∧ w'.cell? ⟨w.heap.size, 2, none⟩ = some (.pointer none) ∧ w.heap.size < w'.heap.size ∧ Below w.heap.size w w')
    (first | go_keep | (go_split_ands; exact ⟨(hb1.cell (p := ⟨w.heap.size, 0, none⟩) (by assumption)).trans (by assumption), (hb1.cell (p := ⟨w.heap.size, 1, none⟩) (by assumption)).trans (by assumption), (hb1.cell (p := ⟨w.heap.size, 2, none⟩) (by assumption)).trans (by assumption), by have := hb1.size; omega, Below.trans (by assumption) (hb1.mono (by omega))⟩))
    (first | (go_at_call 18; refine (unix_any n e _ _ h0 h1 b0 b1).mono ?_; rintro x w1 ⟨rfl, hb1⟩) | (go_at_call 19; refine (nanosecond_any n e _ _ h0 h1).mono ?_; rintro x w1 ⟨rfl, hb1⟩))
  go_wp2
  go_ret
  exact ⟨rfl, by go_split_ands; assumption⟩

theorem unixF_in (s n : Int) (w : World) (h0 : 0 ≤ n) (h1 : n < 1000000000) (hs : -8000000000000000000 ≤ s) (hs' : s ≤ 8000000000000000000) :
    Calls Try.prog 11 #[.int .i64 s, .int .i64 n] w fun e w' => e = .returned (.agg #[.int .u64 n, .int .i64 (s + 62135596800), .pointer none]) ∧ Below w.heap.size w w' := by
  have g0 : decide (n < 0) = false := by simp; omega
  have g1 : decide (n ≥ 1000000000) = false := by simp; omega
  go_enter Try.func11, Try.ntmps11
  go_wp2_with (go_at_call 20; refine (unixTime_any s n _ h0 h1 (by omega) (by omega)).mono ?_; rintro r w1 ⟨rfl, hb1⟩; obtain ⟨hc, hf⟩ := bcell hb1)
  refine bodyPost_ret (v := .agg #[.int .u64 n, .int .i64 (s + 62135596800), .pointer none]) (by simp [results, Try.results11, go_sem, hc]) rfl ⟨rfl, ?_⟩
  exact (((((Below.refl _ _).alloc (Nat.le_refl _) _).trans (hb1.mono (by simp))).setCell (Nat.le_refl _) _).setCell (Nat.le_refl _) _).setCell (Nat.le_refl _) _
theorem unixF_neg' (s ns d : Int) (w : World) (h0 : ns < 0) (h1 : -200000000000 ≤ ns) (hs : -8000000000000000000 ≤ s) (hs' : s ≤ 8000000000000000000)
    (hd : ns.tdiv 1000000000 = d) (d0 : -300 ≤ d) (d1 : d ≤ 0) (r0 : -1000000000 < ns - d * 1000000000) (r1 : ns - d * 1000000000 < 0) :
    Calls Try.prog 11 #[.int .i64 s, .int .i64 ns] w fun e w' => e = .returned (.agg #[.int .u64 (ns - d * 1000000000 + 1000000000), .int .i64 (s + d - 1 + 62135596800), .pointer none]) ∧ Below w.heap.size w w' := by
  have g0 : decide (ns < 0) = true := by simp; omega
  have k0 : decide (ns - d * 1000000000 < 0) = true := by simp; omega
  go_enter Try.func11, Try.ntmps11
  go_wp2_with (go_at_call 20; refine (unixTime_any (s + d - 1) (ns - d * 1000000000 + 1000000000) _ (by omega) (by omega) (by omega) (by omega)).mono ?_; rintro r w1 ⟨rfl, hb1⟩; obtain ⟨hc, hf⟩ := bcell hb1)
  refine bodyPost_ret (v := .agg #[.int .u64 (ns - d * 1000000000 + 1000000000), .int .i64 (s + d - 1 + 62135596800), .pointer none]) (by simp [results, Try.results11, go_sem, hc]) rfl ⟨rfl, ?_⟩
  exact (((((Below.refl _ _).alloc (Nat.le_refl _) _).trans (hb1.mono (by simp))).setCell (Nat.le_refl _) _).setCell (Nat.le_refl _) _).setCell (Nat.le_refl _) _

theorem unixF_neg0' (s ns d : Int) (w : World) (h0 : ns < 0) (h1 : -200000000000 ≤ ns) (hs : -8000000000000000000 ≤ s) (hs' : s ≤ 8000000000000000000)
    (hd : ns.tdiv 1000000000 = d) (d0 : -300 ≤ d) (d1 : d ≤ 0) (r1 : 0 ≤ ns - d * 1000000000) (r0 : ns - d * 1000000000 < 1000000000) :
    Calls Try.prog 11 #[.int .i64 s, .int .i64 ns] w fun e w' => e = .returned (.agg #[.int .u64 (ns - d * 1000000000), .int .i64 (s + d + 62135596800), .pointer none]) ∧ Below w.heap.size w w' := by
  have g0 : decide (ns < 0) = true := by simp; omega
  have k0 : decide (ns - d * 1000000000 < 0) = false := by simp; omega
  go_enter Try.func11, Try.ntmps11
  go_wp2_with (go_at_call 20; refine (unixTime_any (s + d) (ns - d * 1000000000) _ (by omega) (by omega) (by omega) (by omega)).mono ?_; rintro r w1 ⟨rfl, hb1⟩; obtain ⟨hc, hf⟩ := bcell hb1)
  refine bodyPost_ret (v := .agg #[.int .u64 (ns - d * 1000000000), .int .i64 (s + d + 62135596800), .pointer none]) (by simp [results, Try.results11, go_sem, hc]) rfl ⟨rfl, ?_⟩
  exact (((((Below.refl _ _).alloc (Nat.le_refl _) _).trans (hb1.mono (by simp))).setCell (Nat.le_refl _) _).setCell (Nat.le_refl _) _).setCell (Nat.le_refl _) _

theorem unixF_big' (s ns d : Int) (w : World) (h0 : 1000000000 ≤ ns) (h1 : ns ≤ 200000000000) (hs : -8000000000000000000 ≤ s) (hs' : s ≤ 8000000000000000000)
    (hd : ns / 1000000000 = d) (d0 : 0 ≤ d) (d1 : d ≤ 300) (r1 : 0 ≤ ns - d * 1000000000) (r0 : ns - d * 1000000000 < 1000000000) :
    Calls Try.prog 11 #[.int .i64 s, .int .i64 ns] w fun e w' => e = .returned (.agg #[.int .u64 (ns - d * 1000000000), .int .i64 (s + d + 62135596800), .pointer none]) ∧ Below w.heap.size w w' := by
  have g0 : decide (ns < 0) = false := by simp; omega
  have g1 : decide (ns ≥ 1000000000) = true := by simp; omega
  have k0 : decide (ns - d * 1000000000 < 0) = false := by simp; omega
  go_enter Try.func11, Try.ntmps11
  go_wp2_with (go_at_call 20; refine (unixTime_any (s + d) (ns - d * 1000000000) _ (by omega) (by omega) (by omega) (by omega)).mono ?_; rintro r w1 ⟨rfl, hb1⟩; obtain ⟨hc, hf⟩ := bcell hb1)
  refine bodyPost_ret (v := .agg #[.int .u64 (ns - d * 1000000000), .int .i64 (s + d + 62135596800), .pointer none]) (by simp [results, Try.results11, go_sem, hc]) rfl ⟨rfl, ?_⟩
  exact (((((Below.refl _ _).alloc (Nat.le_refl _) _).trans (hb1.mono (by simp))).setCell (Nat.le_refl _) _).setCell (Nat.le_refl _) _).setCell (Nat.le_refl _) _

theorem tdiv_neg {n k : Int} (h : n ≤ 0) : n.tdiv k = -((-n) / k) := by
  have := Int.neg_tdiv (a := -n) (b := k)
  rw [Int.neg_neg] at this
  rw [this, Int.tdiv_eq_ediv_of_nonneg (by omega)]

theorem unixF_any (s ns : Int) (w : World) (h1 : -200000000000 ≤ ns) (h2 : ns ≤ 200000000000) (hs : -8000000000000000000 ≤ s) (hs' : s ≤ 8000000000000000000) :
    Calls Try.prog 11 #[.int .i64 s, .int .i64 ns] w fun e w' => e = .returned (.agg #[.int .u64 (ns % 1000000000), .int .i64 (s + ns / 1000000000 + 62135596800), .pointer none]) ∧ Below w.heap.size w w' := by
  by_cases c : ns < 0
  · have e1 := tdiv_neg (n := ns) (k := 1000000000) (by omega)
    by_cases c0 : ns % 1000000000 = 0
    · have := unixF_neg0' s ns (-((-ns) / 1000000000)) w c h1 hs hs' e1 (by omega) (by omega) (by omega) (by omega)
      rw [show ns - -((-ns) / 1000000000) * 1000000000 = ns % 1000000000 by omega, show s + -((-ns) / 1000000000) = s + ns / 1000000000 by omega] at this
      exact this
    · have := unixF_neg' s ns (-((-ns) / 1000000000)) w c h1 hs hs' e1 (by omega) (by omega) (by omega) (by omega)
      rw [show ns - -((-ns) / 1000000000) * 1000000000 + 1000000000 = ns % 1000000000 by omega, show s + -((-ns) / 1000000000) - 1 = s + ns / 1000000000 by omega] at this
      exact this
  · by_cases c1 : ns < 1000000000
    · have := unixF_in s ns w (by omega) c1 hs hs'
      rw [show ns % 1000000000 = ns by omega, show s + ns / 1000000000 = s by omega]
      exact this
    · have := unixF_big' s ns (ns / 1000000000) w (by omega) h2 hs hs' rfl (by omega) (by omega) (by omega) (by omega)
      rw [show ns - ns / 1000000000 * 1000000000 = ns % 1000000000 by omega] at this
      exact this

theorem ZZ_any (s ns : Int) (q r : Nat) (w : World) (h1 : -200000000000 ≤ ns) (h2 : ns ≤ 200000000000) (hs : -8000000000000000 ≤ s) (hs' : s ≤ 8000000000000000)
    (hq : floatBits .quo .f64 (floatOfInt .f64 (ns % 1000000000)) 4741671816366391296 = some q) (hr : floatBits .add .f64 (floatOfInt .f64 (s + ns / 1000000000)) q = some r) :
    Calls Try.prog 6 #[.int .i64 s, .int .i64 ns] w fun e w' => e = .returned (.float .f64 r) ∧ Below w.heap.size w w' := by
  have b0 : 0 ≤ ns % 1000000000 := by omega
  have b1 : ns % 1000000000 < 1000000000 := by omega
  have b2 : -9000000000000000000 ≤ s + ns / 1000000000 + 62135596800 := by omega
  have b3 : s + ns / 1000000000 + 62135596800 ≤ 9000000000000000000 := by omega
  have e4 : s + ns / 1000000000 + 62135596800 - 62135596800 = s + ns / 1000000000 := by omega
  rw [← e4] at hr
  have HC := fun w => timeToEpoch_any _ _ q r w b0 b1 b2 b3 hq hr
  have HD := Lib.hid HC
  clear HC hq hr e4
  go_enter Try.func6, Try.ntmps6
  go_wp2_with (first | (go_at_call 11; refine (unixF_any s ns _ h1 h2 (by omega) (by omega)).mono ?_; rintro x w1 ⟨rfl, hb1⟩) | (go_at_call 10; refine (HD.out _).mono ?_; rintro x w2 ⟨rfl, hb2⟩))
  go_ret
  exact ⟨rfl, hb1.trans (hb2.mono hb1.size)⟩

end Go.Proofs.Ytiomakknhaiikaa
