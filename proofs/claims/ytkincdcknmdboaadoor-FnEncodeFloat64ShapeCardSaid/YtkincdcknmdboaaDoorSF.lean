/- The walk of shortFloat. -/
import Derived.Test.YtkincdcknmdboaaDoorUT
namespace Go.Proofs.YtkincdcknmdboaaDoor
open Go.RowKit
set_option linter.unusedVariables false

theorem shl_u64 (k : Nat) (h : k < 64) : (2 : Nat) ^ k < 18446744073709551616 := by
  have : 2 ^ k < 2 ^ 64 := Nat.pow_lt_pow_right (by decide) h
  simpa using this
theorem i_and1 (x : Int) (h0 : 0 ≤ x) (h1 : x < 4294967296 * 2097152) : bits .and .i64 x 1 = x % 2 := by
  have w : ∀ n : Int, 0 ≤ n → n < 2 ^ 53 → IntKind.i64.wrap n = n := fun n h0 h1 => by rw [IntKind.wrap_i64]; omega
  exact bits_mask .i64 53 (by decide) w 1 (by decide) x h0 (by omega)

/-- the scaled numbers behind prescale -/
theorem scaled (M hi lo s b : Nat) (w : World) (hM : M < 18446744073709551616) (hM2 : 4611686018427387904 ≤ M) (hh : 9223372036854775808 ≤ hi) (hhi : hi < 18446744073709551616) (hlo : lo < 18446744073709551616) (hs : s ≤ 58)
    (hb : w.heap[b]? = some (.cells #[.int .u64 hi, .int .u64 lo, .int .i64 s] 80)) (n : Nat) :
    Calls Tryd.prog 41 #[.int .u64 M, .pointer (some ⟨b, 0, none⟩)] (w.drewN n) fun r w' => r = .returned (.int .u64 (usc M hi lo s)) ∧ ∃ n, w' = w.drewN n := by
  have h1 := hprod_ge M hi hM2 hh
  refine (uscale_any M hi lo s b (w.drewN n) hM hhi hlo (by omega) (by omega) (by simp [World.cell?, hb]) (by simp [World.cell?, hb]) (by simp [World.cell?, hb])).mono ?_
  rintro r w' ⟨h2, m, h3⟩
  exact ⟨h2, n + m, by rw [h3, World.drewN_drewN]⟩

theorem scaled0 (M hi lo s b : Nat) (w : World) (hM : M < 18446744073709551616) (hM2 : 4611686018427387904 ≤ M) (hh : 9223372036854775808 ≤ hi) (hhi : hi < 18446744073709551616) (hlo : lo < 18446744073709551616) (hs : s ≤ 58)
    (hb : w.heap[b]? = some (.cells #[.int .u64 hi, .int .u64 lo, .int .i64 s] 80)) :
    Calls Tryd.prog 41 #[.int .u64 M, .pointer (some ⟨b, 0, none⟩)] w fun r w' => r = .returned (.int .u64 (usc M hi lo s)) ∧ ∃ n, w' = w.drewN n := by
  have h1 := hprod_ge M hi hM2 hh
  exact uscale_any M hi lo s b w hM hhi hlo (by omega) (by omega) (by simp [World.cell?, hb]) (by simp [World.cell?, hb]) (by simp [World.cell?, hb])


set_option maxRecDepth 100000 in
set_option maxHeartbeats 2000000 in
theorem short_B (M hi lo i s : Nat) (e L lp : Int) (w : World) (hM0 : 9223372036854775808 < M) (hM1 : M + 1024 < 18446744073709551616) (hE0 : -1085 ≤ e) (hE1 : e ≤ 1000) (hL : (e + 11) * 78913 / 262144 = L)
    (hhi : 9223372036854775808 ≤ hi) (hhi2 : hi < 18446744073709551616) (hlo : lo < 18446744073709551616) (hL0 : -1200 ≤ L) (hL1 : L ≤ 1200) (hl0 : -5000 ≤ lp) (hl1 : lp ≤ 5000) (hlp : -L * 108853 / 32768 = lp) (hi2 : -L + 348 = i) (hi3 : i < 696)
    (hs : -(e + lp + 3) = (s : Int)) (hs1 : 3 ≤ s) (hs2 : s ≤ 58)
    (g0 : w.cell? ⟨3, i * 2, none⟩ = some (.int .u64 hi)) (g1 : w.cell? ⟨3, i * 2 + 1, none⟩ = some (.int .u64 lo)) (hG : 3 < w.heap.size) :
    Calls Tryd.prog 34 #[.int .u64 M, .int .i64 e] w fun r w' => ∃ d q, r = .returned (.tuple #[.int .u64 (d : Nat), .int .i64 q]) ∧ (d, q) = shortR (usc M hi lo s) (usc (M - 1024) hi lo s) (usc (M + 1024) hi lo s) (M / 2048 % 2) (-L) ∧ Below w.heap.size w w' := by
  have he1 : e ≤ 5000 := by omega
  have he0 : -5000 ≤ e := by omega
  obtain ⟨mn, hmn⟩ : ∃ mn, mn = M - 1024 := ⟨_, rfl⟩
  obtain ⟨mx, hmx⟩ : ∃ mx, mx = M + 1024 := ⟨_, rfl⟩
  obtain ⟨odd, hodd⟩ : ∃ odd, odd = M / 2048 % 2 := ⟨_, rfl⟩
  rw [← hmn, ← hmx, ← hodd]
  have hmn1 : 4611686018427387904 ≤ mn := by omega
  have hmn2 : mn < 18446744073709551616 := by omega
  have hmx1 : 4611686018427387904 ≤ mx := by omega
  have hmx2 : mx < 18446744073709551616 := by omega
  have hod : odd < 2 := by omega
  have v1 : (M : Int) - 1024 = (mn : Int) := by omega
  have v2 : (M : Int) + 1024 = (mx : Int) := by omega
  have v3 : bits .and .i64 ((M : Int) / 2048) 1 = (odd : Int) := by rw [i_and1 _ (by omega) (by omega)]; omega
  have HLG : Hid (∀ w : World, Calls Tryd.prog 29 #[.int .i64 (e + 11)] w fun r w' => r = .returned (.int .i64 L) ∧ w = w') := Lib.hid (fun w => by rw [← hL]; exact log10_any (e + 11) (by omega) (by omega) w)
  have hun := usc_seven mn hi lo s hmn1 hhi hs2
  have hux := usc_seven mx hi lo s hmx1 hhi hs2
  have hum := usc_seven M hi lo s (by omega) hhi hs2
  have hun2 := usc_lt mn hi lo s hmn2 hhi2 hs1
  have hux2 := usc_lt mx hi lo s hmx2 hhi2 hs1
  have hum2 := usc_lt M hi lo s (by omega) hhi2 hs1
  have HUM := Lib.hid (fun (b : Nat) (w : World) hb (n : Nat) => scaled M hi lo s b w (by omega) (by omega) hhi hhi2 hlo hs2 hb n)
  have HUN := Lib.hid (fun (b : Nat) (w : World) hb => scaled0 mn hi lo s b w hmn2 hmn1 hhi hhi2 hlo hs2 hb)
  have HUX := Lib.hid (fun (b : Nat) (w : World) hb (n : Nat) => scaled mx hi lo s b w hmx2 hmx1 hhi hhi2 hlo hs2 hb n)
  obtain ⟨um, hum0⟩ : ∃ um, um = usc M hi lo s := ⟨_, rfl⟩
  obtain ⟨un, hun0⟩ : ∃ un, un = usc mn hi lo s := ⟨_, rfl⟩
  obtain ⟨ux, hux0⟩ : ∃ ux, ux = usc mx hi lo s := ⟨_, rfl⟩
  rw [← hum0] at hum hum2 HUM ⊢
  rw [← hun0] at hun hun2 HUN ⊢
  rw [← hux0] at hux hux2 HUX ⊢
  clear hum0 hun0 hux0
  have HL2 : Hid (∀ w : World, Calls Tryd.prog 40 #[.int .i64 (-L)] w fun r w' => r = .returned (.int .i64 lp) ∧ w = w') := Lib.hid (fun w => by rw [← hlp]; exact log2_any (-L) (by omega) (by omega) w)
  have HPR := Lib.hid (prescale_any w.heap.size e (-L) lp i hi lo (w.alloc (.cells #[.int .u64 0, .int .u64 0, .int .i64 0] 80)) hi2 hi3 he0 he1 hl0 hl1 (cell_alloc g0 _) (cell_alloc g1 _) (heap_alloc_new _ _) hG)
  rw [hs] at HPR
  obtain ⟨DN, hDN⟩ : ∃ DN, DN = (un + odd + 3) / 4 := ⟨_, rfl⟩
  obtain ⟨DX, hDX⟩ : ∃ DX, DX = (ux - odd) / 4 := ⟨_, rfl⟩
  have hDNb : DN < 2305843009213693952 := by omega
  have hDXb : DX < 2305843009213693952 := by omega
  have HN1 : Hid (∀ w : World, Calls Tryd.prog 42 #[.int .u64 un, .int .i64 odd] w fun r w' => r = .returned (.int .u64 (un + odd : Nat)) ∧ w = w') := Lib.hid (fun w => by
    have h := nudge_any un (odd : Int) (by omega) (by omega) w
    rwa [show ((un : Int) + (odd : Int)) = ((un + odd : Nat) : Int) by omega] at h)
  have HN2 : Hid (∀ w : World, Calls Tryd.prog 42 #[.int .u64 ux, .int .i64 (-(odd : Int))] w fun r w' => r = .returned (.int .u64 (ux - odd : Nat)) ∧ w = w') := Lib.hid (fun w => by
    have h := nudge_any ux (-(odd : Int)) (by omega) (by omega) w
    rwa [show ((ux : Int) + -(odd : Int)) = ((ux - odd : Nat) : Int) by omega] at h)
  have HC : Hid (∀ w : World, Calls Tryd.prog 43 #[.int .u64 (un + odd : Nat)] w fun r w' => r = .returned (.int .u64 DN) ∧ w = w') := Lib.hid (fun w => by rw [hDN]; exact ceil_any (un + odd) (by omega) w)
  have HF : Hid (∀ w : World, Calls Tryd.prog 44 #[.int .u64 (ux - odd : Nat)] w fun r w' => r = .returned (.int .u64 DX) ∧ w = w') := Lib.hid (fun w => by rw [hDX]; exact floor_any (ux - odd) (by omega) w)
  have HRD : Hid (∀ w : World, Calls Tryd.prog 45 #[.int .u64 um] w fun r w' => r = .returned (.int .u64 ((um + 1 + um / 4 % 2) / 4 : Nat)) ∧ w = w') := Lib.hid (fun w => round_any um (by omega) w)
  obtain ⟨V1, hV1⟩ : ∃ V, V = un + odd := ⟨_, rfl⟩
  obtain ⟨V2, hV2⟩ : ∃ V, V = ux - odd := ⟨_, rfl⟩
  obtain ⟨RD, hRD⟩ : ∃ V, V = (um + 1 + um / 4 % 2) / 4 := ⟨_, rfl⟩
  rw [← hV1] at HN1 HC
  rw [← hV2] at HN2 HF
  rw [← hRD] at HRD
  have HK1 : Hid (DN ≤ DX / 10 * 10 → (DX / 10, -(-L - 1)) = shortR um un ux odd (-L)) := Lib.hid (fun h => by
    unfold shortR; rw [← hDN, ← hDX, if_pos h])
  have HK2 : Hid (¬ DN ≤ DX / 10 * 10 → DN < DX → (RD, L) = shortR um un ux odd (-L)) := Lib.hid (fun h h2 => by
    unfold shortR; rw [← hDN, ← hDX, if_neg h, if_pos h2, ← hRD, show - -L = L by omega])
  have HK3 : Hid (¬ DN ≤ DX / 10 * 10 → ¬ DN < DX → (DN, L) = shortR um un ux odd (-L)) := Lib.hid (fun h h2 => by
    unfold shortR; rw [← hDN, ← hDX, if_neg h, if_neg h2, show - -L = L by omega])
  clear hDN hDX hV1 hV2 hRD hun hun2 hux hux2 hum hum2 hhi hhi2 hlo hlp hmn1 hmn2 hmx1 hmx2 hi2 hi3 hs hs1 hs2 hmn hmx hodd hL
  by_cases k1 : DN ≤ DX / 10 * 10
  · have HK := Lib.hid (HK1.out k1)
    have u1 : decide ((DX : Int) / 10 * 10 ≥ (DN : Int)) = true := decide_eq_true (by omega)
    have u1n : decide (DX / 10 * 10 ≥ DN) = true := decide_eq_true k1
    have u1m : decide (DN ≤ DX / 10 * 10) = true := decide_eq_true k1
    clear k1
    · have z1 : ((M : Int) == 9223372036854775808) = false := by simp; omega
      have z2 : decide (e ≥ -1085) = true := decide_eq_true hE0
      go_enter Tryd.func34, Tryd.ntmps34
      go_wp2_with (first | (go_at_call 29; refine (HLG.out _).mono ?_; rintro r w2 ⟨rfl, rfl⟩) | (go_at_call 40; refine (HL2.out _).mono ?_; rintro r w2 ⟨rfl, rfl⟩) | (go_at_call 39; refine HPR.out.mono ?_; rintro r w2 ⟨rfl, hb2, hsz2, B2⟩; have HB2 := Lib.hid hb2; have HBW := Lib.hid (((Below.refl w.heap.size w).alloc (Nat.le_refl _) (.cells #[.int .u64 0, .int .u64 0, .int .i64 0] 80)).trans B2); have HU0 := Lib.hid (HUN.out _ w2 HB2.out); have HU1 := Lib.hid (fun n => HUX.out _ w2 HB2.out n); have HU2 := Lib.hid (fun n => HUM.out _ w2 HB2.out n); clear hb2 B2 hsz2) | (go_at_call 41; (with_reducible refine HU0.out.mono ?_); rintro r w3 ⟨rfl, n1, rfl⟩) | (go_at_call 41; (with_reducible refine (HU1.out _).mono ?_); rintro r w3 ⟨rfl, n2, rfl⟩) | (go_at_call 41; (with_reducible refine (HU2.out _).mono ?_); rintro r w3 ⟨rfl, n3, rfl⟩) | (go_at_call 42; (with_reducible refine (HN1.out _).mono ?_); rintro r w4 ⟨rfl, rfl⟩) | (go_at_call 42; (with_reducible refine (HN2.out _).mono ?_); rintro r w4 ⟨rfl, rfl⟩) | (go_at_call 43; refine (HC.out _).mono ?_; rintro r w4 ⟨rfl, rfl⟩) | (go_at_call 44; refine (HF.out _).mono ?_; rintro r w4 ⟨rfl, rfl⟩) | (go_at_call 45; refine (HRD.out _).mono ?_; rintro r w4 ⟨rfl, rfl⟩))
      go_ret2
      exact ⟨DX / 10, -(-L - 1), rfl, HK.out, below_drewN HBW.out _⟩
  have u1 : decide ((DX : Int) / 10 * 10 ≥ (DN : Int)) = false := decide_eq_false (by omega)
  have u1n : decide (DX / 10 * 10 ≥ DN) = false := decide_eq_false k1
  have u1m : decide (DN ≤ DX / 10 * 10) = false := decide_eq_false k1
  by_cases k2 : DN < DX
  · have HK := Lib.hid (HK2.out k1 k2)
    have u2 : decide ((DN : Int) < (DX : Int)) = true := decide_eq_true (by omega)
    have u2n : decide (DN < DX) = true := decide_eq_true k2
    clear k1 k2
    · have z1 : ((M : Int) == 9223372036854775808) = false := by simp; omega
      have z2 : decide (e ≥ -1085) = true := decide_eq_true hE0
      go_enter Tryd.func34, Tryd.ntmps34
      go_wp2_with (first | (go_at_call 29; refine (HLG.out _).mono ?_; rintro r w2 ⟨rfl, rfl⟩) | (go_at_call 40; refine (HL2.out _).mono ?_; rintro r w2 ⟨rfl, rfl⟩) | (go_at_call 39; refine HPR.out.mono ?_; rintro r w2 ⟨rfl, hb2, hsz2, B2⟩; have HB2 := Lib.hid hb2; have HBW := Lib.hid (((Below.refl w.heap.size w).alloc (Nat.le_refl _) (.cells #[.int .u64 0, .int .u64 0, .int .i64 0] 80)).trans B2); have HU0 := Lib.hid (HUN.out _ w2 HB2.out); have HU1 := Lib.hid (fun n => HUX.out _ w2 HB2.out n); have HU2 := Lib.hid (fun n => HUM.out _ w2 HB2.out n); clear hb2 B2 hsz2) | (go_at_call 41; (with_reducible refine HU0.out.mono ?_); rintro r w3 ⟨rfl, n1, rfl⟩) | (go_at_call 41; (with_reducible refine (HU1.out _).mono ?_); rintro r w3 ⟨rfl, n2, rfl⟩) | (go_at_call 41; (with_reducible refine (HU2.out _).mono ?_); rintro r w3 ⟨rfl, n3, rfl⟩) | (go_at_call 42; (with_reducible refine (HN1.out _).mono ?_); rintro r w4 ⟨rfl, rfl⟩) | (go_at_call 42; (with_reducible refine (HN2.out _).mono ?_); rintro r w4 ⟨rfl, rfl⟩) | (go_at_call 43; refine (HC.out _).mono ?_; rintro r w4 ⟨rfl, rfl⟩) | (go_at_call 44; refine (HF.out _).mono ?_; rintro r w4 ⟨rfl, rfl⟩) | (go_at_call 45; refine (HRD.out _).mono ?_; rintro r w4 ⟨rfl, rfl⟩))
      go_ret2
      exact ⟨RD, L, rfl, HK.out, below_drewN HBW.out _⟩
  · have HK := Lib.hid (HK3.out k1 k2)
    have u2 : decide ((DN : Int) < (DX : Int)) = false := decide_eq_false (by omega)
    have u2n : decide (DN < DX) = false := decide_eq_false k2
    clear k1 k2
    · have z1 : ((M : Int) == 9223372036854775808) = false := by simp; omega
      have z2 : decide (e ≥ -1085) = true := decide_eq_true hE0
      go_enter Tryd.func34, Tryd.ntmps34
      go_wp2_with (first | (go_at_call 29; refine (HLG.out _).mono ?_; rintro r w2 ⟨rfl, rfl⟩) | (go_at_call 40; refine (HL2.out _).mono ?_; rintro r w2 ⟨rfl, rfl⟩) | (go_at_call 39; refine HPR.out.mono ?_; rintro r w2 ⟨rfl, hb2, hsz2, B2⟩; have HB2 := Lib.hid hb2; have HBW := Lib.hid (((Below.refl w.heap.size w).alloc (Nat.le_refl _) (.cells #[.int .u64 0, .int .u64 0, .int .i64 0] 80)).trans B2); have HU0 := Lib.hid (HUN.out _ w2 HB2.out); have HU1 := Lib.hid (fun n => HUX.out _ w2 HB2.out n); have HU2 := Lib.hid (fun n => HUM.out _ w2 HB2.out n); clear hb2 B2 hsz2) | (go_at_call 41; (with_reducible refine HU0.out.mono ?_); rintro r w3 ⟨rfl, n1, rfl⟩) | (go_at_call 41; (with_reducible refine (HU1.out _).mono ?_); rintro r w3 ⟨rfl, n2, rfl⟩) | (go_at_call 41; (with_reducible refine (HU2.out _).mono ?_); rintro r w3 ⟨rfl, n3, rfl⟩) | (go_at_call 42; (with_reducible refine (HN1.out _).mono ?_); rintro r w4 ⟨rfl, rfl⟩) | (go_at_call 42; (with_reducible refine (HN2.out _).mono ?_); rintro r w4 ⟨rfl, rfl⟩) | (go_at_call 43; refine (HC.out _).mono ?_; rintro r w4 ⟨rfl, rfl⟩) | (go_at_call 44; refine (HF.out _).mono ?_; rintro r w4 ⟨rfl, rfl⟩) | (go_at_call 45; refine (HRD.out _).mono ?_; rintro r w4 ⟨rfl, rfl⟩))
      go_ret2
      exact ⟨DN, L, rfl, HK.out, below_drewN HBW.out _⟩


set_option maxRecDepth 100000 in
set_option maxHeartbeats 2000000 in
theorem short_A (M hi lo i s : Nat) (e L lp : Int) (w : World) (hM0 : M = 9223372036854775808) (hE0 : -1085 < e) (hE1 : e ≤ 1000) (hL : ((e + 11) * 631305 - 261663) / 2097152 = L)
    (hhi : 9223372036854775808 ≤ hi) (hhi2 : hi < 18446744073709551616) (hlo : lo < 18446744073709551616) (hL0 : -1200 ≤ L) (hL1 : L ≤ 1200) (hl0 : -5000 ≤ lp) (hl1 : lp ≤ 5000) (hlp : -L * 108853 / 32768 = lp) (hi2 : -L + 348 = i) (hi3 : i < 696)
    (hs : -(e + lp + 3) = (s : Int)) (hs1 : 3 ≤ s) (hs2 : s ≤ 58)
    (g0 : w.cell? ⟨3, i * 2, none⟩ = some (.int .u64 hi)) (g1 : w.cell? ⟨3, i * 2 + 1, none⟩ = some (.int .u64 lo)) (hG : 3 < w.heap.size) :
    Calls Tryd.prog 34 #[.int .u64 M, .int .i64 e] w fun r w' => ∃ d q, r = .returned (.tuple #[.int .u64 (d : Nat), .int .i64 q]) ∧ (d, q) = shortR (usc M hi lo s) (usc (M - 512) hi lo s) (usc (M + 1024) hi lo s) (M / 2048 % 2) (-L) ∧ Below w.heap.size w w' := by
  have he1 : e ≤ 5000 := by omega
  have he0 : -5000 ≤ e := by omega
  obtain ⟨mn, hmn⟩ : ∃ mn, mn = M - 512 := ⟨_, rfl⟩
  obtain ⟨mx, hmx⟩ : ∃ mx, mx = M + 1024 := ⟨_, rfl⟩
  obtain ⟨odd, hodd⟩ : ∃ odd, odd = M / 2048 % 2 := ⟨_, rfl⟩
  rw [← hmn, ← hmx, ← hodd]
  have hmn1 : 4611686018427387904 ≤ mn := by omega
  have hmn2 : mn < 18446744073709551616 := by omega
  have hmx1 : 4611686018427387904 ≤ mx := by omega
  have hmx2 : mx < 18446744073709551616 := by omega
  have hod : odd < 2 := by omega
  have hM9 : M < 18446744073709550000 := by omega
  have hM8 : 9223372036854775000 < M := by omega
  have z1 : ((M : Int) == 9223372036854775808) = true := by simp; omega
  have v1 : (M : Int) - 512 = (mn : Int) := by omega
  have v2 : (M : Int) + 1024 = (mx : Int) := by omega
  have v3 : bits .and .i64 ((M : Int) / 2048) 1 = (odd : Int) := by rw [i_and1 _ (by omega) (by omega)]; omega
  have HLG : Hid (∀ w : World, Calls Tryd.prog 38 #[.int .i64 (e + 11)] w fun r w' => r = .returned (.int .i64 L) ∧ w = w') := Lib.hid (fun w => by rw [← hL]; exact skewed_any (e + 11) (by omega) (by omega) w)
  have hun := usc_seven mn hi lo s hmn1 hhi hs2
  have hux := usc_seven mx hi lo s hmx1 hhi hs2
  have hum := usc_seven M hi lo s (by omega) hhi hs2
  have hun2 := usc_lt mn hi lo s hmn2 hhi2 hs1
  have hux2 := usc_lt mx hi lo s hmx2 hhi2 hs1
  have hum2 := usc_lt M hi lo s (by omega) hhi2 hs1
  have HUM := Lib.hid (fun (b : Nat) (w : World) hb (n : Nat) => scaled M hi lo s b w (by omega) (by omega) hhi hhi2 hlo hs2 hb n)
  have HUN := Lib.hid (fun (b : Nat) (w : World) hb => scaled0 mn hi lo s b w hmn2 hmn1 hhi hhi2 hlo hs2 hb)
  have HUX := Lib.hid (fun (b : Nat) (w : World) hb (n : Nat) => scaled mx hi lo s b w hmx2 hmx1 hhi hhi2 hlo hs2 hb n)
  obtain ⟨um, hum0⟩ : ∃ um, um = usc M hi lo s := ⟨_, rfl⟩
  obtain ⟨un, hun0⟩ : ∃ un, un = usc mn hi lo s := ⟨_, rfl⟩
  obtain ⟨ux, hux0⟩ : ∃ ux, ux = usc mx hi lo s := ⟨_, rfl⟩
  rw [← hum0] at hum hum2 HUM ⊢
  rw [← hun0] at hun hun2 HUN ⊢
  rw [← hux0] at hux hux2 HUX ⊢
  clear hum0 hun0 hux0
  have HL2 : Hid (∀ w : World, Calls Tryd.prog 40 #[.int .i64 (-L)] w fun r w' => r = .returned (.int .i64 lp) ∧ w = w') := Lib.hid (fun w => by rw [← hlp]; exact log2_any (-L) (by omega) (by omega) w)
  have HPR := Lib.hid (prescale_any w.heap.size e (-L) lp i hi lo (w.alloc (.cells #[.int .u64 0, .int .u64 0, .int .i64 0] 80)) hi2 hi3 he0 he1 hl0 hl1 (cell_alloc g0 _) (cell_alloc g1 _) (heap_alloc_new _ _) hG)
  rw [hs] at HPR
  obtain ⟨DN, hDN⟩ : ∃ DN, DN = (un + odd + 3) / 4 := ⟨_, rfl⟩
  obtain ⟨DX, hDX⟩ : ∃ DX, DX = (ux - odd) / 4 := ⟨_, rfl⟩
  have hDNb : DN < 2305843009213693952 := by omega
  have hDXb : DX < 2305843009213693952 := by omega
  have HN1 : Hid (∀ w : World, Calls Tryd.prog 42 #[.int .u64 un, .int .i64 odd] w fun r w' => r = .returned (.int .u64 (un + odd : Nat)) ∧ w = w') := Lib.hid (fun w => by
    have h := nudge_any un (odd : Int) (by omega) (by omega) w
    rwa [show ((un : Int) + (odd : Int)) = ((un + odd : Nat) : Int) by omega] at h)
  have HN2 : Hid (∀ w : World, Calls Tryd.prog 42 #[.int .u64 ux, .int .i64 (-(odd : Int))] w fun r w' => r = .returned (.int .u64 (ux - odd : Nat)) ∧ w = w') := Lib.hid (fun w => by
    have h := nudge_any ux (-(odd : Int)) (by omega) (by omega) w
    rwa [show ((ux : Int) + -(odd : Int)) = ((ux - odd : Nat) : Int) by omega] at h)
  have HC : Hid (∀ w : World, Calls Tryd.prog 43 #[.int .u64 (un + odd : Nat)] w fun r w' => r = .returned (.int .u64 DN) ∧ w = w') := Lib.hid (fun w => by rw [hDN]; exact ceil_any (un + odd) (by omega) w)
  have HF : Hid (∀ w : World, Calls Tryd.prog 44 #[.int .u64 (ux - odd : Nat)] w fun r w' => r = .returned (.int .u64 DX) ∧ w = w') := Lib.hid (fun w => by rw [hDX]; exact floor_any (ux - odd) (by omega) w)
  have HRD : Hid (∀ w : World, Calls Tryd.prog 45 #[.int .u64 um] w fun r w' => r = .returned (.int .u64 ((um + 1 + um / 4 % 2) / 4 : Nat)) ∧ w = w') := Lib.hid (fun w => round_any um (by omega) w)
  obtain ⟨V1, hV1⟩ : ∃ V, V = un + odd := ⟨_, rfl⟩
  obtain ⟨V2, hV2⟩ : ∃ V, V = ux - odd := ⟨_, rfl⟩
  obtain ⟨RD, hRD⟩ : ∃ V, V = (um + 1 + um / 4 % 2) / 4 := ⟨_, rfl⟩
  rw [← hV1] at HN1 HC
  rw [← hV2] at HN2 HF
  rw [← hRD] at HRD
  have HK1 : Hid (DN ≤ DX / 10 * 10 → (DX / 10, -(-L - 1)) = shortR um un ux odd (-L)) := Lib.hid (fun h => by
    unfold shortR; rw [← hDN, ← hDX, if_pos h])
  have HK2 : Hid (¬ DN ≤ DX / 10 * 10 → DN < DX → (RD, L) = shortR um un ux odd (-L)) := Lib.hid (fun h h2 => by
    unfold shortR; rw [← hDN, ← hDX, if_neg h, if_pos h2, ← hRD, show - -L = L by omega])
  have HK3 : Hid (¬ DN ≤ DX / 10 * 10 → ¬ DN < DX → (DN, L) = shortR um un ux odd (-L)) := Lib.hid (fun h h2 => by
    unfold shortR; rw [← hDN, ← hDX, if_neg h, if_neg h2, show - -L = L by omega])
  clear hDN hDX hV1 hV2 hRD hun hun2 hux hux2 hum hum2 hhi hhi2 hlo hlp hmn1 hmn2 hmx1 hmx2 hi2 hi3 hs hs1 hs2 hmn hmx hodd hL hM0
  by_cases k1 : DN ≤ DX / 10 * 10
  · have HK := Lib.hid (HK1.out k1)
    have u1 : decide ((DX : Int) / 10 * 10 ≥ (DN : Int)) = true := decide_eq_true (by omega)
    have u1n : decide (DX / 10 * 10 ≥ DN) = true := decide_eq_true k1
    have u1m : decide (DN ≤ DX / 10 * 10) = true := decide_eq_true k1
    clear k1
    · have z2 : decide (e > -1085) = true := decide_eq_true hE0
      go_enter Tryd.func34, Tryd.ntmps34
      go_wp2_with (first | (go_at_call 38; refine (HLG.out _).mono ?_; rintro r w2 ⟨rfl, rfl⟩) | (go_at_call 40; refine (HL2.out _).mono ?_; rintro r w2 ⟨rfl, rfl⟩) | (go_at_call 39; refine HPR.out.mono ?_; rintro r w2 ⟨rfl, hb2, hsz2, B2⟩; have HB2 := Lib.hid hb2; have HBW := Lib.hid (((Below.refl w.heap.size w).alloc (Nat.le_refl _) (.cells #[.int .u64 0, .int .u64 0, .int .i64 0] 80)).trans B2); have HU0 := Lib.hid (HUN.out _ w2 HB2.out); have HU1 := Lib.hid (fun n => HUX.out _ w2 HB2.out n); have HU2 := Lib.hid (fun n => HUM.out _ w2 HB2.out n); clear hb2 B2 hsz2) | (go_at_call 41; (with_reducible refine HU0.out.mono ?_); rintro r w3 ⟨rfl, n1, rfl⟩) | (go_at_call 41; (with_reducible refine (HU1.out _).mono ?_); rintro r w3 ⟨rfl, n2, rfl⟩) | (go_at_call 41; (with_reducible refine (HU2.out _).mono ?_); rintro r w3 ⟨rfl, n3, rfl⟩) | (go_at_call 42; (with_reducible refine (HN1.out _).mono ?_); rintro r w4 ⟨rfl, rfl⟩) | (go_at_call 42; (with_reducible refine (HN2.out _).mono ?_); rintro r w4 ⟨rfl, rfl⟩) | (go_at_call 43; refine (HC.out _).mono ?_; rintro r w4 ⟨rfl, rfl⟩) | (go_at_call 44; refine (HF.out _).mono ?_; rintro r w4 ⟨rfl, rfl⟩) | (go_at_call 45; refine (HRD.out _).mono ?_; rintro r w4 ⟨rfl, rfl⟩))
      go_ret2
      exact ⟨DX / 10, -(-L - 1), rfl, HK.out, below_drewN HBW.out _⟩
  have u1 : decide ((DX : Int) / 10 * 10 ≥ (DN : Int)) = false := decide_eq_false (by omega)
  have u1n : decide (DX / 10 * 10 ≥ DN) = false := decide_eq_false k1
  have u1m : decide (DN ≤ DX / 10 * 10) = false := decide_eq_false k1
  by_cases k2 : DN < DX
  · have HK := Lib.hid (HK2.out k1 k2)
    have u2 : decide ((DN : Int) < (DX : Int)) = true := decide_eq_true (by omega)
    have u2n : decide (DN < DX) = true := decide_eq_true k2
    clear k1 k2
    · have z2 : decide (e > -1085) = true := decide_eq_true hE0
      go_enter Tryd.func34, Tryd.ntmps34
      go_wp2_with (first | (go_at_call 38; refine (HLG.out _).mono ?_; rintro r w2 ⟨rfl, rfl⟩) | (go_at_call 40; refine (HL2.out _).mono ?_; rintro r w2 ⟨rfl, rfl⟩) | (go_at_call 39; refine HPR.out.mono ?_; rintro r w2 ⟨rfl, hb2, hsz2, B2⟩; have HB2 := Lib.hid hb2; have HBW := Lib.hid (((Below.refl w.heap.size w).alloc (Nat.le_refl _) (.cells #[.int .u64 0, .int .u64 0, .int .i64 0] 80)).trans B2); have HU0 := Lib.hid (HUN.out _ w2 HB2.out); have HU1 := Lib.hid (fun n => HUX.out _ w2 HB2.out n); have HU2 := Lib.hid (fun n => HUM.out _ w2 HB2.out n); clear hb2 B2 hsz2) | (go_at_call 41; (with_reducible refine HU0.out.mono ?_); rintro r w3 ⟨rfl, n1, rfl⟩) | (go_at_call 41; (with_reducible refine (HU1.out _).mono ?_); rintro r w3 ⟨rfl, n2, rfl⟩) | (go_at_call 41; (with_reducible refine (HU2.out _).mono ?_); rintro r w3 ⟨rfl, n3, rfl⟩) | (go_at_call 42; (with_reducible refine (HN1.out _).mono ?_); rintro r w4 ⟨rfl, rfl⟩) | (go_at_call 42; (with_reducible refine (HN2.out _).mono ?_); rintro r w4 ⟨rfl, rfl⟩) | (go_at_call 43; refine (HC.out _).mono ?_; rintro r w4 ⟨rfl, rfl⟩) | (go_at_call 44; refine (HF.out _).mono ?_; rintro r w4 ⟨rfl, rfl⟩) | (go_at_call 45; refine (HRD.out _).mono ?_; rintro r w4 ⟨rfl, rfl⟩))
      go_ret2
      exact ⟨RD, L, rfl, HK.out, below_drewN HBW.out _⟩
  · have HK := Lib.hid (HK3.out k1 k2)
    have u2 : decide ((DN : Int) < (DX : Int)) = false := decide_eq_false (by omega)
    have u2n : decide (DN < DX) = false := decide_eq_false k2
    clear k1 k2
    · have z2 : decide (e > -1085) = true := decide_eq_true hE0
      go_enter Tryd.func34, Tryd.ntmps34
      go_wp2_with (first | (go_at_call 38; refine (HLG.out _).mono ?_; rintro r w2 ⟨rfl, rfl⟩) | (go_at_call 40; refine (HL2.out _).mono ?_; rintro r w2 ⟨rfl, rfl⟩) | (go_at_call 39; refine HPR.out.mono ?_; rintro r w2 ⟨rfl, hb2, hsz2, B2⟩; have HB2 := Lib.hid hb2; have HBW := Lib.hid (((Below.refl w.heap.size w).alloc (Nat.le_refl _) (.cells #[.int .u64 0, .int .u64 0, .int .i64 0] 80)).trans B2); have HU0 := Lib.hid (HUN.out _ w2 HB2.out); have HU1 := Lib.hid (fun n => HUX.out _ w2 HB2.out n); have HU2 := Lib.hid (fun n => HUM.out _ w2 HB2.out n); clear hb2 B2 hsz2) | (go_at_call 41; (with_reducible refine HU0.out.mono ?_); rintro r w3 ⟨rfl, n1, rfl⟩) | (go_at_call 41; (with_reducible refine (HU1.out _).mono ?_); rintro r w3 ⟨rfl, n2, rfl⟩) | (go_at_call 41; (with_reducible refine (HU2.out _).mono ?_); rintro r w3 ⟨rfl, n3, rfl⟩) | (go_at_call 42; (with_reducible refine (HN1.out _).mono ?_); rintro r w4 ⟨rfl, rfl⟩) | (go_at_call 42; (with_reducible refine (HN2.out _).mono ?_); rintro r w4 ⟨rfl, rfl⟩) | (go_at_call 43; refine (HC.out _).mono ?_; rintro r w4 ⟨rfl, rfl⟩) | (go_at_call 44; refine (HF.out _).mono ?_; rintro r w4 ⟨rfl, rfl⟩) | (go_at_call 45; refine (HRD.out _).mono ?_; rintro r w4 ⟨rfl, rfl⟩))
      go_ret2
      exact ⟨DN, L, rfl, HK.out, below_drewN HBW.out _⟩


set_option maxRecDepth 100000 in
set_option maxHeartbeats 2000000 in
theorem short_C (M hi lo i s z : Nat) (e L lp : Int) (w : World) (hM0 : 9223372036854775808 ≤ M) (hMM : M < 18446744073709551616) (hM1 : M + 2 ^ (z - 1) < 18446744073709551616) (hz0 : 12 ≤ z) (hz1 : z ≤ 63) (hez : e = -1074 - (z : Int)) (hL : (e + (z : Int)) * 78913 / 262144 = L)
    (hhi : 9223372036854775808 ≤ hi) (hhi2 : hi < 18446744073709551616) (hlo : lo < 18446744073709551616) (hL0 : -1200 ≤ L) (hL1 : L ≤ 1200) (hl0 : -5000 ≤ lp) (hl1 : lp ≤ 5000) (hlp : -L * 108853 / 32768 = lp) (hi2 : -L + 348 = i) (hi3 : i < 696)
    (hs : -(e + lp + 3) = (s : Int)) (hs1 : 3 ≤ s) (hs2 : s ≤ 58)
    (g0 : w.cell? ⟨3, i * 2, none⟩ = some (.int .u64 hi)) (g1 : w.cell? ⟨3, i * 2 + 1, none⟩ = some (.int .u64 lo)) (hG : 3 < w.heap.size) :
    Calls Tryd.prog 34 #[.int .u64 M, .int .i64 e] w fun r w' => ∃ d q, r = .returned (.tuple #[.int .u64 (d : Nat), .int .i64 q]) ∧ (d, q) = shortR (usc M hi lo s) (usc (M - 2 ^ (z - 1)) hi lo s) (usc (M + 2 ^ (z - 1)) hi lo s) (M / 2 ^ z % 2) (-L) ∧ Below w.heap.size w w' := by
  have he1 : e ≤ 5000 := by omega
  have he0 : -5000 ≤ e := by omega
  have hK0 : 2 ^ (z - 1) ≤ 2 ^ 62 := Nat.pow_le_pow_right (by decide) (by omega)
  have hK2 : 2 ^ (z - 1) * 2 = 2 ^ z := by rw [← Nat.pow_succ]; congr 1; omega
  obtain ⟨K, hK⟩ : ∃ K, K = 2 ^ (z - 1) := ⟨_, rfl⟩
  obtain ⟨mn, hmn⟩ : ∃ mn, mn = M - 2 ^ (z - 1) := ⟨_, rfl⟩
  obtain ⟨mx, hmx⟩ : ∃ mx, mx = M + 2 ^ (z - 1) := ⟨_, rfl⟩
  obtain ⟨Q, hQ⟩ : ∃ Q, Q = M / 2 ^ z := ⟨_, rfl⟩
  obtain ⟨odd, hodd⟩ : ∃ odd, odd = M / 2 ^ z % 2 := ⟨_, rfl⟩
  rw [← hmn, ← hmx, ← hodd]
  rw [← hQ] at hodd
  rw [← hK] at hmn hmx hM1 hK0 hK2
  have hK4 : 4096 ≤ 2 ^ z := Nat.le_trans (by decide) (Nat.pow_le_pow_right (n := 2) (by decide) hz0)
  have hQ1 : Q < 9007199254740992 := by
    rw [hQ]
    refine Nat.div_lt_of_lt_mul ?_
    have := Nat.mul_le_mul_right 9007199254740992 hK4
    omega
  have hmn1 : 4611686018427387904 ≤ mn := by omega
  have hmn2 : mn < 18446744073709551616 := by omega
  have hmx1 : 4611686018427387904 ≤ mx := by omega
  have hmx2 : mx < 18446744073709551616 := by omega
  have hod : odd < 2 := by omega
  have y1 : -1085 - e = (z : Int) - 11 := by omega
  have y2 : 11 + ((z : Int) - 11) = (z : Int) := by omega
  have y3 : ((z : Int) - 1).toNat = z - 1 := by omega
  have y4 : (2 : Int) ^ (z - 1) = (K : Int) := by rw [hK, Int.natCast_pow]; rfl
  have y5 : (M : Int) / 2 ^ z = (Q : Int) := by rw [div_pow, ← hQ]
  have z2 : decide (e ≥ -1085) = false := decide_eq_false (by omega)
  have z3 : decide (e > -1085) = false := decide_eq_false (by omega)
  have v1 : (M : Int) - (K : Int) = (mn : Int) := by omega
  have v2 : (M : Int) + (K : Int) = (mx : Int) := by omega
  have v2w : IntKind.u64.wrap (mx : Int) = (mx : Int) := by rw [IntKind.wrap_u64]; omega
  have v3 : bits .and .i64 (Q : Int) 1 = (odd : Int) := by rw [i_and1 _ (by omega) (by omega)]; omega
  have HLG : Hid (∀ w : World, Calls Tryd.prog 29 #[.int .i64 (e + (z : Int))] w fun r w' => r = .returned (.int .i64 L) ∧ w = w') := Lib.hid (fun w => by rw [← hL]; exact log10_any (e + (z : Int)) (by omega) (by omega) w)
  have hz9 : (1 : Int) ≤ (z : Int) := by omega
  have hz8 : (z : Int) < 64 := by omega
  have hun := usc_seven mn hi lo s hmn1 hhi hs2
  have hux := usc_seven mx hi lo s hmx1 hhi hs2
  have hum := usc_seven M hi lo s (by omega) hhi hs2
  have hun2 := usc_lt mn hi lo s hmn2 hhi2 hs1
  have hux2 := usc_lt mx hi lo s hmx2 hhi2 hs1
  have hum2 := usc_lt M hi lo s (by omega) hhi2 hs1
  have HUM := Lib.hid (fun (b : Nat) (w : World) hb (n : Nat) => scaled M hi lo s b w (by omega) (by omega) hhi hhi2 hlo hs2 hb n)
  have HUN := Lib.hid (fun (b : Nat) (w : World) hb => scaled0 mn hi lo s b w hmn2 hmn1 hhi hhi2 hlo hs2 hb)
  have HUX := Lib.hid (fun (b : Nat) (w : World) hb (n : Nat) => scaled mx hi lo s b w hmx2 hmx1 hhi hhi2 hlo hs2 hb n)
  obtain ⟨um, hum0⟩ : ∃ um, um = usc M hi lo s := ⟨_, rfl⟩
  obtain ⟨un, hun0⟩ : ∃ un, un = usc mn hi lo s := ⟨_, rfl⟩
  obtain ⟨ux, hux0⟩ : ∃ ux, ux = usc mx hi lo s := ⟨_, rfl⟩
  rw [← hum0] at hum hum2 HUM ⊢
  rw [← hun0] at hun hun2 HUN ⊢
  rw [← hux0] at hux hux2 HUX ⊢
  clear hum0 hun0 hux0
  have HL2 : Hid (∀ w : World, Calls Tryd.prog 40 #[.int .i64 (-L)] w fun r w' => r = .returned (.int .i64 lp) ∧ w = w') := Lib.hid (fun w => by rw [← hlp]; exact log2_any (-L) (by omega) (by omega) w)
  have HPR := Lib.hid (prescale_any w.heap.size e (-L) lp i hi lo (w.alloc (.cells #[.int .u64 0, .int .u64 0, .int .i64 0] 80)) hi2 hi3 he0 he1 hl0 hl1 (cell_alloc g0 _) (cell_alloc g1 _) (heap_alloc_new _ _) hG)
  rw [hs] at HPR
  obtain ⟨DN, hDN⟩ : ∃ DN, DN = (un + odd + 3) / 4 := ⟨_, rfl⟩
  obtain ⟨DX, hDX⟩ : ∃ DX, DX = (ux - odd) / 4 := ⟨_, rfl⟩
  have hDNb : DN < 2305843009213693952 := by omega
  have hDXb : DX < 2305843009213693952 := by omega
  have HN1 : Hid (∀ w : World, Calls Tryd.prog 42 #[.int .u64 un, .int .i64 odd] w fun r w' => r = .returned (.int .u64 (un + odd : Nat)) ∧ w = w') := Lib.hid (fun w => by
    have h := nudge_any un (odd : Int) (by omega) (by omega) w
    rwa [show ((un : Int) + (odd : Int)) = ((un + odd : Nat) : Int) by omega] at h)
  have HN2 : Hid (∀ w : World, Calls Tryd.prog 42 #[.int .u64 ux, .int .i64 (-(odd : Int))] w fun r w' => r = .returned (.int .u64 (ux - odd : Nat)) ∧ w = w') := Lib.hid (fun w => by
    have h := nudge_any ux (-(odd : Int)) (by omega) (by omega) w
    rwa [show ((ux : Int) + -(odd : Int)) = ((ux - odd : Nat) : Int) by omega] at h)
  have HC : Hid (∀ w : World, Calls Tryd.prog 43 #[.int .u64 (un + odd : Nat)] w fun r w' => r = .returned (.int .u64 DN) ∧ w = w') := Lib.hid (fun w => by rw [hDN]; exact ceil_any (un + odd) (by omega) w)
  have HF : Hid (∀ w : World, Calls Tryd.prog 44 #[.int .u64 (ux - odd : Nat)] w fun r w' => r = .returned (.int .u64 DX) ∧ w = w') := Lib.hid (fun w => by rw [hDX]; exact floor_any (ux - odd) (by omega) w)
  have HRD : Hid (∀ w : World, Calls Tryd.prog 45 #[.int .u64 um] w fun r w' => r = .returned (.int .u64 ((um + 1 + um / 4 % 2) / 4 : Nat)) ∧ w = w') := Lib.hid (fun w => round_any um (by omega) w)
  obtain ⟨V1, hV1⟩ : ∃ V, V = un + odd := ⟨_, rfl⟩
  obtain ⟨V2, hV2⟩ : ∃ V, V = ux - odd := ⟨_, rfl⟩
  obtain ⟨RD, hRD⟩ : ∃ V, V = (um + 1 + um / 4 % 2) / 4 := ⟨_, rfl⟩
  rw [← hV1] at HN1 HC
  rw [← hV2] at HN2 HF
  rw [← hRD] at HRD
  have HK1 : Hid (DN ≤ DX / 10 * 10 → (DX / 10, -(-L - 1)) = shortR um un ux odd (-L)) := Lib.hid (fun h => by
    unfold shortR; rw [← hDN, ← hDX, if_pos h])
  have HK2 : Hid (¬ DN ≤ DX / 10 * 10 → DN < DX → (RD, L) = shortR um un ux odd (-L)) := Lib.hid (fun h h2 => by
    unfold shortR; rw [← hDN, ← hDX, if_neg h, if_pos h2, ← hRD, show - -L = L by omega])
  have HK3 : Hid (¬ DN ≤ DX / 10 * 10 → ¬ DN < DX → (DN, L) = shortR um un ux odd (-L)) := Lib.hid (fun h h2 => by
    unfold shortR; rw [← hDN, ← hDX, if_neg h, if_neg h2, show - -L = L by omega])
  clear hDN hDX hV1 hV2 hRD hun hun2 hux hux2 hum hum2 hhi hhi2 hlo hlp hmn1 hmn2 hmx1 hmx2 hi2 hi3 hs hs1 hs2 hmn hmx hodd hL hK hQ hK0 hK2 hK4 hM1 hez
  by_cases k1 : DN ≤ DX / 10 * 10
  · have HK := Lib.hid (HK1.out k1)
    have u1 : decide ((DX : Int) / 10 * 10 ≥ (DN : Int)) = true := decide_eq_true (by omega)
    have u1n : decide (DX / 10 * 10 ≥ DN) = true := decide_eq_true k1
    have u1m : decide (DN ≤ DX / 10 * 10) = true := decide_eq_true k1
    clear k1
    · by_cases qM : M = 9223372036854775808
      · have z1 : ((M : Int) == 9223372036854775808) = true := by simp; omega
        clear qM
        go_enter Tryd.func34, Tryd.ntmps34
        go_wp2_with (first | (go_at_call 29; refine (HLG.out _).mono ?_; rintro r w2 ⟨rfl, rfl⟩) | (go_at_call 40; refine (HL2.out _).mono ?_; rintro r w2 ⟨rfl, rfl⟩) | (go_at_call 39; refine HPR.out.mono ?_; rintro r w2 ⟨rfl, hb2, hsz2, B2⟩; have HB2 := Lib.hid hb2; have HBW := Lib.hid (((Below.refl w.heap.size w).alloc (Nat.le_refl _) (.cells #[.int .u64 0, .int .u64 0, .int .i64 0] 80)).trans B2); have HU0 := Lib.hid (HUN.out _ w2 HB2.out); have HU1 := Lib.hid (fun n => HUX.out _ w2 HB2.out n); have HU2 := Lib.hid (fun n => HUM.out _ w2 HB2.out n); clear hb2 B2 hsz2) | (go_at_call 41; (with_reducible refine HU0.out.mono ?_); rintro r w3 ⟨rfl, n1, rfl⟩) | (go_at_call 41; (with_reducible refine (HU1.out _).mono ?_); rintro r w3 ⟨rfl, n2, rfl⟩) | (go_at_call 41; (with_reducible refine (HU2.out _).mono ?_); rintro r w3 ⟨rfl, n3, rfl⟩) | (go_at_call 42; (with_reducible refine (HN1.out _).mono ?_); rintro r w4 ⟨rfl, rfl⟩) | (go_at_call 42; (with_reducible refine (HN2.out _).mono ?_); rintro r w4 ⟨rfl, rfl⟩) | (go_at_call 43; refine (HC.out _).mono ?_; rintro r w4 ⟨rfl, rfl⟩) | (go_at_call 44; refine (HF.out _).mono ?_; rintro r w4 ⟨rfl, rfl⟩) | (go_at_call 45; refine (HRD.out _).mono ?_; rintro r w4 ⟨rfl, rfl⟩))
        go_ret2
        exact ⟨DX / 10, -(-L - 1), rfl, HK.out, below_drewN HBW.out _⟩
      · have z1 : ((M : Int) == 9223372036854775808) = false := by simp; omega
        clear qM
        go_enter Tryd.func34, Tryd.ntmps34
        go_wp2_with (first | (go_at_call 29; refine (HLG.out _).mono ?_; rintro r w2 ⟨rfl, rfl⟩) | (go_at_call 40; refine (HL2.out _).mono ?_; rintro r w2 ⟨rfl, rfl⟩) | (go_at_call 39; refine HPR.out.mono ?_; rintro r w2 ⟨rfl, hb2, hsz2, B2⟩; have HB2 := Lib.hid hb2; have HBW := Lib.hid (((Below.refl w.heap.size w).alloc (Nat.le_refl _) (.cells #[.int .u64 0, .int .u64 0, .int .i64 0] 80)).trans B2); have HU0 := Lib.hid (HUN.out _ w2 HB2.out); have HU1 := Lib.hid (fun n => HUX.out _ w2 HB2.out n); have HU2 := Lib.hid (fun n => HUM.out _ w2 HB2.out n); clear hb2 B2 hsz2) | (go_at_call 41; (with_reducible refine HU0.out.mono ?_); rintro r w3 ⟨rfl, n1, rfl⟩) | (go_at_call 41; (with_reducible refine (HU1.out _).mono ?_); rintro r w3 ⟨rfl, n2, rfl⟩) | (go_at_call 41; (with_reducible refine (HU2.out _).mono ?_); rintro r w3 ⟨rfl, n3, rfl⟩) | (go_at_call 42; (with_reducible refine (HN1.out _).mono ?_); rintro r w4 ⟨rfl, rfl⟩) | (go_at_call 42; (with_reducible refine (HN2.out _).mono ?_); rintro r w4 ⟨rfl, rfl⟩) | (go_at_call 43; refine (HC.out _).mono ?_; rintro r w4 ⟨rfl, rfl⟩) | (go_at_call 44; refine (HF.out _).mono ?_; rintro r w4 ⟨rfl, rfl⟩) | (go_at_call 45; refine (HRD.out _).mono ?_; rintro r w4 ⟨rfl, rfl⟩))
        go_ret2
        exact ⟨DX / 10, -(-L - 1), rfl, HK.out, below_drewN HBW.out _⟩
  have u1 : decide ((DX : Int) / 10 * 10 ≥ (DN : Int)) = false := decide_eq_false (by omega)
  have u1n : decide (DX / 10 * 10 ≥ DN) = false := decide_eq_false k1
  have u1m : decide (DN ≤ DX / 10 * 10) = false := decide_eq_false k1
  by_cases k2 : DN < DX
  · have HK := Lib.hid (HK2.out k1 k2)
    have u2 : decide ((DN : Int) < (DX : Int)) = true := decide_eq_true (by omega)
    have u2n : decide (DN < DX) = true := decide_eq_true k2
    clear k1 k2
    · by_cases qM : M = 9223372036854775808
      · have z1 : ((M : Int) == 9223372036854775808) = true := by simp; omega
        clear qM
        go_enter Tryd.func34, Tryd.ntmps34
        go_wp2_with (first | (go_at_call 29; refine (HLG.out _).mono ?_; rintro r w2 ⟨rfl, rfl⟩) | (go_at_call 40; refine (HL2.out _).mono ?_; rintro r w2 ⟨rfl, rfl⟩) | (go_at_call 39; refine HPR.out.mono ?_; rintro r w2 ⟨rfl, hb2, hsz2, B2⟩; have HB2 := Lib.hid hb2; have HBW := Lib.hid (((Below.refl w.heap.size w).alloc (Nat.le_refl _) (.cells #[.int .u64 0, .int .u64 0, .int .i64 0] 80)).trans B2); have HU0 := Lib.hid (HUN.out _ w2 HB2.out); have HU1 := Lib.hid (fun n => HUX.out _ w2 HB2.out n); have HU2 := Lib.hid (fun n => HUM.out _ w2 HB2.out n); clear hb2 B2 hsz2) | (go_at_call 41; (with_reducible refine HU0.out.mono ?_); rintro r w3 ⟨rfl, n1, rfl⟩) | (go_at_call 41; (with_reducible refine (HU1.out _).mono ?_); rintro r w3 ⟨rfl, n2, rfl⟩) | (go_at_call 41; (with_reducible refine (HU2.out _).mono ?_); rintro r w3 ⟨rfl, n3, rfl⟩) | (go_at_call 42; (with_reducible refine (HN1.out _).mono ?_); rintro r w4 ⟨rfl, rfl⟩) | (go_at_call 42; (with_reducible refine (HN2.out _).mono ?_); rintro r w4 ⟨rfl, rfl⟩) | (go_at_call 43; refine (HC.out _).mono ?_; rintro r w4 ⟨rfl, rfl⟩) | (go_at_call 44; refine (HF.out _).mono ?_; rintro r w4 ⟨rfl, rfl⟩) | (go_at_call 45; refine (HRD.out _).mono ?_; rintro r w4 ⟨rfl, rfl⟩))
        go_ret2
        exact ⟨RD, L, rfl, HK.out, below_drewN HBW.out _⟩
      · have z1 : ((M : Int) == 9223372036854775808) = false := by simp; omega
        clear qM
        go_enter Tryd.func34, Tryd.ntmps34
        go_wp2_with (first | (go_at_call 29; refine (HLG.out _).mono ?_; rintro r w2 ⟨rfl, rfl⟩) | (go_at_call 40; refine (HL2.out _).mono ?_; rintro r w2 ⟨rfl, rfl⟩) | (go_at_call 39; refine HPR.out.mono ?_; rintro r w2 ⟨rfl, hb2, hsz2, B2⟩; have HB2 := Lib.hid hb2; have HBW := Lib.hid (((Below.refl w.heap.size w).alloc (Nat.le_refl _) (.cells #[.int .u64 0, .int .u64 0, .int .i64 0] 80)).trans B2); have HU0 := Lib.hid (HUN.out _ w2 HB2.out); have HU1 := Lib.hid (fun n => HUX.out _ w2 HB2.out n); have HU2 := Lib.hid (fun n => HUM.out _ w2 HB2.out n); clear hb2 B2 hsz2) | (go_at_call 41; (with_reducible refine HU0.out.mono ?_); rintro r w3 ⟨rfl, n1, rfl⟩) | (go_at_call 41; (with_reducible refine (HU1.out _).mono ?_); rintro r w3 ⟨rfl, n2, rfl⟩) | (go_at_call 41; (with_reducible refine (HU2.out _).mono ?_); rintro r w3 ⟨rfl, n3, rfl⟩) | (go_at_call 42; (with_reducible refine (HN1.out _).mono ?_); rintro r w4 ⟨rfl, rfl⟩) | (go_at_call 42; (with_reducible refine (HN2.out _).mono ?_); rintro r w4 ⟨rfl, rfl⟩) | (go_at_call 43; refine (HC.out _).mono ?_; rintro r w4 ⟨rfl, rfl⟩) | (go_at_call 44; refine (HF.out _).mono ?_; rintro r w4 ⟨rfl, rfl⟩) | (go_at_call 45; refine (HRD.out _).mono ?_; rintro r w4 ⟨rfl, rfl⟩))
        go_ret2
        exact ⟨RD, L, rfl, HK.out, below_drewN HBW.out _⟩
  · have HK := Lib.hid (HK3.out k1 k2)
    have u2 : decide ((DN : Int) < (DX : Int)) = false := decide_eq_false (by omega)
    have u2n : decide (DN < DX) = false := decide_eq_false k2
    clear k1 k2
    · by_cases qM : M = 9223372036854775808
      · have z1 : ((M : Int) == 9223372036854775808) = true := by simp; omega
        clear qM
        go_enter Tryd.func34, Tryd.ntmps34
        go_wp2_with (first | (go_at_call 29; refine (HLG.out _).mono ?_; rintro r w2 ⟨rfl, rfl⟩) | (go_at_call 40; refine (HL2.out _).mono ?_; rintro r w2 ⟨rfl, rfl⟩) | (go_at_call 39; refine HPR.out.mono ?_; rintro r w2 ⟨rfl, hb2, hsz2, B2⟩; have HB2 := Lib.hid hb2; have HBW := Lib.hid (((Below.refl w.heap.size w).alloc (Nat.le_refl _) (.cells #[.int .u64 0, .int .u64 0, .int .i64 0] 80)).trans B2); have HU0 := Lib.hid (HUN.out _ w2 HB2.out); have HU1 := Lib.hid (fun n => HUX.out _ w2 HB2.out n); have HU2 := Lib.hid (fun n => HUM.out _ w2 HB2.out n); clear hb2 B2 hsz2) | (go_at_call 41; (with_reducible refine HU0.out.mono ?_); rintro r w3 ⟨rfl, n1, rfl⟩) | (go_at_call 41; (with_reducible refine (HU1.out _).mono ?_); rintro r w3 ⟨rfl, n2, rfl⟩) | (go_at_call 41; (with_reducible refine (HU2.out _).mono ?_); rintro r w3 ⟨rfl, n3, rfl⟩) | (go_at_call 42; (with_reducible refine (HN1.out _).mono ?_); rintro r w4 ⟨rfl, rfl⟩) | (go_at_call 42; (with_reducible refine (HN2.out _).mono ?_); rintro r w4 ⟨rfl, rfl⟩) | (go_at_call 43; refine (HC.out _).mono ?_; rintro r w4 ⟨rfl, rfl⟩) | (go_at_call 44; refine (HF.out _).mono ?_; rintro r w4 ⟨rfl, rfl⟩) | (go_at_call 45; refine (HRD.out _).mono ?_; rintro r w4 ⟨rfl, rfl⟩))
        go_ret2
        exact ⟨DN, L, rfl, HK.out, below_drewN HBW.out _⟩
      · have z1 : ((M : Int) == 9223372036854775808) = false := by simp; omega
        clear qM
        go_enter Tryd.func34, Tryd.ntmps34
        go_wp2_with (first | (go_at_call 29; refine (HLG.out _).mono ?_; rintro r w2 ⟨rfl, rfl⟩) | (go_at_call 40; refine (HL2.out _).mono ?_; rintro r w2 ⟨rfl, rfl⟩) | (go_at_call 39; refine HPR.out.mono ?_; rintro r w2 ⟨rfl, hb2, hsz2, B2⟩; have HB2 := Lib.hid hb2; have HBW := Lib.hid (((Below.refl w.heap.size w).alloc (Nat.le_refl _) (.cells #[.int .u64 0, .int .u64 0, .int .i64 0] 80)).trans B2); have HU0 := Lib.hid (HUN.out _ w2 HB2.out); have HU1 := Lib.hid (fun n => HUX.out _ w2 HB2.out n); have HU2 := Lib.hid (fun n => HUM.out _ w2 HB2.out n); clear hb2 B2 hsz2) | (go_at_call 41; (with_reducible refine HU0.out.mono ?_); rintro r w3 ⟨rfl, n1, rfl⟩) | (go_at_call 41; (with_reducible refine (HU1.out _).mono ?_); rintro r w3 ⟨rfl, n2, rfl⟩) | (go_at_call 41; (with_reducible refine (HU2.out _).mono ?_); rintro r w3 ⟨rfl, n3, rfl⟩) | (go_at_call 42; (with_reducible refine (HN1.out _).mono ?_); rintro r w4 ⟨rfl, rfl⟩) | (go_at_call 42; (with_reducible refine (HN2.out _).mono ?_); rintro r w4 ⟨rfl, rfl⟩) | (go_at_call 43; refine (HC.out _).mono ?_; rintro r w4 ⟨rfl, rfl⟩) | (go_at_call 44; refine (HF.out _).mono ?_; rintro r w4 ⟨rfl, rfl⟩) | (go_at_call 45; refine (HRD.out _).mono ?_; rintro r w4 ⟨rfl, rfl⟩))
        go_ret2
        exact ⟨DN, L, rfl, HK.out, below_drewN HBW.out _⟩

end Go.Proofs.YtkincdcknmdboaaDoor
