/- The walk of isJSONNumberB2 at a text of each shape. -/
import Derived.Test.YtkincdcknmdboaaDoorHB
namespace Go.Proofs.YtkincdcknmdboaaDoor
open Go Go.RowKit
set_option linter.unusedVariables false
set_option linter.unusedSimpArgs false


set_option maxRecDepth 100000 in
set_option maxHeartbeats 2000000 in
theorem js_pz (s : ByteArray) (hs : s.size ≤ 1000) (h0 : 0 < s.size) (m0 : (s[0]'(by omega)).toNat ≠ 45) (m1 : (s[0]'(by omega)).toNat = 48) (hend : s.size = 1) (w : World) :
    Calls Tryd.prog 7 #[.string s] w fun r w' => r = .returned (.bool true) ∧ w = w' := by
  have p0 : 0 < s.size := by omega
  have p1 : 0 < s.size := by omega
  have c0 : ((((s[0]'p0).toNat : Nat) : Int) == 45) = false := by rw [beq_eq_false_iff_ne]; omega
  have d0 : decide ((0 : Int) < (s.size : Int)) = true := decide_eq_true (by omega)
  have d0n : decide (0 < s.size) = true := decide_eq_true (by omega)
  have dzz : ¬ s = ByteArray.empty := fun e => by rw [e] at h0; exact absurd h0 (by decide)
  have dz : decide (s = ByteArray.empty) = false := decide_eq_false dzz
  have d1 : decide ((0 : Int) ≥ (s.size : Int)) = false := decide_eq_false (by omega)
  have d1n : decide (s.size ≤ 0) = false := decide_eq_false (by omega)
  have c1 : ((((s[0]'p1).toNat : Nat) : Int) == 48) = true := by rw [beq_iff_eq]; omega
  have d4 : decide ((1 : Int) < (s.size : Int)) = false := decide_eq_false (by omega)
  have d4n : decide (1 < s.size) = false := decide_eq_false (by omega)
  have d9 : ((1 : Int) == (s.size : Int)) = true := by rw [beq_iff_eq]; omega
  have HEND := Lib.hid hend
  clear hend
  go_enter Tryd.func7, Tryd.ntmps7
  go_wp2
  go_ret
  exact ⟨rfl, rfl⟩


set_option maxRecDepth 100000 in
set_option maxHeartbeats 2000000 in
theorem js_pzf (s : ByteArray) (i2 : Nat) (hs : s.size ≤ 1000) (h0 : 0 < s.size) (m0 : (s[0]'(by omega)).toNat ≠ 45) (m1 : (s[0]'(by omega)).toNat = 48) (hi2 : 2 < i2) (hd : 1 < s.size) (m3 : (s[1]'hd).toNat = 46) (hR : ∀ i (q : i < s.size), 2 ≤ i → i < i2 → 48 ≤ s[i].toNat ∧ s[i].toNat ≤ 57) (hend : s.size = i2) (w : World) :
    Calls Tryd.prog 7 #[.string s] w fun r w' => r = .returned (.bool true) ∧ w = w' := by
  have p0 : 0 < s.size := by omega
  have p1 : 0 < s.size := by omega
  have b2 : i2 ≤ s.size := by omega
  have c0 : ((((s[0]'p0).toNat : Nat) : Int) == 45) = false := by rw [beq_eq_false_iff_ne]; omega
  have d0 : decide ((0 : Int) < (s.size : Int)) = true := decide_eq_true (by omega)
  have d0n : decide (0 < s.size) = true := decide_eq_true (by omega)
  have dzz : ¬ s = ByteArray.empty := fun e => by rw [e] at h0; exact absurd h0 (by decide)
  have dz : decide (s = ByteArray.empty) = false := decide_eq_false dzz
  have d1 : decide ((0 : Int) ≥ (s.size : Int)) = false := decide_eq_false (by omega)
  have d1n : decide (s.size ≤ 0) = false := decide_eq_false (by omega)
  have c1 : ((((s[0]'p1).toNat : Nat) : Int) == 48) = true := by rw [beq_iff_eq]; omega
  have c4 : ((((s[1]'hd).toNat : Nat) : Int) == 46) = true := by rw [beq_iff_eq]; omega
  have d4 : decide ((1 : Int) < (s.size : Int)) = true := decide_eq_true (by omega)
  have d4n : decide (1 < s.size) = true := decide_eq_true (by omega)
  have e4 : (1 : Int) + 1 = ((2 : Nat) : Int) := by omega
  have e5 : ((i2 : Int) == ((2 : Nat) : Int)) = false := by rw [beq_eq_false_iff_ne]; omega
  have e5m : ((i2 : Int) == 2) = false := by rw [beq_eq_false_iff_ne]; omega
  have e5n : i2 ≠ 2 := by omega
  have HR := Lib.hid hR
  have d5 : decide ((i2 : Int) < (s.size : Int)) = false := decide_eq_false (by omega)
  have d5n : decide (i2 < s.size) = false := decide_eq_false (by omega)
  have d9 : ((i2 : Int) == (s.size : Int)) = true := by rw [beq_iff_eq]; omega
  have HEND := Lib.hid hend
  clear hR hend
  go_enter Tryd.func7, Tryd.ntmps7
  go_wp2
  go_loopw [4] (fun vi wr => ∃ j : Nat, vi = .int .i64 j ∧ 2 ≤ j ∧ j ≤ i2 ∧ w = wr) (fun vi _ => i2 - (intOf vi).toNat)
  case atStart => exact ⟨2, rfl, Nat.le_refl _, by omega, by trivial⟩
  case round =>
    obtain ⟨j, rfl, hj0, hj, hww⟩ := hrel
    subst hww
    by_cases hlt : j < i2
    · have q : j < s.size := by omega
      have t1 : decide ((j : Int) < (s.size : Int)) = true := decide_eq_true (by omega)
      have t1n : decide (j < s.size) = true := decide_eq_true q
      have HY : Hid ((48 : Int) ≤ ((s[j]'q).toNat : Int) ∧ ((s[j]'q).toNat : Int) ≤ 57) := Lib.hid (by have h := HR.out j q hj0 hlt; omega)
      go_wp2_with (go_at_call 11; refine (digit_yes _ HY.out.1 HY.out.2 _).mono ?_; rintro r w2 ⟨rfl, rfl⟩)
      go_roundw
      case rel => exact ⟨j + 1, by go_num, by omega, by omega, by trivial⟩
      case measure => simp [intOf]; omega
    · obtain rfl : i2 = j := by omega
      clear hlt hj
      go_wp2
      go_ret
      exact ⟨rfl, rfl⟩


set_option maxRecDepth 100000 in
set_option maxHeartbeats 2000000 in
theorem js_pd (s : ByteArray) (i1 : Nat) (hs : s.size ≤ 1000) (h0 : 0 < s.size) (m0 : (s[0]'(by omega)).toNat ≠ 45) (m1 : 49 ≤ (s[0]'(by omega)).toNat) (m2 : (s[0]'(by omega)).toNat ≤ 57) (hi1 : 0 < i1) (hI : ∀ i (q : i < s.size), 0 ≤ i → i < i1 → 48 ≤ s[i].toNat ∧ s[i].toNat ≤ 57) (hend : s.size = i1) (w : World) :
    Calls Tryd.prog 7 #[.string s] w fun r w' => r = .returned (.bool true) ∧ w = w' := by
  have p0 : 0 < s.size := by omega
  have p1 : 0 < s.size := by omega
  have b1 : i1 ≤ s.size := by omega
  have c0 : ((((s[0]'p0).toNat : Nat) : Int) == 45) = false := by rw [beq_eq_false_iff_ne]; omega
  have d0 : decide ((0 : Int) < (s.size : Int)) = true := decide_eq_true (by omega)
  have d0n : decide (0 < s.size) = true := decide_eq_true (by omega)
  have dzz : ¬ s = ByteArray.empty := fun e => by rw [e] at h0; exact absurd h0 (by decide)
  have dz : decide (s = ByteArray.empty) = false := decide_eq_false dzz
  have d1 : decide ((0 : Int) ≥ (s.size : Int)) = false := decide_eq_false (by omega)
  have d1n : decide (s.size ≤ 0) = false := decide_eq_false (by omega)
  have c1 : ((((s[0]'p1).toNat : Nat) : Int) == 48) = false := by rw [beq_eq_false_iff_ne]; omega
  have c2 : decide ((((s[0]'p1).toNat : Nat) : Int) ≥ 49) = true := decide_eq_true (by omega)
  have c3 : decide ((((s[0]'p1).toNat : Nat) : Int) ≤ 57) = true := decide_eq_true (by omega)
  have HI := Lib.hid hI
  have d4 : decide ((i1 : Int) < (s.size : Int)) = false := decide_eq_false (by omega)
  have d4n : decide (i1 < s.size) = false := decide_eq_false (by omega)
  have d9 : ((i1 : Int) == (s.size : Int)) = true := by rw [beq_iff_eq]; omega
  have HEND := Lib.hid hend
  clear hI hend
  go_enter Tryd.func7, Tryd.ntmps7
  go_wp2
  go_loopw [4] (fun vi wr => ∃ j : Nat, vi = .int .i64 j ∧ 0 ≤ j ∧ j ≤ i1 ∧ w = wr) (fun vi _ => i1 - (intOf vi).toNat)
  case atStart => exact ⟨0, rfl, Nat.le_refl _, by omega, by trivial⟩
  case round =>
    obtain ⟨j, rfl, hj0, hj, hww⟩ := hrel
    subst hww
    by_cases hlt : j < i1
    · have q : j < s.size := by omega
      have t1 : decide ((j : Int) < (s.size : Int)) = true := decide_eq_true (by omega)
      have t1n : decide (j < s.size) = true := decide_eq_true q
      have HY : Hid ((48 : Int) ≤ ((s[j]'q).toNat : Int) ∧ ((s[j]'q).toNat : Int) ≤ 57) := Lib.hid (by have h := HI.out j q hj0 hlt; omega)
      go_wp2_with (go_at_call 11; refine (digit_yes _ HY.out.1 HY.out.2 _).mono ?_; rintro r w2 ⟨rfl, rfl⟩)
      go_roundw
      case rel => exact ⟨j + 1, by go_num, by omega, by omega, by trivial⟩
      case measure => simp [intOf]; omega
    · obtain rfl : i1 = j := by omega
      clear hlt hj
      go_wp2
      go_ret
      exact ⟨rfl, rfl⟩


set_option maxRecDepth 100000 in
set_option maxHeartbeats 2000000 in
theorem js_pde (s : ByteArray) (i1 k1 k2 : Nat) (hs : s.size ≤ 1000) (h0 : 0 < s.size) (m0 : (s[0]'(by omega)).toNat ≠ 45) (m1 : 49 ≤ (s[0]'(by omega)).toNat) (m2 : (s[0]'(by omega)).toNat ≤ 57) (hi1 : 0 < i1) (hI : ∀ i (q : i < s.size), 0 ≤ i → i < i1 → 48 ≤ s[i].toNat ∧ s[i].toNat ≤ 57) (hk1 : k1 = i1 + 1) (hk2 : k2 = k1 + 1) (hk3 : k2 < s.size) (p3 : i1 < s.size) (p4 : k1 < s.size) (m4 : (s[i1]'p3).toNat = 101) (m5 : (s[k1]'p4).toNat = 43 ∨ (s[k1]'p4).toNat = 45) (m6 : 49 ≤ (s[k2]'hk3).toNat) (m7 : (s[k2]'hk3).toNat ≤ 57) (hX : ∀ i (q : i < s.size), k2 ≤ i → i < s.size → 48 ≤ s[i].toNat ∧ s[i].toNat ≤ 57) (w : World) :
    Calls Tryd.prog 7 #[.string s] w fun r w' => r = .returned (.bool true) ∧ w = w' := by
  have p0 : 0 < s.size := by omega
  have p1 : 0 < s.size := by omega
  have b1 : i1 ≤ s.size := by omega
  have p2 : i1 < s.size := by omega
  have c0 : ((((s[0]'p0).toNat : Nat) : Int) == 45) = false := by rw [beq_eq_false_iff_ne]; omega
  have d0 : decide ((0 : Int) < (s.size : Int)) = true := decide_eq_true (by omega)
  have d0n : decide (0 < s.size) = true := decide_eq_true (by omega)
  have dzz : ¬ s = ByteArray.empty := fun e => by rw [e] at h0; exact absurd h0 (by decide)
  have dz : decide (s = ByteArray.empty) = false := decide_eq_false dzz
  have d1 : decide ((0 : Int) ≥ (s.size : Int)) = false := decide_eq_false (by omega)
  have d1n : decide (s.size ≤ 0) = false := decide_eq_false (by omega)
  have c1 : ((((s[0]'p1).toNat : Nat) : Int) == 48) = false := by rw [beq_eq_false_iff_ne]; omega
  have c2 : decide ((((s[0]'p1).toNat : Nat) : Int) ≥ 49) = true := decide_eq_true (by omega)
  have c3 : decide ((((s[0]'p1).toNat : Nat) : Int) ≤ 57) = true := decide_eq_true (by omega)
  have HI := Lib.hid hI
  have c4 : ((((s[i1]'p2).toNat : Nat) : Int) == 46) = false := by rw [beq_eq_false_iff_ne]; omega
  have d4 : decide ((i1 : Int) < (s.size : Int)) = true := decide_eq_true (by omega)
  have d4n : decide (i1 < s.size) = true := decide_eq_true (by omega)
  have c5 : ((((s[i1]'p3).toNat : Nat) : Int) == 101) = true := by rw [beq_iff_eq]; omega
  have d5 : decide ((i1 : Int) < (s.size : Int)) = true := decide_eq_true (by omega)
  have d5n : decide (i1 < s.size) = true := decide_eq_true (by omega)
  have e6 : (i1 : Int) + 1 = (k1 : Int) := by omega
  have e7 : (k1 : Int) + 1 = (k2 : Int) := by omega
  have d6 : decide ((k1 : Int) < (s.size : Int)) = true := decide_eq_true (by omega)
  have d6n : decide (k1 < s.size) = true := decide_eq_true (by omega)
  have d7 : decide ((k2 : Int) ≥ (s.size : Int)) = false := decide_eq_false (by omega)
  have d7n : decide (s.size ≤ k2) = false := decide_eq_false (by omega)
  have c6 : decide ((((s[k2]'hk3).toNat : Nat) : Int) < 49) = false := decide_eq_false (by omega)
  have c7 : decide ((((s[k2]'hk3).toNat : Nat) : Int) > 57) = false := decide_eq_false (by omega)
  have HX := Lib.hid hX
  clear hI hX hk1 hk2
  rcases m5 with m5 | m5
  · have c8 : ((((s[k1]'p4).toNat : Nat) : Int) == 43) = true := by rw [beq_iff_eq]; omega
    have c9 : ((((s[k1]'p4).toNat : Nat) : Int) == 45) = false := by rw [beq_eq_false_iff_ne]; omega
    go_enter Tryd.func7, Tryd.ntmps7
    go_wp2
    go_loopw [4] (fun vi wr => ∃ j : Nat, vi = .int .i64 j ∧ 0 ≤ j ∧ j ≤ i1 ∧ w = wr) (fun vi _ => i1 - (intOf vi).toNat)
    case atStart => exact ⟨0, rfl, Nat.le_refl _, by omega, by trivial⟩
    case round =>
      obtain ⟨j, rfl, hj0, hj, hww⟩ := hrel
      subst hww
      by_cases hlt : j < i1
      · have q : j < s.size := by omega
        have t1 : decide ((j : Int) < (s.size : Int)) = true := decide_eq_true (by omega)
        have t1n : decide (j < s.size) = true := decide_eq_true q
        have HY : Hid ((48 : Int) ≤ ((s[j]'q).toNat : Int) ∧ ((s[j]'q).toNat : Int) ≤ 57) := Lib.hid (by have h := HI.out j q hj0 hlt; omega)
        go_wp2_with (go_at_call 11; refine (digit_yes _ HY.out.1 HY.out.2 _).mono ?_; rintro r w2 ⟨rfl, rfl⟩)
        go_roundw
        case rel => exact ⟨j + 1, by go_num, by omega, by omega, by trivial⟩
        case measure => simp [intOf]; omega
      · obtain rfl : i1 = j := by omega
        clear hlt hj
        have HN : Hid (((s[i1]'p2).toNat : Int) < 48 ∨ 57 < ((s[i1]'p2).toNat : Int)) := Lib.hid (by omega)
        go_wp2_with (first | (go_at_call 11; (with_reducible refine (digit_no 46 (by decide) _).mono ?_); rintro r w2 ⟨rfl, rfl⟩) | (go_at_call 11; (with_reducible refine (digit_no 101 (by decide) _).mono ?_); rintro r w2 ⟨rfl, rfl⟩) | (go_at_call 11; (with_reducible refine (digit_no _ HN.out _).mono ?_); rintro r w2 ⟨rfl, rfl⟩))
        go_loopw [4] (fun vi wr => ∃ j : Nat, vi = .int .i64 j ∧ k2 ≤ j ∧ j ≤ s.size ∧ w = wr) (fun vi _ => s.size - (intOf vi).toNat)
        case atStart => exact ⟨k2, rfl, Nat.le_refl _, by omega, by trivial⟩
        case round =>
          obtain ⟨j, rfl, hj0, hj, hww⟩ := hrel
          subst hww
          by_cases hlt : j < s.size
          · have q : j < s.size := by omega
            have t1 : decide ((j : Int) < (s.size : Int)) = true := decide_eq_true (by omega)
            have t1n : decide (j < s.size) = true := decide_eq_true q
            have HY : Hid ((48 : Int) ≤ ((s[j]'q).toNat : Int) ∧ ((s[j]'q).toNat : Int) ≤ 57) := Lib.hid (by have h := HX.out j q hj0 hlt; omega)
            go_wp2_with (go_at_call 11; refine (digit_yes _ HY.out.1 HY.out.2 _).mono ?_; rintro r w2 ⟨rfl, rfl⟩)
            go_roundw
            case rel => exact ⟨j + 1, by go_num, by omega, by omega, by trivial⟩
            case measure => simp [intOf]; omega
          · obtain rfl : s.size = j := by omega
            clear hlt hj
            have t1 : decide ((s.size : Int) < (s.size : Int)) = false := decide_eq_false (by omega)
            go_wp2
            go_ret
            exact ⟨rfl, rfl⟩
  · have c8 : ((((s[k1]'p4).toNat : Nat) : Int) == 43) = false := by rw [beq_eq_false_iff_ne]; omega
    have c9 : ((((s[k1]'p4).toNat : Nat) : Int) == 45) = true := by rw [beq_iff_eq]; omega
    go_enter Tryd.func7, Tryd.ntmps7
    go_wp2
    go_loopw [4] (fun vi wr => ∃ j : Nat, vi = .int .i64 j ∧ 0 ≤ j ∧ j ≤ i1 ∧ w = wr) (fun vi _ => i1 - (intOf vi).toNat)
    case atStart => exact ⟨0, rfl, Nat.le_refl _, by omega, by trivial⟩
    case round =>
      obtain ⟨j, rfl, hj0, hj, hww⟩ := hrel
      subst hww
      by_cases hlt : j < i1
      · have q : j < s.size := by omega
        have t1 : decide ((j : Int) < (s.size : Int)) = true := decide_eq_true (by omega)
        have t1n : decide (j < s.size) = true := decide_eq_true q
        have HY : Hid ((48 : Int) ≤ ((s[j]'q).toNat : Int) ∧ ((s[j]'q).toNat : Int) ≤ 57) := Lib.hid (by have h := HI.out j q hj0 hlt; omega)
        go_wp2_with (go_at_call 11; refine (digit_yes _ HY.out.1 HY.out.2 _).mono ?_; rintro r w2 ⟨rfl, rfl⟩)
        go_roundw
        case rel => exact ⟨j + 1, by go_num, by omega, by omega, by trivial⟩
        case measure => simp [intOf]; omega
      · obtain rfl : i1 = j := by omega
        clear hlt hj
        have HN : Hid (((s[i1]'p2).toNat : Int) < 48 ∨ 57 < ((s[i1]'p2).toNat : Int)) := Lib.hid (by omega)
        go_wp2_with (first | (go_at_call 11; (with_reducible refine (digit_no 46 (by decide) _).mono ?_); rintro r w2 ⟨rfl, rfl⟩) | (go_at_call 11; (with_reducible refine (digit_no 101 (by decide) _).mono ?_); rintro r w2 ⟨rfl, rfl⟩) | (go_at_call 11; (with_reducible refine (digit_no _ HN.out _).mono ?_); rintro r w2 ⟨rfl, rfl⟩))
        go_loopw [4] (fun vi wr => ∃ j : Nat, vi = .int .i64 j ∧ k2 ≤ j ∧ j ≤ s.size ∧ w = wr) (fun vi _ => s.size - (intOf vi).toNat)
        case atStart => exact ⟨k2, rfl, Nat.le_refl _, by omega, by trivial⟩
        case round =>
          obtain ⟨j, rfl, hj0, hj, hww⟩ := hrel
          subst hww
          by_cases hlt : j < s.size
          · have q : j < s.size := by omega
            have t1 : decide ((j : Int) < (s.size : Int)) = true := decide_eq_true (by omega)
            have t1n : decide (j < s.size) = true := decide_eq_true q
            have HY : Hid ((48 : Int) ≤ ((s[j]'q).toNat : Int) ∧ ((s[j]'q).toNat : Int) ≤ 57) := Lib.hid (by have h := HX.out j q hj0 hlt; omega)
            go_wp2_with (go_at_call 11; refine (digit_yes _ HY.out.1 HY.out.2 _).mono ?_; rintro r w2 ⟨rfl, rfl⟩)
            go_roundw
            case rel => exact ⟨j + 1, by go_num, by omega, by omega, by trivial⟩
            case measure => simp [intOf]; omega
          · obtain rfl : s.size = j := by omega
            clear hlt hj
            have t1 : decide ((s.size : Int) < (s.size : Int)) = false := decide_eq_false (by omega)
            go_wp2
            go_ret
            exact ⟨rfl, rfl⟩


set_option maxRecDepth 100000 in
set_option maxHeartbeats 2000000 in
theorem js_pdf (s : ByteArray) (i1 j1 i2 : Nat) (hs : s.size ≤ 1000) (h0 : 0 < s.size) (m0 : (s[0]'(by omega)).toNat ≠ 45) (m1 : 49 ≤ (s[0]'(by omega)).toNat) (m2 : (s[0]'(by omega)).toNat ≤ 57) (hi1 : 0 < i1) (hI : ∀ i (q : i < s.size), 0 ≤ i → i < i1 → 48 ≤ s[i].toNat ∧ s[i].toNat ≤ 57) (hj1 : j1 = i1 + 1) (hi2 : j1 < i2) (hd : i1 < s.size) (m3 : (s[i1]'hd).toNat = 46) (hR : ∀ i (q : i < s.size), j1 ≤ i → i < i2 → 48 ≤ s[i].toNat ∧ s[i].toNat ≤ 57) (hend : s.size = i2) (w : World) :
    Calls Tryd.prog 7 #[.string s] w fun r w' => r = .returned (.bool true) ∧ w = w' := by
  have p0 : 0 < s.size := by omega
  have p1 : 0 < s.size := by omega
  have b1 : i1 ≤ s.size := by omega
  have b2 : i2 ≤ s.size := by omega
  have c0 : ((((s[0]'p0).toNat : Nat) : Int) == 45) = false := by rw [beq_eq_false_iff_ne]; omega
  have d0 : decide ((0 : Int) < (s.size : Int)) = true := decide_eq_true (by omega)
  have d0n : decide (0 < s.size) = true := decide_eq_true (by omega)
  have dzz : ¬ s = ByteArray.empty := fun e => by rw [e] at h0; exact absurd h0 (by decide)
  have dz : decide (s = ByteArray.empty) = false := decide_eq_false dzz
  have d1 : decide ((0 : Int) ≥ (s.size : Int)) = false := decide_eq_false (by omega)
  have d1n : decide (s.size ≤ 0) = false := decide_eq_false (by omega)
  have c1 : ((((s[0]'p1).toNat : Nat) : Int) == 48) = false := by rw [beq_eq_false_iff_ne]; omega
  have c2 : decide ((((s[0]'p1).toNat : Nat) : Int) ≥ 49) = true := decide_eq_true (by omega)
  have c3 : decide ((((s[0]'p1).toNat : Nat) : Int) ≤ 57) = true := decide_eq_true (by omega)
  have HI := Lib.hid hI
  have c4 : ((((s[i1]'hd).toNat : Nat) : Int) == 46) = true := by rw [beq_iff_eq]; omega
  have d4 : decide ((i1 : Int) < (s.size : Int)) = true := decide_eq_true (by omega)
  have d4n : decide (i1 < s.size) = true := decide_eq_true (by omega)
  have e4 : (i1 : Int) + 1 = ((j1 : Nat) : Int) := by omega
  have e5 : ((i2 : Int) == ((j1 : Nat) : Int)) = false := by rw [beq_eq_false_iff_ne]; omega
  have e5m : ((i2 : Int) == j1) = false := by rw [beq_eq_false_iff_ne]; omega
  have e5n : i2 ≠ j1 := by omega
  have HR := Lib.hid hR
  have d5 : decide ((i2 : Int) < (s.size : Int)) = false := decide_eq_false (by omega)
  have d5n : decide (i2 < s.size) = false := decide_eq_false (by omega)
  have d9 : ((i2 : Int) == (s.size : Int)) = true := by rw [beq_iff_eq]; omega
  have HEND := Lib.hid hend
  clear hI hR hend hj1
  go_enter Tryd.func7, Tryd.ntmps7
  go_wp2
  go_loopw [4] (fun vi wr => ∃ j : Nat, vi = .int .i64 j ∧ 0 ≤ j ∧ j ≤ i1 ∧ w = wr) (fun vi _ => i1 - (intOf vi).toNat)
  case atStart => exact ⟨0, rfl, Nat.le_refl _, by omega, by trivial⟩
  case round =>
    obtain ⟨j, rfl, hj0, hj, hww⟩ := hrel
    subst hww
    by_cases hlt : j < i1
    · have q : j < s.size := by omega
      have t1 : decide ((j : Int) < (s.size : Int)) = true := decide_eq_true (by omega)
      have t1n : decide (j < s.size) = true := decide_eq_true q
      have HY : Hid ((48 : Int) ≤ ((s[j]'q).toNat : Int) ∧ ((s[j]'q).toNat : Int) ≤ 57) := Lib.hid (by have h := HI.out j q hj0 hlt; omega)
      go_wp2_with (go_at_call 11; refine (digit_yes _ HY.out.1 HY.out.2 _).mono ?_; rintro r w2 ⟨rfl, rfl⟩)
      go_roundw
      case rel => exact ⟨j + 1, by go_num, by omega, by omega, by trivial⟩
      case measure => simp [intOf]; omega
    · obtain rfl : i1 = j := by omega
      clear hlt hj
      have HN : Hid (((s[i1]'hd).toNat : Int) < 48 ∨ 57 < ((s[i1]'hd).toNat : Int)) := Lib.hid (by omega)
      go_wp2_with (first | (go_at_call 11; (with_reducible refine (digit_no 46 (by decide) _).mono ?_); rintro r w2 ⟨rfl, rfl⟩) | (go_at_call 11; (with_reducible refine (digit_no 101 (by decide) _).mono ?_); rintro r w2 ⟨rfl, rfl⟩) | (go_at_call 11; (with_reducible refine (digit_no _ HN.out _).mono ?_); rintro r w2 ⟨rfl, rfl⟩))
      go_loopw [4] (fun vi wr => ∃ j : Nat, vi = .int .i64 j ∧ j1 ≤ j ∧ j ≤ i2 ∧ w = wr) (fun vi _ => i2 - (intOf vi).toNat)
      case atStart => exact ⟨j1, rfl, Nat.le_refl _, by omega, by trivial⟩
      case round =>
        obtain ⟨j, rfl, hj0, hj, hww⟩ := hrel
        subst hww
        by_cases hlt : j < i2
        · have q : j < s.size := by omega
          have t1 : decide ((j : Int) < (s.size : Int)) = true := decide_eq_true (by omega)
          have t1n : decide (j < s.size) = true := decide_eq_true q
          have HY : Hid ((48 : Int) ≤ ((s[j]'q).toNat : Int) ∧ ((s[j]'q).toNat : Int) ≤ 57) := Lib.hid (by have h := HR.out j q hj0 hlt; omega)
          go_wp2_with (go_at_call 11; refine (digit_yes _ HY.out.1 HY.out.2 _).mono ?_; rintro r w2 ⟨rfl, rfl⟩)
          go_roundw
          case rel => exact ⟨j + 1, by go_num, by omega, by omega, by trivial⟩
          case measure => simp [intOf]; omega
        · obtain rfl : i2 = j := by omega
          clear hlt hj
          go_wp2
          go_ret
          exact ⟨rfl, rfl⟩


set_option maxRecDepth 100000 in
set_option maxHeartbeats 2000000 in
theorem js_pdfe (s : ByteArray) (i1 j1 i2 k1 k2 : Nat) (hs : s.size ≤ 1000) (h0 : 0 < s.size) (m0 : (s[0]'(by omega)).toNat ≠ 45) (m1 : 49 ≤ (s[0]'(by omega)).toNat) (m2 : (s[0]'(by omega)).toNat ≤ 57) (hi1 : 0 < i1) (hI : ∀ i (q : i < s.size), 0 ≤ i → i < i1 → 48 ≤ s[i].toNat ∧ s[i].toNat ≤ 57) (hj1 : j1 = i1 + 1) (hi2 : j1 < i2) (hd : i1 < s.size) (m3 : (s[i1]'hd).toNat = 46) (hR : ∀ i (q : i < s.size), j1 ≤ i → i < i2 → 48 ≤ s[i].toNat ∧ s[i].toNat ≤ 57) (hk1 : k1 = i2 + 1) (hk2 : k2 = k1 + 1) (hk3 : k2 < s.size) (p3 : i2 < s.size) (p4 : k1 < s.size) (m4 : (s[i2]'p3).toNat = 101) (m5 : (s[k1]'p4).toNat = 43 ∨ (s[k1]'p4).toNat = 45) (m6 : 49 ≤ (s[k2]'hk3).toNat) (m7 : (s[k2]'hk3).toNat ≤ 57) (hX : ∀ i (q : i < s.size), k2 ≤ i → i < s.size → 48 ≤ s[i].toNat ∧ s[i].toNat ≤ 57) (w : World) :
    Calls Tryd.prog 7 #[.string s] w fun r w' => r = .returned (.bool true) ∧ w = w' := by
  have p0 : 0 < s.size := by omega
  have p1 : 0 < s.size := by omega
  have b1 : i1 ≤ s.size := by omega
  have b2 : i2 ≤ s.size := by omega
  have p2 : i1 < s.size := by omega
  have c0 : ((((s[0]'p0).toNat : Nat) : Int) == 45) = false := by rw [beq_eq_false_iff_ne]; omega
  have d0 : decide ((0 : Int) < (s.size : Int)) = true := decide_eq_true (by omega)
  have d0n : decide (0 < s.size) = true := decide_eq_true (by omega)
  have dzz : ¬ s = ByteArray.empty := fun e => by rw [e] at h0; exact absurd h0 (by decide)
  have dz : decide (s = ByteArray.empty) = false := decide_eq_false dzz
  have d1 : decide ((0 : Int) ≥ (s.size : Int)) = false := decide_eq_false (by omega)
  have d1n : decide (s.size ≤ 0) = false := decide_eq_false (by omega)
  have c1 : ((((s[0]'p1).toNat : Nat) : Int) == 48) = false := by rw [beq_eq_false_iff_ne]; omega
  have c2 : decide ((((s[0]'p1).toNat : Nat) : Int) ≥ 49) = true := decide_eq_true (by omega)
  have c3 : decide ((((s[0]'p1).toNat : Nat) : Int) ≤ 57) = true := decide_eq_true (by omega)
  have HI := Lib.hid hI
  have c4 : ((((s[i1]'hd).toNat : Nat) : Int) == 46) = true := by rw [beq_iff_eq]; omega
  have d4 : decide ((i1 : Int) < (s.size : Int)) = true := decide_eq_true (by omega)
  have d4n : decide (i1 < s.size) = true := decide_eq_true (by omega)
  have e4 : (i1 : Int) + 1 = ((j1 : Nat) : Int) := by omega
  have e5 : ((i2 : Int) == ((j1 : Nat) : Int)) = false := by rw [beq_eq_false_iff_ne]; omega
  have e5m : ((i2 : Int) == j1) = false := by rw [beq_eq_false_iff_ne]; omega
  have e5n : i2 ≠ j1 := by omega
  have HR := Lib.hid hR
  have c5 : ((((s[i2]'p3).toNat : Nat) : Int) == 101) = true := by rw [beq_iff_eq]; omega
  have d5 : decide ((i2 : Int) < (s.size : Int)) = true := decide_eq_true (by omega)
  have d5n : decide (i2 < s.size) = true := decide_eq_true (by omega)
  have e6 : (i2 : Int) + 1 = (k1 : Int) := by omega
  have e7 : (k1 : Int) + 1 = (k2 : Int) := by omega
  have d6 : decide ((k1 : Int) < (s.size : Int)) = true := decide_eq_true (by omega)
  have d6n : decide (k1 < s.size) = true := decide_eq_true (by omega)
  have d7 : decide ((k2 : Int) ≥ (s.size : Int)) = false := decide_eq_false (by omega)
  have d7n : decide (s.size ≤ k2) = false := decide_eq_false (by omega)
  have c6 : decide ((((s[k2]'hk3).toNat : Nat) : Int) < 49) = false := decide_eq_false (by omega)
  have c7 : decide ((((s[k2]'hk3).toNat : Nat) : Int) > 57) = false := decide_eq_false (by omega)
  have HX := Lib.hid hX
  clear hI hR hX hk1 hk2 hj1
  rcases m5 with m5 | m5
  · have c8 : ((((s[k1]'p4).toNat : Nat) : Int) == 43) = true := by rw [beq_iff_eq]; omega
    have c9 : ((((s[k1]'p4).toNat : Nat) : Int) == 45) = false := by rw [beq_eq_false_iff_ne]; omega
    go_enter Tryd.func7, Tryd.ntmps7
    go_wp2
    go_loopw [4] (fun vi wr => ∃ j : Nat, vi = .int .i64 j ∧ 0 ≤ j ∧ j ≤ i1 ∧ w = wr) (fun vi _ => i1 - (intOf vi).toNat)
    case atStart => exact ⟨0, rfl, Nat.le_refl _, by omega, by trivial⟩
    case round =>
      obtain ⟨j, rfl, hj0, hj, hww⟩ := hrel
      subst hww
      by_cases hlt : j < i1
      · have q : j < s.size := by omega
        have t1 : decide ((j : Int) < (s.size : Int)) = true := decide_eq_true (by omega)
        have t1n : decide (j < s.size) = true := decide_eq_true q
        have HY : Hid ((48 : Int) ≤ ((s[j]'q).toNat : Int) ∧ ((s[j]'q).toNat : Int) ≤ 57) := Lib.hid (by have h := HI.out j q hj0 hlt; omega)
        go_wp2_with (go_at_call 11; refine (digit_yes _ HY.out.1 HY.out.2 _).mono ?_; rintro r w2 ⟨rfl, rfl⟩)
        go_roundw
        case rel => exact ⟨j + 1, by go_num, by omega, by omega, by trivial⟩
        case measure => simp [intOf]; omega
      · obtain rfl : i1 = j := by omega
        clear hlt hj
        have HN : Hid (((s[i1]'hd).toNat : Int) < 48 ∨ 57 < ((s[i1]'hd).toNat : Int)) := Lib.hid (by omega)
        go_wp2_with (first | (go_at_call 11; (with_reducible refine (digit_no 46 (by decide) _).mono ?_); rintro r w2 ⟨rfl, rfl⟩) | (go_at_call 11; (with_reducible refine (digit_no 101 (by decide) _).mono ?_); rintro r w2 ⟨rfl, rfl⟩) | (go_at_call 11; (with_reducible refine (digit_no _ HN.out _).mono ?_); rintro r w2 ⟨rfl, rfl⟩))
        go_loopw [4] (fun vi wr => ∃ j : Nat, vi = .int .i64 j ∧ j1 ≤ j ∧ j ≤ i2 ∧ w = wr) (fun vi _ => i2 - (intOf vi).toNat)
        case atStart => exact ⟨j1, rfl, Nat.le_refl _, by omega, by trivial⟩
        case round =>
          obtain ⟨j, rfl, hj0, hj, hww⟩ := hrel
          subst hww
          by_cases hlt : j < i2
          · have q : j < s.size := by omega
            have t1 : decide ((j : Int) < (s.size : Int)) = true := decide_eq_true (by omega)
            have t1n : decide (j < s.size) = true := decide_eq_true q
            have HY : Hid ((48 : Int) ≤ ((s[j]'q).toNat : Int) ∧ ((s[j]'q).toNat : Int) ≤ 57) := Lib.hid (by have h := HR.out j q hj0 hlt; omega)
            go_wp2_with (go_at_call 11; refine (digit_yes _ HY.out.1 HY.out.2 _).mono ?_; rintro r w2 ⟨rfl, rfl⟩)
            go_roundw
            case rel => exact ⟨j + 1, by go_num, by omega, by omega, by trivial⟩
            case measure => simp [intOf]; omega
          · obtain rfl : i2 = j := by omega
            clear hlt hj
            have HN : Hid (((s[i2]'p3).toNat : Int) < 48 ∨ 57 < ((s[i2]'p3).toNat : Int)) := Lib.hid (by omega)
            go_wp2_with (first | (go_at_call 11; (with_reducible refine (digit_no 46 (by decide) _).mono ?_); rintro r w2 ⟨rfl, rfl⟩) | (go_at_call 11; (with_reducible refine (digit_no 101 (by decide) _).mono ?_); rintro r w2 ⟨rfl, rfl⟩) | (go_at_call 11; (with_reducible refine (digit_no _ HN.out _).mono ?_); rintro r w2 ⟨rfl, rfl⟩))
            go_loopw [4] (fun vi wr => ∃ j : Nat, vi = .int .i64 j ∧ k2 ≤ j ∧ j ≤ s.size ∧ w = wr) (fun vi _ => s.size - (intOf vi).toNat)
            case atStart => exact ⟨k2, rfl, Nat.le_refl _, by omega, by trivial⟩
            case round =>
              obtain ⟨j, rfl, hj0, hj, hww⟩ := hrel
              subst hww
              by_cases hlt : j < s.size
              · have q : j < s.size := by omega
                have t1 : decide ((j : Int) < (s.size : Int)) = true := decide_eq_true (by omega)
                have t1n : decide (j < s.size) = true := decide_eq_true q
                have HY : Hid ((48 : Int) ≤ ((s[j]'q).toNat : Int) ∧ ((s[j]'q).toNat : Int) ≤ 57) := Lib.hid (by have h := HX.out j q hj0 hlt; omega)
                go_wp2_with (go_at_call 11; refine (digit_yes _ HY.out.1 HY.out.2 _).mono ?_; rintro r w2 ⟨rfl, rfl⟩)
                go_roundw
                case rel => exact ⟨j + 1, by go_num, by omega, by omega, by trivial⟩
                case measure => simp [intOf]; omega
              · obtain rfl : s.size = j := by omega
                clear hlt hj
                have t1 : decide ((s.size : Int) < (s.size : Int)) = false := decide_eq_false (by omega)
                go_wp2
                go_ret
                exact ⟨rfl, rfl⟩
  · have c8 : ((((s[k1]'p4).toNat : Nat) : Int) == 43) = false := by rw [beq_eq_false_iff_ne]; omega
    have c9 : ((((s[k1]'p4).toNat : Nat) : Int) == 45) = true := by rw [beq_iff_eq]; omega
    go_enter Tryd.func7, Tryd.ntmps7
    go_wp2
    go_loopw [4] (fun vi wr => ∃ j : Nat, vi = .int .i64 j ∧ 0 ≤ j ∧ j ≤ i1 ∧ w = wr) (fun vi _ => i1 - (intOf vi).toNat)
    case atStart => exact ⟨0, rfl, Nat.le_refl _, by omega, by trivial⟩
    case round =>
      obtain ⟨j, rfl, hj0, hj, hww⟩ := hrel
      subst hww
      by_cases hlt : j < i1
      · have q : j < s.size := by omega
        have t1 : decide ((j : Int) < (s.size : Int)) = true := decide_eq_true (by omega)
        have t1n : decide (j < s.size) = true := decide_eq_true q
        have HY : Hid ((48 : Int) ≤ ((s[j]'q).toNat : Int) ∧ ((s[j]'q).toNat : Int) ≤ 57) := Lib.hid (by have h := HI.out j q hj0 hlt; omega)
        go_wp2_with (go_at_call 11; refine (digit_yes _ HY.out.1 HY.out.2 _).mono ?_; rintro r w2 ⟨rfl, rfl⟩)
        go_roundw
        case rel => exact ⟨j + 1, by go_num, by omega, by omega, by trivial⟩
        case measure => simp [intOf]; omega
      · obtain rfl : i1 = j := by omega
        clear hlt hj
        have HN : Hid (((s[i1]'hd).toNat : Int) < 48 ∨ 57 < ((s[i1]'hd).toNat : Int)) := Lib.hid (by omega)
        go_wp2_with (first | (go_at_call 11; (with_reducible refine (digit_no 46 (by decide) _).mono ?_); rintro r w2 ⟨rfl, rfl⟩) | (go_at_call 11; (with_reducible refine (digit_no 101 (by decide) _).mono ?_); rintro r w2 ⟨rfl, rfl⟩) | (go_at_call 11; (with_reducible refine (digit_no _ HN.out _).mono ?_); rintro r w2 ⟨rfl, rfl⟩))
        go_loopw [4] (fun vi wr => ∃ j : Nat, vi = .int .i64 j ∧ j1 ≤ j ∧ j ≤ i2 ∧ w = wr) (fun vi _ => i2 - (intOf vi).toNat)
        case atStart => exact ⟨j1, rfl, Nat.le_refl _, by omega, by trivial⟩
        case round =>
          obtain ⟨j, rfl, hj0, hj, hww⟩ := hrel
          subst hww
          by_cases hlt : j < i2
          · have q : j < s.size := by omega
            have t1 : decide ((j : Int) < (s.size : Int)) = true := decide_eq_true (by omega)
            have t1n : decide (j < s.size) = true := decide_eq_true q
            have HY : Hid ((48 : Int) ≤ ((s[j]'q).toNat : Int) ∧ ((s[j]'q).toNat : Int) ≤ 57) := Lib.hid (by have h := HR.out j q hj0 hlt; omega)
            go_wp2_with (go_at_call 11; refine (digit_yes _ HY.out.1 HY.out.2 _).mono ?_; rintro r w2 ⟨rfl, rfl⟩)
            go_roundw
            case rel => exact ⟨j + 1, by go_num, by omega, by omega, by trivial⟩
            case measure => simp [intOf]; omega
          · obtain rfl : i2 = j := by omega
            clear hlt hj
            have HN : Hid (((s[i2]'p3).toNat : Int) < 48 ∨ 57 < ((s[i2]'p3).toNat : Int)) := Lib.hid (by omega)
            go_wp2_with (first | (go_at_call 11; (with_reducible refine (digit_no 46 (by decide) _).mono ?_); rintro r w2 ⟨rfl, rfl⟩) | (go_at_call 11; (with_reducible refine (digit_no 101 (by decide) _).mono ?_); rintro r w2 ⟨rfl, rfl⟩) | (go_at_call 11; (with_reducible refine (digit_no _ HN.out _).mono ?_); rintro r w2 ⟨rfl, rfl⟩))
            go_loopw [4] (fun vi wr => ∃ j : Nat, vi = .int .i64 j ∧ k2 ≤ j ∧ j ≤ s.size ∧ w = wr) (fun vi _ => s.size - (intOf vi).toNat)
            case atStart => exact ⟨k2, rfl, Nat.le_refl _, by omega, by trivial⟩
            case round =>
              obtain ⟨j, rfl, hj0, hj, hww⟩ := hrel
              subst hww
              by_cases hlt : j < s.size
              · have q : j < s.size := by omega
                have t1 : decide ((j : Int) < (s.size : Int)) = true := decide_eq_true (by omega)
                have t1n : decide (j < s.size) = true := decide_eq_true q
                have HY : Hid ((48 : Int) ≤ ((s[j]'q).toNat : Int) ∧ ((s[j]'q).toNat : Int) ≤ 57) := Lib.hid (by have h := HX.out j q hj0 hlt; omega)
                go_wp2_with (go_at_call 11; refine (digit_yes _ HY.out.1 HY.out.2 _).mono ?_; rintro r w2 ⟨rfl, rfl⟩)
                go_roundw
                case rel => exact ⟨j + 1, by go_num, by omega, by omega, by trivial⟩
                case measure => simp [intOf]; omega
              · obtain rfl : s.size = j := by omega
                clear hlt hj
                have t1 : decide ((s.size : Int) < (s.size : Int)) = false := decide_eq_false (by omega)
                go_wp2
                go_ret
                exact ⟨rfl, rfl⟩


set_option maxRecDepth 100000 in
set_option maxHeartbeats 2000000 in
theorem js_nz (s : ByteArray) (hs : s.size ≤ 1000) (h0 : 1 < s.size) (m0 : (s[0]'(by omega)).toNat = 45) (m1 : (s[1]'(by omega)).toNat = 48) (hend : s.size = 2) (w : World) :
    Calls Tryd.prog 7 #[.string s] w fun r w' => r = .returned (.bool true) ∧ w = w' := by
  have p0 : 0 < s.size := by omega
  have p1 : 1 < s.size := by omega
  have c0 : ((((s[0]'p0).toNat : Nat) : Int) == 45) = true := by rw [beq_iff_eq]; omega
  have d0 : decide ((0 : Int) < (s.size : Int)) = true := decide_eq_true (by omega)
  have d0n : decide (0 < s.size) = true := decide_eq_true (by omega)
  have dzz : ¬ s = ByteArray.empty := fun e => by rw [e] at h0; exact absurd h0 (by decide)
  have dz : decide (s = ByteArray.empty) = false := decide_eq_false dzz
  have d1 : decide ((1 : Int) ≥ (s.size : Int)) = false := decide_eq_false (by omega)
  have d1n : decide (s.size ≤ 1) = false := decide_eq_false (by omega)
  have c1 : ((((s[1]'p1).toNat : Nat) : Int) == 48) = true := by rw [beq_iff_eq]; omega
  have d4 : decide ((2 : Int) < (s.size : Int)) = false := decide_eq_false (by omega)
  have d4n : decide (2 < s.size) = false := decide_eq_false (by omega)
  have d9 : ((2 : Int) == (s.size : Int)) = true := by rw [beq_iff_eq]; omega
  have HEND := Lib.hid hend
  clear hend
  go_enter Tryd.func7, Tryd.ntmps7
  go_wp2
  go_ret
  exact ⟨rfl, rfl⟩


set_option maxRecDepth 100000 in
set_option maxHeartbeats 2000000 in
theorem js_nzf (s : ByteArray) (i2 : Nat) (hs : s.size ≤ 1000) (h0 : 1 < s.size) (m0 : (s[0]'(by omega)).toNat = 45) (m1 : (s[1]'(by omega)).toNat = 48) (hi2 : 3 < i2) (hd : 2 < s.size) (m3 : (s[2]'hd).toNat = 46) (hR : ∀ i (q : i < s.size), 3 ≤ i → i < i2 → 48 ≤ s[i].toNat ∧ s[i].toNat ≤ 57) (hend : s.size = i2) (w : World) :
    Calls Tryd.prog 7 #[.string s] w fun r w' => r = .returned (.bool true) ∧ w = w' := by
  have p0 : 0 < s.size := by omega
  have p1 : 1 < s.size := by omega
  have b2 : i2 ≤ s.size := by omega
  have c0 : ((((s[0]'p0).toNat : Nat) : Int) == 45) = true := by rw [beq_iff_eq]; omega
  have d0 : decide ((0 : Int) < (s.size : Int)) = true := decide_eq_true (by omega)
  have d0n : decide (0 < s.size) = true := decide_eq_true (by omega)
  have dzz : ¬ s = ByteArray.empty := fun e => by rw [e] at h0; exact absurd h0 (by decide)
  have dz : decide (s = ByteArray.empty) = false := decide_eq_false dzz
  have d1 : decide ((1 : Int) ≥ (s.size : Int)) = false := decide_eq_false (by omega)
  have d1n : decide (s.size ≤ 1) = false := decide_eq_false (by omega)
  have c1 : ((((s[1]'p1).toNat : Nat) : Int) == 48) = true := by rw [beq_iff_eq]; omega
  have c4 : ((((s[2]'hd).toNat : Nat) : Int) == 46) = true := by rw [beq_iff_eq]; omega
  have d4 : decide ((2 : Int) < (s.size : Int)) = true := decide_eq_true (by omega)
  have d4n : decide (2 < s.size) = true := decide_eq_true (by omega)
  have e4 : (2 : Int) + 1 = ((3 : Nat) : Int) := by omega
  have e5 : ((i2 : Int) == ((3 : Nat) : Int)) = false := by rw [beq_eq_false_iff_ne]; omega
  have e5m : ((i2 : Int) == 3) = false := by rw [beq_eq_false_iff_ne]; omega
  have e5n : i2 ≠ 3 := by omega
  have HR := Lib.hid hR
  have d5 : decide ((i2 : Int) < (s.size : Int)) = false := decide_eq_false (by omega)
  have d5n : decide (i2 < s.size) = false := decide_eq_false (by omega)
  have d9 : ((i2 : Int) == (s.size : Int)) = true := by rw [beq_iff_eq]; omega
  have HEND := Lib.hid hend
  clear hR hend
  go_enter Tryd.func7, Tryd.ntmps7
  go_wp2
  go_loopw [4] (fun vi wr => ∃ j : Nat, vi = .int .i64 j ∧ 3 ≤ j ∧ j ≤ i2 ∧ w = wr) (fun vi _ => i2 - (intOf vi).toNat)
  case atStart => exact ⟨3, rfl, Nat.le_refl _, by omega, by trivial⟩
  case round =>
    obtain ⟨j, rfl, hj0, hj, hww⟩ := hrel
    subst hww
    by_cases hlt : j < i2
    · have q : j < s.size := by omega
      have t1 : decide ((j : Int) < (s.size : Int)) = true := decide_eq_true (by omega)
      have t1n : decide (j < s.size) = true := decide_eq_true q
      have HY : Hid ((48 : Int) ≤ ((s[j]'q).toNat : Int) ∧ ((s[j]'q).toNat : Int) ≤ 57) := Lib.hid (by have h := HR.out j q hj0 hlt; omega)
      go_wp2_with (go_at_call 11; refine (digit_yes _ HY.out.1 HY.out.2 _).mono ?_; rintro r w2 ⟨rfl, rfl⟩)
      go_roundw
      case rel => exact ⟨j + 1, by go_num, by omega, by omega, by trivial⟩
      case measure => simp [intOf]; omega
    · obtain rfl : i2 = j := by omega
      clear hlt hj
      go_wp2
      go_ret
      exact ⟨rfl, rfl⟩


set_option maxRecDepth 100000 in
set_option maxHeartbeats 2000000 in
theorem js_nd (s : ByteArray) (i1 : Nat) (hs : s.size ≤ 1000) (h0 : 1 < s.size) (m0 : (s[0]'(by omega)).toNat = 45) (m1 : 49 ≤ (s[1]'(by omega)).toNat) (m2 : (s[1]'(by omega)).toNat ≤ 57) (hi1 : 1 < i1) (hI : ∀ i (q : i < s.size), 1 ≤ i → i < i1 → 48 ≤ s[i].toNat ∧ s[i].toNat ≤ 57) (hend : s.size = i1) (w : World) :
    Calls Tryd.prog 7 #[.string s] w fun r w' => r = .returned (.bool true) ∧ w = w' := by
  have p0 : 0 < s.size := by omega
  have p1 : 1 < s.size := by omega
  have b1 : i1 ≤ s.size := by omega
  have c0 : ((((s[0]'p0).toNat : Nat) : Int) == 45) = true := by rw [beq_iff_eq]; omega
  have d0 : decide ((0 : Int) < (s.size : Int)) = true := decide_eq_true (by omega)
  have d0n : decide (0 < s.size) = true := decide_eq_true (by omega)
  have dzz : ¬ s = ByteArray.empty := fun e => by rw [e] at h0; exact absurd h0 (by decide)
  have dz : decide (s = ByteArray.empty) = false := decide_eq_false dzz
  have d1 : decide ((1 : Int) ≥ (s.size : Int)) = false := decide_eq_false (by omega)
  have d1n : decide (s.size ≤ 1) = false := decide_eq_false (by omega)
  have c1 : ((((s[1]'p1).toNat : Nat) : Int) == 48) = false := by rw [beq_eq_false_iff_ne]; omega
  have c2 : decide ((((s[1]'p1).toNat : Nat) : Int) ≥ 49) = true := decide_eq_true (by omega)
  have c3 : decide ((((s[1]'p1).toNat : Nat) : Int) ≤ 57) = true := decide_eq_true (by omega)
  have HI := Lib.hid hI
  have d4 : decide ((i1 : Int) < (s.size : Int)) = false := decide_eq_false (by omega)
  have d4n : decide (i1 < s.size) = false := decide_eq_false (by omega)
  have d9 : ((i1 : Int) == (s.size : Int)) = true := by rw [beq_iff_eq]; omega
  have HEND := Lib.hid hend
  clear hI hend
  go_enter Tryd.func7, Tryd.ntmps7
  go_wp2
  go_loopw [4] (fun vi wr => ∃ j : Nat, vi = .int .i64 j ∧ 1 ≤ j ∧ j ≤ i1 ∧ w = wr) (fun vi _ => i1 - (intOf vi).toNat)
  case atStart => exact ⟨1, rfl, Nat.le_refl _, by omega, by trivial⟩
  case round =>
    obtain ⟨j, rfl, hj0, hj, hww⟩ := hrel
    subst hww
    by_cases hlt : j < i1
    · have q : j < s.size := by omega
      have t1 : decide ((j : Int) < (s.size : Int)) = true := decide_eq_true (by omega)
      have t1n : decide (j < s.size) = true := decide_eq_true q
      have HY : Hid ((48 : Int) ≤ ((s[j]'q).toNat : Int) ∧ ((s[j]'q).toNat : Int) ≤ 57) := Lib.hid (by have h := HI.out j q hj0 hlt; omega)
      go_wp2_with (go_at_call 11; refine (digit_yes _ HY.out.1 HY.out.2 _).mono ?_; rintro r w2 ⟨rfl, rfl⟩)
      go_roundw
      case rel => exact ⟨j + 1, by go_num, by omega, by omega, by trivial⟩
      case measure => simp [intOf]; omega
    · obtain rfl : i1 = j := by omega
      clear hlt hj
      go_wp2
      go_ret
      exact ⟨rfl, rfl⟩


set_option maxRecDepth 100000 in
set_option maxHeartbeats 2000000 in
theorem js_nde (s : ByteArray) (i1 k1 k2 : Nat) (hs : s.size ≤ 1000) (h0 : 1 < s.size) (m0 : (s[0]'(by omega)).toNat = 45) (m1 : 49 ≤ (s[1]'(by omega)).toNat) (m2 : (s[1]'(by omega)).toNat ≤ 57) (hi1 : 1 < i1) (hI : ∀ i (q : i < s.size), 1 ≤ i → i < i1 → 48 ≤ s[i].toNat ∧ s[i].toNat ≤ 57) (hk1 : k1 = i1 + 1) (hk2 : k2 = k1 + 1) (hk3 : k2 < s.size) (p3 : i1 < s.size) (p4 : k1 < s.size) (m4 : (s[i1]'p3).toNat = 101) (m5 : (s[k1]'p4).toNat = 43 ∨ (s[k1]'p4).toNat = 45) (m6 : 49 ≤ (s[k2]'hk3).toNat) (m7 : (s[k2]'hk3).toNat ≤ 57) (hX : ∀ i (q : i < s.size), k2 ≤ i → i < s.size → 48 ≤ s[i].toNat ∧ s[i].toNat ≤ 57) (w : World) :
    Calls Tryd.prog 7 #[.string s] w fun r w' => r = .returned (.bool true) ∧ w = w' := by
  have p0 : 0 < s.size := by omega
  have p1 : 1 < s.size := by omega
  have b1 : i1 ≤ s.size := by omega
  have p2 : i1 < s.size := by omega
  have c0 : ((((s[0]'p0).toNat : Nat) : Int) == 45) = true := by rw [beq_iff_eq]; omega
  have d0 : decide ((0 : Int) < (s.size : Int)) = true := decide_eq_true (by omega)
  have d0n : decide (0 < s.size) = true := decide_eq_true (by omega)
  have dzz : ¬ s = ByteArray.empty := fun e => by rw [e] at h0; exact absurd h0 (by decide)
  have dz : decide (s = ByteArray.empty) = false := decide_eq_false dzz
  have d1 : decide ((1 : Int) ≥ (s.size : Int)) = false := decide_eq_false (by omega)
  have d1n : decide (s.size ≤ 1) = false := decide_eq_false (by omega)
  have c1 : ((((s[1]'p1).toNat : Nat) : Int) == 48) = false := by rw [beq_eq_false_iff_ne]; omega
  have c2 : decide ((((s[1]'p1).toNat : Nat) : Int) ≥ 49) = true := decide_eq_true (by omega)
  have c3 : decide ((((s[1]'p1).toNat : Nat) : Int) ≤ 57) = true := decide_eq_true (by omega)
  have HI := Lib.hid hI
  have c4 : ((((s[i1]'p2).toNat : Nat) : Int) == 46) = false := by rw [beq_eq_false_iff_ne]; omega
  have d4 : decide ((i1 : Int) < (s.size : Int)) = true := decide_eq_true (by omega)
  have d4n : decide (i1 < s.size) = true := decide_eq_true (by omega)
  have c5 : ((((s[i1]'p3).toNat : Nat) : Int) == 101) = true := by rw [beq_iff_eq]; omega
  have d5 : decide ((i1 : Int) < (s.size : Int)) = true := decide_eq_true (by omega)
  have d5n : decide (i1 < s.size) = true := decide_eq_true (by omega)
  have e6 : (i1 : Int) + 1 = (k1 : Int) := by omega
  have e7 : (k1 : Int) + 1 = (k2 : Int) := by omega
  have d6 : decide ((k1 : Int) < (s.size : Int)) = true := decide_eq_true (by omega)
  have d6n : decide (k1 < s.size) = true := decide_eq_true (by omega)
  have d7 : decide ((k2 : Int) ≥ (s.size : Int)) = false := decide_eq_false (by omega)
  have d7n : decide (s.size ≤ k2) = false := decide_eq_false (by omega)
  have c6 : decide ((((s[k2]'hk3).toNat : Nat) : Int) < 49) = false := decide_eq_false (by omega)
  have c7 : decide ((((s[k2]'hk3).toNat : Nat) : Int) > 57) = false := decide_eq_false (by omega)
  have HX := Lib.hid hX
  clear hI hX hk1 hk2
  rcases m5 with m5 | m5
  · have c8 : ((((s[k1]'p4).toNat : Nat) : Int) == 43) = true := by rw [beq_iff_eq]; omega
    have c9 : ((((s[k1]'p4).toNat : Nat) : Int) == 45) = false := by rw [beq_eq_false_iff_ne]; omega
    go_enter Tryd.func7, Tryd.ntmps7
    go_wp2
    go_loopw [4] (fun vi wr => ∃ j : Nat, vi = .int .i64 j ∧ 1 ≤ j ∧ j ≤ i1 ∧ w = wr) (fun vi _ => i1 - (intOf vi).toNat)
    case atStart => exact ⟨1, rfl, Nat.le_refl _, by omega, by trivial⟩
    case round =>
      obtain ⟨j, rfl, hj0, hj, hww⟩ := hrel
      subst hww
      by_cases hlt : j < i1
      · have q : j < s.size := by omega
        have t1 : decide ((j : Int) < (s.size : Int)) = true := decide_eq_true (by omega)
        have t1n : decide (j < s.size) = true := decide_eq_true q
        have HY : Hid ((48 : Int) ≤ ((s[j]'q).toNat : Int) ∧ ((s[j]'q).toNat : Int) ≤ 57) := Lib.hid (by have h := HI.out j q hj0 hlt; omega)
        go_wp2_with (go_at_call 11; refine (digit_yes _ HY.out.1 HY.out.2 _).mono ?_; rintro r w2 ⟨rfl, rfl⟩)
        go_roundw
        case rel => exact ⟨j + 1, by go_num, by omega, by omega, by trivial⟩
        case measure => simp [intOf]; omega
      · obtain rfl : i1 = j := by omega
        clear hlt hj
        have HN : Hid (((s[i1]'p2).toNat : Int) < 48 ∨ 57 < ((s[i1]'p2).toNat : Int)) := Lib.hid (by omega)
        go_wp2_with (first | (go_at_call 11; (with_reducible refine (digit_no 46 (by decide) _).mono ?_); rintro r w2 ⟨rfl, rfl⟩) | (go_at_call 11; (with_reducible refine (digit_no 101 (by decide) _).mono ?_); rintro r w2 ⟨rfl, rfl⟩) | (go_at_call 11; (with_reducible refine (digit_no _ HN.out _).mono ?_); rintro r w2 ⟨rfl, rfl⟩))
        go_loopw [4] (fun vi wr => ∃ j : Nat, vi = .int .i64 j ∧ k2 ≤ j ∧ j ≤ s.size ∧ w = wr) (fun vi _ => s.size - (intOf vi).toNat)
        case atStart => exact ⟨k2, rfl, Nat.le_refl _, by omega, by trivial⟩
        case round =>
          obtain ⟨j, rfl, hj0, hj, hww⟩ := hrel
          subst hww
          by_cases hlt : j < s.size
          · have q : j < s.size := by omega
            have t1 : decide ((j : Int) < (s.size : Int)) = true := decide_eq_true (by omega)
            have t1n : decide (j < s.size) = true := decide_eq_true q
            have HY : Hid ((48 : Int) ≤ ((s[j]'q).toNat : Int) ∧ ((s[j]'q).toNat : Int) ≤ 57) := Lib.hid (by have h := HX.out j q hj0 hlt; omega)
            go_wp2_with (go_at_call 11; refine (digit_yes _ HY.out.1 HY.out.2 _).mono ?_; rintro r w2 ⟨rfl, rfl⟩)
            go_roundw
            case rel => exact ⟨j + 1, by go_num, by omega, by omega, by trivial⟩
            case measure => simp [intOf]; omega
          · obtain rfl : s.size = j := by omega
            clear hlt hj
            have t1 : decide ((s.size : Int) < (s.size : Int)) = false := decide_eq_false (by omega)
            go_wp2
            go_ret
            exact ⟨rfl, rfl⟩
  · have c8 : ((((s[k1]'p4).toNat : Nat) : Int) == 43) = false := by rw [beq_eq_false_iff_ne]; omega
    have c9 : ((((s[k1]'p4).toNat : Nat) : Int) == 45) = true := by rw [beq_iff_eq]; omega
    go_enter Tryd.func7, Tryd.ntmps7
    go_wp2
    go_loopw [4] (fun vi wr => ∃ j : Nat, vi = .int .i64 j ∧ 1 ≤ j ∧ j ≤ i1 ∧ w = wr) (fun vi _ => i1 - (intOf vi).toNat)
    case atStart => exact ⟨1, rfl, Nat.le_refl _, by omega, by trivial⟩
    case round =>
      obtain ⟨j, rfl, hj0, hj, hww⟩ := hrel
      subst hww
      by_cases hlt : j < i1
      · have q : j < s.size := by omega
        have t1 : decide ((j : Int) < (s.size : Int)) = true := decide_eq_true (by omega)
        have t1n : decide (j < s.size) = true := decide_eq_true q
        have HY : Hid ((48 : Int) ≤ ((s[j]'q).toNat : Int) ∧ ((s[j]'q).toNat : Int) ≤ 57) := Lib.hid (by have h := HI.out j q hj0 hlt; omega)
        go_wp2_with (go_at_call 11; refine (digit_yes _ HY.out.1 HY.out.2 _).mono ?_; rintro r w2 ⟨rfl, rfl⟩)
        go_roundw
        case rel => exact ⟨j + 1, by go_num, by omega, by omega, by trivial⟩
        case measure => simp [intOf]; omega
      · obtain rfl : i1 = j := by omega
        clear hlt hj
        have HN : Hid (((s[i1]'p2).toNat : Int) < 48 ∨ 57 < ((s[i1]'p2).toNat : Int)) := Lib.hid (by omega)
        go_wp2_with (first | (go_at_call 11; (with_reducible refine (digit_no 46 (by decide) _).mono ?_); rintro r w2 ⟨rfl, rfl⟩) | (go_at_call 11; (with_reducible refine (digit_no 101 (by decide) _).mono ?_); rintro r w2 ⟨rfl, rfl⟩) | (go_at_call 11; (with_reducible refine (digit_no _ HN.out _).mono ?_); rintro r w2 ⟨rfl, rfl⟩))
        go_loopw [4] (fun vi wr => ∃ j : Nat, vi = .int .i64 j ∧ k2 ≤ j ∧ j ≤ s.size ∧ w = wr) (fun vi _ => s.size - (intOf vi).toNat)
        case atStart => exact ⟨k2, rfl, Nat.le_refl _, by omega, by trivial⟩
        case round =>
          obtain ⟨j, rfl, hj0, hj, hww⟩ := hrel
          subst hww
          by_cases hlt : j < s.size
          · have q : j < s.size := by omega
            have t1 : decide ((j : Int) < (s.size : Int)) = true := decide_eq_true (by omega)
            have t1n : decide (j < s.size) = true := decide_eq_true q
            have HY : Hid ((48 : Int) ≤ ((s[j]'q).toNat : Int) ∧ ((s[j]'q).toNat : Int) ≤ 57) := Lib.hid (by have h := HX.out j q hj0 hlt; omega)
            go_wp2_with (go_at_call 11; refine (digit_yes _ HY.out.1 HY.out.2 _).mono ?_; rintro r w2 ⟨rfl, rfl⟩)
            go_roundw
            case rel => exact ⟨j + 1, by go_num, by omega, by omega, by trivial⟩
            case measure => simp [intOf]; omega
          · obtain rfl : s.size = j := by omega
            clear hlt hj
            have t1 : decide ((s.size : Int) < (s.size : Int)) = false := decide_eq_false (by omega)
            go_wp2
            go_ret
            exact ⟨rfl, rfl⟩


set_option maxRecDepth 100000 in
set_option maxHeartbeats 2000000 in
theorem js_ndf (s : ByteArray) (i1 j1 i2 : Nat) (hs : s.size ≤ 1000) (h0 : 1 < s.size) (m0 : (s[0]'(by omega)).toNat = 45) (m1 : 49 ≤ (s[1]'(by omega)).toNat) (m2 : (s[1]'(by omega)).toNat ≤ 57) (hi1 : 1 < i1) (hI : ∀ i (q : i < s.size), 1 ≤ i → i < i1 → 48 ≤ s[i].toNat ∧ s[i].toNat ≤ 57) (hj1 : j1 = i1 + 1) (hi2 : j1 < i2) (hd : i1 < s.size) (m3 : (s[i1]'hd).toNat = 46) (hR : ∀ i (q : i < s.size), j1 ≤ i → i < i2 → 48 ≤ s[i].toNat ∧ s[i].toNat ≤ 57) (hend : s.size = i2) (w : World) :
    Calls Tryd.prog 7 #[.string s] w fun r w' => r = .returned (.bool true) ∧ w = w' := by
  have p0 : 0 < s.size := by omega
  have p1 : 1 < s.size := by omega
  have b1 : i1 ≤ s.size := by omega
  have b2 : i2 ≤ s.size := by omega
  have c0 : ((((s[0]'p0).toNat : Nat) : Int) == 45) = true := by rw [beq_iff_eq]; omega
  have d0 : decide ((0 : Int) < (s.size : Int)) = true := decide_eq_true (by omega)
  have d0n : decide (0 < s.size) = true := decide_eq_true (by omega)
  have dzz : ¬ s = ByteArray.empty := fun e => by rw [e] at h0; exact absurd h0 (by decide)
  have dz : decide (s = ByteArray.empty) = false := decide_eq_false dzz
  have d1 : decide ((1 : Int) ≥ (s.size : Int)) = false := decide_eq_false (by omega)
  have d1n : decide (s.size ≤ 1) = false := decide_eq_false (by omega)
  have c1 : ((((s[1]'p1).toNat : Nat) : Int) == 48) = false := by rw [beq_eq_false_iff_ne]; omega
  have c2 : decide ((((s[1]'p1).toNat : Nat) : Int) ≥ 49) = true := decide_eq_true (by omega)
  have c3 : decide ((((s[1]'p1).toNat : Nat) : Int) ≤ 57) = true := decide_eq_true (by omega)
  have HI := Lib.hid hI
  have c4 : ((((s[i1]'hd).toNat : Nat) : Int) == 46) = true := by rw [beq_iff_eq]; omega
  have d4 : decide ((i1 : Int) < (s.size : Int)) = true := decide_eq_true (by omega)
  have d4n : decide (i1 < s.size) = true := decide_eq_true (by omega)
  have e4 : (i1 : Int) + 1 = ((j1 : Nat) : Int) := by omega
  have e5 : ((i2 : Int) == ((j1 : Nat) : Int)) = false := by rw [beq_eq_false_iff_ne]; omega
  have e5m : ((i2 : Int) == j1) = false := by rw [beq_eq_false_iff_ne]; omega
  have e5n : i2 ≠ j1 := by omega
  have HR := Lib.hid hR
  have d5 : decide ((i2 : Int) < (s.size : Int)) = false := decide_eq_false (by omega)
  have d5n : decide (i2 < s.size) = false := decide_eq_false (by omega)
  have d9 : ((i2 : Int) == (s.size : Int)) = true := by rw [beq_iff_eq]; omega
  have HEND := Lib.hid hend
  clear hI hR hend hj1
  go_enter Tryd.func7, Tryd.ntmps7
  go_wp2
  go_loopw [4] (fun vi wr => ∃ j : Nat, vi = .int .i64 j ∧ 1 ≤ j ∧ j ≤ i1 ∧ w = wr) (fun vi _ => i1 - (intOf vi).toNat)
  case atStart => exact ⟨1, rfl, Nat.le_refl _, by omega, by trivial⟩
  case round =>
    obtain ⟨j, rfl, hj0, hj, hww⟩ := hrel
    subst hww
    by_cases hlt : j < i1
    · have q : j < s.size := by omega
      have t1 : decide ((j : Int) < (s.size : Int)) = true := decide_eq_true (by omega)
      have t1n : decide (j < s.size) = true := decide_eq_true q
      have HY : Hid ((48 : Int) ≤ ((s[j]'q).toNat : Int) ∧ ((s[j]'q).toNat : Int) ≤ 57) := Lib.hid (by have h := HI.out j q hj0 hlt; omega)
      go_wp2_with (go_at_call 11; refine (digit_yes _ HY.out.1 HY.out.2 _).mono ?_; rintro r w2 ⟨rfl, rfl⟩)
      go_roundw
      case rel => exact ⟨j + 1, by go_num, by omega, by omega, by trivial⟩
      case measure => simp [intOf]; omega
    · obtain rfl : i1 = j := by omega
      clear hlt hj
      have HN : Hid (((s[i1]'hd).toNat : Int) < 48 ∨ 57 < ((s[i1]'hd).toNat : Int)) := Lib.hid (by omega)
      go_wp2_with (first | (go_at_call 11; (with_reducible refine (digit_no 46 (by decide) _).mono ?_); rintro r w2 ⟨rfl, rfl⟩) | (go_at_call 11; (with_reducible refine (digit_no 101 (by decide) _).mono ?_); rintro r w2 ⟨rfl, rfl⟩) | (go_at_call 11; (with_reducible refine (digit_no _ HN.out _).mono ?_); rintro r w2 ⟨rfl, rfl⟩))
      go_loopw [4] (fun vi wr => ∃ j : Nat, vi = .int .i64 j ∧ j1 ≤ j ∧ j ≤ i2 ∧ w = wr) (fun vi _ => i2 - (intOf vi).toNat)
      case atStart => exact ⟨j1, rfl, Nat.le_refl _, by omega, by trivial⟩
      case round =>
        obtain ⟨j, rfl, hj0, hj, hww⟩ := hrel
        subst hww
        by_cases hlt : j < i2
        · have q : j < s.size := by omega
          have t1 : decide ((j : Int) < (s.size : Int)) = true := decide_eq_true (by omega)
          have t1n : decide (j < s.size) = true := decide_eq_true q
          have HY : Hid ((48 : Int) ≤ ((s[j]'q).toNat : Int) ∧ ((s[j]'q).toNat : Int) ≤ 57) := Lib.hid (by have h := HR.out j q hj0 hlt; omega)
          go_wp2_with (go_at_call 11; refine (digit_yes _ HY.out.1 HY.out.2 _).mono ?_; rintro r w2 ⟨rfl, rfl⟩)
          go_roundw
          case rel => exact ⟨j + 1, by go_num, by omega, by omega, by trivial⟩
          case measure => simp [intOf]; omega
        · obtain rfl : i2 = j := by omega
          clear hlt hj
          go_wp2
          go_ret
          exact ⟨rfl, rfl⟩


set_option maxRecDepth 100000 in
set_option maxHeartbeats 2000000 in
theorem js_ndfe (s : ByteArray) (i1 j1 i2 k1 k2 : Nat) (hs : s.size ≤ 1000) (h0 : 1 < s.size) (m0 : (s[0]'(by omega)).toNat = 45) (m1 : 49 ≤ (s[1]'(by omega)).toNat) (m2 : (s[1]'(by omega)).toNat ≤ 57) (hi1 : 1 < i1) (hI : ∀ i (q : i < s.size), 1 ≤ i → i < i1 → 48 ≤ s[i].toNat ∧ s[i].toNat ≤ 57) (hj1 : j1 = i1 + 1) (hi2 : j1 < i2) (hd : i1 < s.size) (m3 : (s[i1]'hd).toNat = 46) (hR : ∀ i (q : i < s.size), j1 ≤ i → i < i2 → 48 ≤ s[i].toNat ∧ s[i].toNat ≤ 57) (hk1 : k1 = i2 + 1) (hk2 : k2 = k1 + 1) (hk3 : k2 < s.size) (p3 : i2 < s.size) (p4 : k1 < s.size) (m4 : (s[i2]'p3).toNat = 101) (m5 : (s[k1]'p4).toNat = 43 ∨ (s[k1]'p4).toNat = 45) (m6 : 49 ≤ (s[k2]'hk3).toNat) (m7 : (s[k2]'hk3).toNat ≤ 57) (hX : ∀ i (q : i < s.size), k2 ≤ i → i < s.size → 48 ≤ s[i].toNat ∧ s[i].toNat ≤ 57) (w : World) :
    Calls Tryd.prog 7 #[.string s] w fun r w' => r = .returned (.bool true) ∧ w = w' := by
  have p0 : 0 < s.size := by omega
  have p1 : 1 < s.size := by omega
  have b1 : i1 ≤ s.size := by omega
  have b2 : i2 ≤ s.size := by omega
  have p2 : i1 < s.size := by omega
  have c0 : ((((s[0]'p0).toNat : Nat) : Int) == 45) = true := by rw [beq_iff_eq]; omega
  have d0 : decide ((0 : Int) < (s.size : Int)) = true := decide_eq_true (by omega)
  have d0n : decide (0 < s.size) = true := decide_eq_true (by omega)
  have dzz : ¬ s = ByteArray.empty := fun e => by rw [e] at h0; exact absurd h0 (by decide)
  have dz : decide (s = ByteArray.empty) = false := decide_eq_false dzz
  have d1 : decide ((1 : Int) ≥ (s.size : Int)) = false := decide_eq_false (by omega)
  have d1n : decide (s.size ≤ 1) = false := decide_eq_false (by omega)
  have c1 : ((((s[1]'p1).toNat : Nat) : Int) == 48) = false := by rw [beq_eq_false_iff_ne]; omega
  have c2 : decide ((((s[1]'p1).toNat : Nat) : Int) ≥ 49) = true := decide_eq_true (by omega)
  have c3 : decide ((((s[1]'p1).toNat : Nat) : Int) ≤ 57) = true := decide_eq_true (by omega)
  have HI := Lib.hid hI
  have c4 : ((((s[i1]'hd).toNat : Nat) : Int) == 46) = true := by rw [beq_iff_eq]; omega
  have d4 : decide ((i1 : Int) < (s.size : Int)) = true := decide_eq_true (by omega)
  have d4n : decide (i1 < s.size) = true := decide_eq_true (by omega)
  have e4 : (i1 : Int) + 1 = ((j1 : Nat) : Int) := by omega
  have e5 : ((i2 : Int) == ((j1 : Nat) : Int)) = false := by rw [beq_eq_false_iff_ne]; omega
  have e5m : ((i2 : Int) == j1) = false := by rw [beq_eq_false_iff_ne]; omega
  have e5n : i2 ≠ j1 := by omega
  have HR := Lib.hid hR
  have c5 : ((((s[i2]'p3).toNat : Nat) : Int) == 101) = true := by rw [beq_iff_eq]; omega
  have d5 : decide ((i2 : Int) < (s.size : Int)) = true := decide_eq_true (by omega)
  have d5n : decide (i2 < s.size) = true := decide_eq_true (by omega)
  have e6 : (i2 : Int) + 1 = (k1 : Int) := by omega
  have e7 : (k1 : Int) + 1 = (k2 : Int) := by omega
  have d6 : decide ((k1 : Int) < (s.size : Int)) = true := decide_eq_true (by omega)
  have d6n : decide (k1 < s.size) = true := decide_eq_true (by omega)
  have d7 : decide ((k2 : Int) ≥ (s.size : Int)) = false := decide_eq_false (by omega)
  have d7n : decide (s.size ≤ k2) = false := decide_eq_false (by omega)
  have c6 : decide ((((s[k2]'hk3).toNat : Nat) : Int) < 49) = false := decide_eq_false (by omega)
  have c7 : decide ((((s[k2]'hk3).toNat : Nat) : Int) > 57) = false := decide_eq_false (by omega)
  have HX := Lib.hid hX
  clear hI hR hX hk1 hk2 hj1
  rcases m5 with m5 | m5
  · have c8 : ((((s[k1]'p4).toNat : Nat) : Int) == 43) = true := by rw [beq_iff_eq]; omega
    have c9 : ((((s[k1]'p4).toNat : Nat) : Int) == 45) = false := by rw [beq_eq_false_iff_ne]; omega
    go_enter Tryd.func7, Tryd.ntmps7
    go_wp2
    go_loopw [4] (fun vi wr => ∃ j : Nat, vi = .int .i64 j ∧ 1 ≤ j ∧ j ≤ i1 ∧ w = wr) (fun vi _ => i1 - (intOf vi).toNat)
    case atStart => exact ⟨1, rfl, Nat.le_refl _, by omega, by trivial⟩
    case round =>
      obtain ⟨j, rfl, hj0, hj, hww⟩ := hrel
      subst hww
      by_cases hlt : j < i1
      · have q : j < s.size := by omega
        have t1 : decide ((j : Int) < (s.size : Int)) = true := decide_eq_true (by omega)
        have t1n : decide (j < s.size) = true := decide_eq_true q
        have HY : Hid ((48 : Int) ≤ ((s[j]'q).toNat : Int) ∧ ((s[j]'q).toNat : Int) ≤ 57) := Lib.hid (by have h := HI.out j q hj0 hlt; omega)
        go_wp2_with (go_at_call 11; refine (digit_yes _ HY.out.1 HY.out.2 _).mono ?_; rintro r w2 ⟨rfl, rfl⟩)
        go_roundw
        case rel => exact ⟨j + 1, by go_num, by omega, by omega, by trivial⟩
        case measure => simp [intOf]; omega
      · obtain rfl : i1 = j := by omega
        clear hlt hj
        have HN : Hid (((s[i1]'hd).toNat : Int) < 48 ∨ 57 < ((s[i1]'hd).toNat : Int)) := Lib.hid (by omega)
        go_wp2_with (first | (go_at_call 11; (with_reducible refine (digit_no 46 (by decide) _).mono ?_); rintro r w2 ⟨rfl, rfl⟩) | (go_at_call 11; (with_reducible refine (digit_no 101 (by decide) _).mono ?_); rintro r w2 ⟨rfl, rfl⟩) | (go_at_call 11; (with_reducible refine (digit_no _ HN.out _).mono ?_); rintro r w2 ⟨rfl, rfl⟩))
        go_loopw [4] (fun vi wr => ∃ j : Nat, vi = .int .i64 j ∧ j1 ≤ j ∧ j ≤ i2 ∧ w = wr) (fun vi _ => i2 - (intOf vi).toNat)
        case atStart => exact ⟨j1, rfl, Nat.le_refl _, by omega, by trivial⟩
        case round =>
          obtain ⟨j, rfl, hj0, hj, hww⟩ := hrel
          subst hww
          by_cases hlt : j < i2
          · have q : j < s.size := by omega
            have t1 : decide ((j : Int) < (s.size : Int)) = true := decide_eq_true (by omega)
            have t1n : decide (j < s.size) = true := decide_eq_true q
            have HY : Hid ((48 : Int) ≤ ((s[j]'q).toNat : Int) ∧ ((s[j]'q).toNat : Int) ≤ 57) := Lib.hid (by have h := HR.out j q hj0 hlt; omega)
            go_wp2_with (go_at_call 11; refine (digit_yes _ HY.out.1 HY.out.2 _).mono ?_; rintro r w2 ⟨rfl, rfl⟩)
            go_roundw
            case rel => exact ⟨j + 1, by go_num, by omega, by omega, by trivial⟩
            case measure => simp [intOf]; omega
          · obtain rfl : i2 = j := by omega
            clear hlt hj
            have HN : Hid (((s[i2]'p3).toNat : Int) < 48 ∨ 57 < ((s[i2]'p3).toNat : Int)) := Lib.hid (by omega)
            go_wp2_with (first | (go_at_call 11; (with_reducible refine (digit_no 46 (by decide) _).mono ?_); rintro r w2 ⟨rfl, rfl⟩) | (go_at_call 11; (with_reducible refine (digit_no 101 (by decide) _).mono ?_); rintro r w2 ⟨rfl, rfl⟩) | (go_at_call 11; (with_reducible refine (digit_no _ HN.out _).mono ?_); rintro r w2 ⟨rfl, rfl⟩))
            go_loopw [4] (fun vi wr => ∃ j : Nat, vi = .int .i64 j ∧ k2 ≤ j ∧ j ≤ s.size ∧ w = wr) (fun vi _ => s.size - (intOf vi).toNat)
            case atStart => exact ⟨k2, rfl, Nat.le_refl _, by omega, by trivial⟩
            case round =>
              obtain ⟨j, rfl, hj0, hj, hww⟩ := hrel
              subst hww
              by_cases hlt : j < s.size
              · have q : j < s.size := by omega
                have t1 : decide ((j : Int) < (s.size : Int)) = true := decide_eq_true (by omega)
                have t1n : decide (j < s.size) = true := decide_eq_true q
                have HY : Hid ((48 : Int) ≤ ((s[j]'q).toNat : Int) ∧ ((s[j]'q).toNat : Int) ≤ 57) := Lib.hid (by have h := HX.out j q hj0 hlt; omega)
                go_wp2_with (go_at_call 11; refine (digit_yes _ HY.out.1 HY.out.2 _).mono ?_; rintro r w2 ⟨rfl, rfl⟩)
                go_roundw
                case rel => exact ⟨j + 1, by go_num, by omega, by omega, by trivial⟩
                case measure => simp [intOf]; omega
              · obtain rfl : s.size = j := by omega
                clear hlt hj
                have t1 : decide ((s.size : Int) < (s.size : Int)) = false := decide_eq_false (by omega)
                go_wp2
                go_ret
                exact ⟨rfl, rfl⟩
  · have c8 : ((((s[k1]'p4).toNat : Nat) : Int) == 43) = false := by rw [beq_eq_false_iff_ne]; omega
    have c9 : ((((s[k1]'p4).toNat : Nat) : Int) == 45) = true := by rw [beq_iff_eq]; omega
    go_enter Tryd.func7, Tryd.ntmps7
    go_wp2
    go_loopw [4] (fun vi wr => ∃ j : Nat, vi = .int .i64 j ∧ 1 ≤ j ∧ j ≤ i1 ∧ w = wr) (fun vi _ => i1 - (intOf vi).toNat)
    case atStart => exact ⟨1, rfl, Nat.le_refl _, by omega, by trivial⟩
    case round =>
      obtain ⟨j, rfl, hj0, hj, hww⟩ := hrel
      subst hww
      by_cases hlt : j < i1
      · have q : j < s.size := by omega
        have t1 : decide ((j : Int) < (s.size : Int)) = true := decide_eq_true (by omega)
        have t1n : decide (j < s.size) = true := decide_eq_true q
        have HY : Hid ((48 : Int) ≤ ((s[j]'q).toNat : Int) ∧ ((s[j]'q).toNat : Int) ≤ 57) := Lib.hid (by have h := HI.out j q hj0 hlt; omega)
        go_wp2_with (go_at_call 11; refine (digit_yes _ HY.out.1 HY.out.2 _).mono ?_; rintro r w2 ⟨rfl, rfl⟩)
        go_roundw
        case rel => exact ⟨j + 1, by go_num, by omega, by omega, by trivial⟩
        case measure => simp [intOf]; omega
      · obtain rfl : i1 = j := by omega
        clear hlt hj
        have HN : Hid (((s[i1]'hd).toNat : Int) < 48 ∨ 57 < ((s[i1]'hd).toNat : Int)) := Lib.hid (by omega)
        go_wp2_with (first | (go_at_call 11; (with_reducible refine (digit_no 46 (by decide) _).mono ?_); rintro r w2 ⟨rfl, rfl⟩) | (go_at_call 11; (with_reducible refine (digit_no 101 (by decide) _).mono ?_); rintro r w2 ⟨rfl, rfl⟩) | (go_at_call 11; (with_reducible refine (digit_no _ HN.out _).mono ?_); rintro r w2 ⟨rfl, rfl⟩))
        go_loopw [4] (fun vi wr => ∃ j : Nat, vi = .int .i64 j ∧ j1 ≤ j ∧ j ≤ i2 ∧ w = wr) (fun vi _ => i2 - (intOf vi).toNat)
        case atStart => exact ⟨j1, rfl, Nat.le_refl _, by omega, by trivial⟩
        case round =>
          obtain ⟨j, rfl, hj0, hj, hww⟩ := hrel
          subst hww
          by_cases hlt : j < i2
          · have q : j < s.size := by omega
            have t1 : decide ((j : Int) < (s.size : Int)) = true := decide_eq_true (by omega)
            have t1n : decide (j < s.size) = true := decide_eq_true q
            have HY : Hid ((48 : Int) ≤ ((s[j]'q).toNat : Int) ∧ ((s[j]'q).toNat : Int) ≤ 57) := Lib.hid (by have h := HR.out j q hj0 hlt; omega)
            go_wp2_with (go_at_call 11; refine (digit_yes _ HY.out.1 HY.out.2 _).mono ?_; rintro r w2 ⟨rfl, rfl⟩)
            go_roundw
            case rel => exact ⟨j + 1, by go_num, by omega, by omega, by trivial⟩
            case measure => simp [intOf]; omega
          · obtain rfl : i2 = j := by omega
            clear hlt hj
            have HN : Hid (((s[i2]'p3).toNat : Int) < 48 ∨ 57 < ((s[i2]'p3).toNat : Int)) := Lib.hid (by omega)
            go_wp2_with (first | (go_at_call 11; (with_reducible refine (digit_no 46 (by decide) _).mono ?_); rintro r w2 ⟨rfl, rfl⟩) | (go_at_call 11; (with_reducible refine (digit_no 101 (by decide) _).mono ?_); rintro r w2 ⟨rfl, rfl⟩) | (go_at_call 11; (with_reducible refine (digit_no _ HN.out _).mono ?_); rintro r w2 ⟨rfl, rfl⟩))
            go_loopw [4] (fun vi wr => ∃ j : Nat, vi = .int .i64 j ∧ k2 ≤ j ∧ j ≤ s.size ∧ w = wr) (fun vi _ => s.size - (intOf vi).toNat)
            case atStart => exact ⟨k2, rfl, Nat.le_refl _, by omega, by trivial⟩
            case round =>
              obtain ⟨j, rfl, hj0, hj, hww⟩ := hrel
              subst hww
              by_cases hlt : j < s.size
              · have q : j < s.size := by omega
                have t1 : decide ((j : Int) < (s.size : Int)) = true := decide_eq_true (by omega)
                have t1n : decide (j < s.size) = true := decide_eq_true q
                have HY : Hid ((48 : Int) ≤ ((s[j]'q).toNat : Int) ∧ ((s[j]'q).toNat : Int) ≤ 57) := Lib.hid (by have h := HX.out j q hj0 hlt; omega)
                go_wp2_with (go_at_call 11; refine (digit_yes _ HY.out.1 HY.out.2 _).mono ?_; rintro r w2 ⟨rfl, rfl⟩)
                go_roundw
                case rel => exact ⟨j + 1, by go_num, by omega, by omega, by trivial⟩
                case measure => simp [intOf]; omega
              · obtain rfl : s.size = j := by omega
                clear hlt hj
                have t1 : decide ((s.size : Int) < (s.size : Int)) = false := decide_eq_false (by omega)
                go_wp2
                go_ret
                exact ⟨rfl, rfl⟩

end Go.Proofs.YtkincdcknmdboaaDoor
