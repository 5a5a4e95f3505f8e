/- The walk of zzRuneWidth: it steps as Go's decoder does. -/
import Derived.LoopTactic
import Derived.Test.YtdieahcigcdnpaaGreatDoorRows
import Derived.WalkKit
import Derived.ProofKit
import Derived.OpenShut
import Derived.WalkSpells
import Derived.WalkLawsBesides
import Derived.Outline
import Derived.Lib.Hide
import Derived.Test.YtdieahcigcdnpaaGreatDoorCom
import Derived.Test.YtdieahcigcdnpaaGreatDoorRU
namespace Go.Proofs.YtdieahcigcdnpaaGreatDoor
open Go.RowKit
set_option linter.unusedVariables false

theorem get_bang (s : ByteArray) (k : Nat) (h : k < s.size) : s.get! k = s[k]'h := by
  have := get_at s k h
  simpa using this

/-- which first bytes want how many bytes, and between which bounds the second must lie -/
def Cls (c need lo hi : Nat) : Prop :=
  (194 ≤ c ∧ c ≤ 223 ∧ need = 2 ∧ lo = 128 ∧ hi = 191) ∨ (c = 224 ∧ need = 3 ∧ lo = 160 ∧ hi = 191) ∨ (225 ≤ c ∧ c ≤ 236 ∧ need = 3 ∧ lo = 128 ∧ hi = 191) ∨ (c = 237 ∧ need = 3 ∧ lo = 128 ∧ hi = 159) ∨
  (238 ≤ c ∧ c ≤ 239 ∧ need = 3 ∧ lo = 128 ∧ hi = 191) ∨ (c = 240 ∧ need = 4 ∧ lo = 144 ∧ hi = 191) ∨ (241 ≤ c ∧ c ≤ 243 ∧ need = 4 ∧ lo = 128 ∧ hi = 191) ∨ (c = 244 ∧ need = 4 ∧ lo = 128 ∧ hi = 143)

theorem dec_width (s : ByteArray) (i need lo hi : Nat) (h : i < s.size) (hc : Cls (s.get! i).toNat need lo hi) :
    (Utf8.decode s i).2 = if i + need ≤ s.size ∧ lo ≤ (s.get! (i + 1)).toNat ∧ (s.get! (i + 1)).toNat ≤ hi ∧ (3 ≤ need → 128 ≤ (s.get! (i + 2)).toNat ∧ (s.get! (i + 2)).toNat ≤ 191) ∧ (4 ≤ need → 128 ≤ (s.get! (i + 3)).toNat ∧ (s.get! (i + 3)).toNat ≤ 191) then need else 1 := by
  have hb : ∀ k, (s.get! k).toNat < 256 := fun k => (s.get! k).toNat_lt
  have h1 := hb (i + 1); have h2 := hb (i + 2); have h3 := hb (i + 3)
  obtain ⟨c0, e0⟩ : ∃ c, (s.get! i).toNat = c := ⟨_, rfl⟩
  obtain ⟨c1, e1⟩ : ∃ c, (s.get! (i + 1)).toNat = c := ⟨_, rfl⟩
  obtain ⟨c2, e2⟩ : ∃ c, (s.get! (i + 2)).toNat = c := ⟨_, rfl⟩
  obtain ⟨c3, e3⟩ : ∃ c, (s.get! (i + 3)).toNat = c := ⟨_, rfl⟩
  simp only [Utf8.decode, Nat.add_zero, e0, e1, e2, e3]
  rw [e0] at hc
  rw [e1] at h1
  rw [e2] at h2
  rw [e3] at h3
  clear e0 e1 e2 e3 hb
  rcases hc with ⟨a, b, rfl, rfl, rfl⟩ | ⟨rfl, rfl, rfl, rfl⟩ | ⟨a, b, rfl, rfl, rfl⟩ | ⟨rfl, rfl, rfl, rfl⟩ | ⟨a, b, rfl, rfl, rfl⟩ | ⟨rfl, rfl, rfl, rfl⟩ | ⟨a, b, rfl, rfl, rfl⟩ | ⟨rfl, rfl, rfl, rfl⟩
  all_goals
    repeat' split
    all_goals first | rfl | (exfalso; simp [Utf8.valid] at * <;> omega)

theorem dec_ascii (s : ByteArray) (i : Nat) (h : i < s.size) (hc : (s.get! i).toNat < 128) : (Utf8.decode s i).2 = 1 := by
  simp only [Utf8.decode, Nat.add_zero]
  rw [if_pos hc]
theorem dec_other (s : ByteArray) (i : Nat) (h : i < s.size) (hc : (128 ≤ (s.get! i).toNat ∧ (s.get! i).toNat < 194) ∨ 244 < (s.get! i).toNat) : (Utf8.decode s i).2 = 1 := by
  have hb : ∀ k, (s.get! k).toNat < 256 := fun k => (s.get! k).toNat_lt
  have h0 := hb i; have h1 := hb (i + 1); have h2 := hb (i + 2); have h3 := hb (i + 3)
  obtain ⟨c0, e0⟩ : ∃ c, (s.get! i).toNat = c := ⟨_, rfl⟩
  obtain ⟨c1, e1⟩ : ∃ c, (s.get! (i + 1)).toNat = c := ⟨_, rfl⟩
  obtain ⟨c2, e2⟩ : ∃ c, (s.get! (i + 2)).toNat = c := ⟨_, rfl⟩
  obtain ⟨c3, e3⟩ : ∃ c, (s.get! (i + 3)).toNat = c := ⟨_, rfl⟩
  simp only [Utf8.decode, Nat.add_zero, e0, e1, e2, e3]
  rw [e0] at hc h0
  rw [e1] at h1
  rw [e2] at h2
  rw [e3] at h3
  clear e0 e1 e2 e3 hb
  repeat' split
  all_goals first | rfl | (exfalso; simp [Utf8.valid] at * <;> omega)

theorem rw_ascii (s : ByteArray) (i : Nat) (w : World) (h : i < s.size) (hs : s.size ≤ 1048576) (c0 : Int) (g0 : ((s[i]'h).toNat : Int) = c0) (q : c0 < 128) :
    Calls Tryz.prog 27 #[.string s, .int .i64 i] w fun r w' => r = .returned (.int .i64 1) ∧ w = w' := by
  go_enter Tryz.func27, Tryz.ntmps27
  go_wp2
  go_ret
  exact ⟨rfl, rfl⟩

theorem rw_low (s : ByteArray) (i : Nat) (w : World) (h : i < s.size) (hs : s.size ≤ 1048576) (c0 : Int) (g0 : ((s[i]'h).toNat : Int) = c0) (q : 128 ≤ c0 ∧ c0 < 194) :
    Calls Tryz.prog 27 #[.string s, .int .i64 i] w fun r w' => r = .returned (.int .i64 1) ∧ w = w' := by
  go_enter Tryz.func27, Tryz.ntmps27
  go_wp2
  go_ret
  exact ⟨rfl, rfl⟩

theorem rw_high (s : ByteArray) (i : Nat) (w : World) (h : i < s.size) (hs : s.size ≤ 1048576) (c0 : Int) (g0 : ((s[i]'h).toNat : Int) = c0) (q : 244 < c0) :
    Calls Tryz.prog 27 #[.string s, .int .i64 i] w fun r w' => r = .returned (.int .i64 1) ∧ w = w' := by
  go_enter Tryz.func27, Tryz.ntmps27
  go_wp2
  go_ret
  exact ⟨rfl, rfl⟩

theorem rw_two (s : ByteArray) (i : Nat) (w : World) (h : i < s.size) (hs : s.size ≤ 1048576) (c0 : Int) (g0 : ((s[i]'h).toNat : Int) = c0) (q : 194 ≤ c0 ∧ c0 ≤ 223) (D : Nat) (hD : D = if i + 2 ≤ s.size ∧ 128 ≤ (s.get! (i + 1)).toNat ∧ (s.get! (i + 1)).toNat ≤ 191 ∧ (3 ≤ 2 → 128 ≤ (s.get! (i + 2)).toNat ∧ (s.get! (i + 2)).toNat ≤ 191) ∧ (4 ≤ 2 → 128 ≤ (s.get! (i + 3)).toNat ∧ (s.get! (i + 3)).toNat ≤ 191) then 2 else 1) :
    Calls Tryz.prog 27 #[.string s, .int .i64 i] w fun r w' => r = .returned (.int .i64 D) ∧ w = w' := by
  obtain ⟨q0, q1⟩ := q
  by_cases hn : i + 2 ≤ s.size
  · have a1 := get_bang s (i + 1) (by omega)
    rw [a1] at hD
    obtain ⟨c1, g1⟩ : ∃ c1 : Int, ((s[i + 1]'(by omega)).toNat : Int) = c1 := ⟨_, rfl⟩
    have hyes : Hid (128 ≤ c1 ∧ c1 ≤ 191 → D = 2) := Lib.hid fun hq => by rw [hD, if_pos]; omega
    have hno : Hid (¬ (128 ≤ c1 ∧ c1 ≤ 191) → D = 1) := Lib.hid fun hq => by rw [hD, if_neg]; omega
    clear hD a1
    by_cases p1 : 128 ≤ c1 ∧ c1 ≤ 191
    · obtain ⟨p1, p1'⟩ := p1
      go_enter Tryz.func27, Tryz.ntmps27
      go_wp2
      go_loop [10] (fun vk => ∃ k : Nat, vk = .int .i64 k ∧ 2 ≤ k ∧ k ≤ 2) (fun vk => 2 - (intOf vk).toNat)
      case atStart => exact ⟨2, rfl, by omega, by omega⟩
      case round =>
        obtain ⟨k, rfl, hk0, hk1⟩ := hrel
        by_cases hlt : k < 2
        · omega
        · obtain rfl : k = 2 := by omega
          have e := hyes.out (by omega)
          subst e
          go_wp2
          go_ret
          exact ⟨rfl, rfl⟩
    · have e := hno.out (by omega)
      subst e
      clear hyes hno
      go_enter Tryz.func27, Tryz.ntmps27
      go_wp2
      all_goals first | (go_ret; exact ⟨rfl, rfl⟩) | (exfalso; omega)
  · rw [if_neg (by omega)] at hD
    subst hD
    go_enter Tryz.func27, Tryz.ntmps27
    go_wp2
    go_ret
    exact ⟨rfl, rfl⟩

theorem rw_e0 (s : ByteArray) (i : Nat) (w : World) (h : i < s.size) (hs : s.size ≤ 1048576) (c0 : Int) (g0 : ((s[i]'h).toNat : Int) = c0) (q : c0 = 224) (D : Nat) (hD : D = if i + 3 ≤ s.size ∧ 160 ≤ (s.get! (i + 1)).toNat ∧ (s.get! (i + 1)).toNat ≤ 191 ∧ (3 ≤ 3 → 128 ≤ (s.get! (i + 2)).toNat ∧ (s.get! (i + 2)).toNat ≤ 191) ∧ (4 ≤ 3 → 128 ≤ (s.get! (i + 3)).toNat ∧ (s.get! (i + 3)).toNat ≤ 191) then 3 else 1) :
    Calls Tryz.prog 27 #[.string s, .int .i64 i] w fun r w' => r = .returned (.int .i64 D) ∧ w = w' := by
  subst q
  by_cases hn : i + 3 ≤ s.size
  · have a1 := get_bang s (i + 1) (by omega)
    rw [a1] at hD
    obtain ⟨c1, g1⟩ : ∃ c1 : Int, ((s[i + 1]'(by omega)).toNat : Int) = c1 := ⟨_, rfl⟩
    have a2 := get_bang s (i + 2) (by omega)
    rw [a2] at hD
    obtain ⟨c2, g2⟩ : ∃ c2 : Int, ((s[i + 2]'(by omega)).toNat : Int) = c2 := ⟨_, rfl⟩
    have hyes : Hid (160 ≤ c1 ∧ c1 ≤ 191 ∧ 128 ≤ c2 ∧ c2 ≤ 191 → D = 3) := Lib.hid fun hq => by rw [hD, if_pos]; omega
    have hno : Hid (¬ (160 ≤ c1 ∧ c1 ≤ 191 ∧ 128 ≤ c2 ∧ c2 ≤ 191) → D = 1) := Lib.hid fun hq => by rw [hD, if_neg]; omega
    clear hD a1 a2
    by_cases p1 : 160 ≤ c1 ∧ c1 ≤ 191
    · obtain ⟨p1, p1'⟩ := p1
      go_enter Tryz.func27, Tryz.ntmps27
      go_wp2
      go_loop [10] (fun vk => ∃ k : Nat, vk = .int .i64 k ∧ 2 ≤ k ∧ k ≤ 3 ∧ (3 ≤ k → 128 ≤ c2 ∧ c2 ≤ 191)) (fun vk => 3 - (intOf vk).toNat)
      case atStart => exact ⟨2, rfl, by omega, by omega, by omega⟩
      case round =>
        obtain ⟨k, rfl, hk0, hk1, hk2⟩ := hrel
        by_cases hlt : k < 3
        · obtain rfl : k = 2 := by omega
          · by_cases p : 128 ≤ c2 ∧ c2 ≤ 191
            · obtain ⟨p, p'⟩ := p
              go_wp2
              go_round
              case rel => exact ⟨3, by go_num, by omega, by omega, by omega⟩
              case measure => simp [intOf]
            · have e := hno.out (by omega)
              subst e
              go_wp2
              all_goals first | (go_ret; exact ⟨rfl, rfl⟩) | (exfalso; omega)
        · obtain rfl : k = 3 := by omega
          have e := hyes.out (by omega)
          subst e
          go_wp2
          go_ret
          exact ⟨rfl, rfl⟩
    · have e := hno.out (by omega)
      subst e
      clear hyes hno
      go_enter Tryz.func27, Tryz.ntmps27
      go_wp2
      all_goals first | (go_ret; exact ⟨rfl, rfl⟩) | (exfalso; omega)
  · rw [if_neg (by omega)] at hD
    subst hD
    go_enter Tryz.func27, Tryz.ntmps27
    go_wp2
    go_ret
    exact ⟨rfl, rfl⟩

theorem rw_e1 (s : ByteArray) (i : Nat) (w : World) (h : i < s.size) (hs : s.size ≤ 1048576) (c0 : Int) (g0 : ((s[i]'h).toNat : Int) = c0) (q : 225 ≤ c0 ∧ c0 ≤ 236) (D : Nat) (hD : D = if i + 3 ≤ s.size ∧ 128 ≤ (s.get! (i + 1)).toNat ∧ (s.get! (i + 1)).toNat ≤ 191 ∧ (3 ≤ 3 → 128 ≤ (s.get! (i + 2)).toNat ∧ (s.get! (i + 2)).toNat ≤ 191) ∧ (4 ≤ 3 → 128 ≤ (s.get! (i + 3)).toNat ∧ (s.get! (i + 3)).toNat ≤ 191) then 3 else 1) :
    Calls Tryz.prog 27 #[.string s, .int .i64 i] w fun r w' => r = .returned (.int .i64 D) ∧ w = w' := by
  obtain ⟨q0, q1⟩ := q
  by_cases hn : i + 3 ≤ s.size
  · have a1 := get_bang s (i + 1) (by omega)
    rw [a1] at hD
    obtain ⟨c1, g1⟩ : ∃ c1 : Int, ((s[i + 1]'(by omega)).toNat : Int) = c1 := ⟨_, rfl⟩
    have a2 := get_bang s (i + 2) (by omega)
    rw [a2] at hD
    obtain ⟨c2, g2⟩ : ∃ c2 : Int, ((s[i + 2]'(by omega)).toNat : Int) = c2 := ⟨_, rfl⟩
    have hyes : Hid (128 ≤ c1 ∧ c1 ≤ 191 ∧ 128 ≤ c2 ∧ c2 ≤ 191 → D = 3) := Lib.hid fun hq => by rw [hD, if_pos]; omega
    have hno : Hid (¬ (128 ≤ c1 ∧ c1 ≤ 191 ∧ 128 ≤ c2 ∧ c2 ≤ 191) → D = 1) := Lib.hid fun hq => by rw [hD, if_neg]; omega
    clear hD a1 a2
    by_cases p1 : 128 ≤ c1 ∧ c1 ≤ 191
    · obtain ⟨p1, p1'⟩ := p1
      go_enter Tryz.func27, Tryz.ntmps27
      go_wp2
      go_loop [10] (fun vk => ∃ k : Nat, vk = .int .i64 k ∧ 2 ≤ k ∧ k ≤ 3 ∧ (3 ≤ k → 128 ≤ c2 ∧ c2 ≤ 191)) (fun vk => 3 - (intOf vk).toNat)
      case atStart => exact ⟨2, rfl, by omega, by omega, by omega⟩
      case round =>
        obtain ⟨k, rfl, hk0, hk1, hk2⟩ := hrel
        by_cases hlt : k < 3
        · obtain rfl : k = 2 := by omega
          · by_cases p : 128 ≤ c2 ∧ c2 ≤ 191
            · obtain ⟨p, p'⟩ := p
              go_wp2
              go_round
              case rel => exact ⟨3, by go_num, by omega, by omega, by omega⟩
              case measure => simp [intOf]
            · have e := hno.out (by omega)
              subst e
              go_wp2
              all_goals first | (go_ret; exact ⟨rfl, rfl⟩) | (exfalso; omega)
        · obtain rfl : k = 3 := by omega
          have e := hyes.out (by omega)
          subst e
          go_wp2
          go_ret
          exact ⟨rfl, rfl⟩
    · have e := hno.out (by omega)
      subst e
      clear hyes hno
      go_enter Tryz.func27, Tryz.ntmps27
      go_wp2
      all_goals first | (go_ret; exact ⟨rfl, rfl⟩) | (exfalso; omega)
  · rw [if_neg (by omega)] at hD
    subst hD
    go_enter Tryz.func27, Tryz.ntmps27
    go_wp2
    go_ret
    exact ⟨rfl, rfl⟩

theorem rw_ed (s : ByteArray) (i : Nat) (w : World) (h : i < s.size) (hs : s.size ≤ 1048576) (c0 : Int) (g0 : ((s[i]'h).toNat : Int) = c0) (q : c0 = 237) (D : Nat) (hD : D = if i + 3 ≤ s.size ∧ 128 ≤ (s.get! (i + 1)).toNat ∧ (s.get! (i + 1)).toNat ≤ 159 ∧ (3 ≤ 3 → 128 ≤ (s.get! (i + 2)).toNat ∧ (s.get! (i + 2)).toNat ≤ 191) ∧ (4 ≤ 3 → 128 ≤ (s.get! (i + 3)).toNat ∧ (s.get! (i + 3)).toNat ≤ 191) then 3 else 1) :
    Calls Tryz.prog 27 #[.string s, .int .i64 i] w fun r w' => r = .returned (.int .i64 D) ∧ w = w' := by
  subst q
  by_cases hn : i + 3 ≤ s.size
  · have a1 := get_bang s (i + 1) (by omega)
    rw [a1] at hD
    obtain ⟨c1, g1⟩ : ∃ c1 : Int, ((s[i + 1]'(by omega)).toNat : Int) = c1 := ⟨_, rfl⟩
    have a2 := get_bang s (i + 2) (by omega)
    rw [a2] at hD
    obtain ⟨c2, g2⟩ : ∃ c2 : Int, ((s[i + 2]'(by omega)).toNat : Int) = c2 := ⟨_, rfl⟩
    have hyes : Hid (128 ≤ c1 ∧ c1 ≤ 159 ∧ 128 ≤ c2 ∧ c2 ≤ 191 → D = 3) := Lib.hid fun hq => by rw [hD, if_pos]; omega
    have hno : Hid (¬ (128 ≤ c1 ∧ c1 ≤ 159 ∧ 128 ≤ c2 ∧ c2 ≤ 191) → D = 1) := Lib.hid fun hq => by rw [hD, if_neg]; omega
    clear hD a1 a2
    by_cases p1 : 128 ≤ c1 ∧ c1 ≤ 159
    · obtain ⟨p1, p1'⟩ := p1
      go_enter Tryz.func27, Tryz.ntmps27
      go_wp2
      go_loop [10] (fun vk => ∃ k : Nat, vk = .int .i64 k ∧ 2 ≤ k ∧ k ≤ 3 ∧ (3 ≤ k → 128 ≤ c2 ∧ c2 ≤ 191)) (fun vk => 3 - (intOf vk).toNat)
      case atStart => exact ⟨2, rfl, by omega, by omega, by omega⟩
      case round =>
        obtain ⟨k, rfl, hk0, hk1, hk2⟩ := hrel
        by_cases hlt : k < 3
        · obtain rfl : k = 2 := by omega
          · by_cases p : 128 ≤ c2 ∧ c2 ≤ 191
            · obtain ⟨p, p'⟩ := p
              go_wp2
              go_round
              case rel => exact ⟨3, by go_num, by omega, by omega, by omega⟩
              case measure => simp [intOf]
            · have e := hno.out (by omega)
              subst e
              go_wp2
              all_goals first | (go_ret; exact ⟨rfl, rfl⟩) | (exfalso; omega)
        · obtain rfl : k = 3 := by omega
          have e := hyes.out (by omega)
          subst e
          go_wp2
          go_ret
          exact ⟨rfl, rfl⟩
    · have e := hno.out (by omega)
      subst e
      clear hyes hno
      go_enter Tryz.func27, Tryz.ntmps27
      go_wp2
      all_goals first | (go_ret; exact ⟨rfl, rfl⟩) | (exfalso; omega)
  · rw [if_neg (by omega)] at hD
    subst hD
    go_enter Tryz.func27, Tryz.ntmps27
    go_wp2
    go_ret
    exact ⟨rfl, rfl⟩

theorem rw_ee (s : ByteArray) (i : Nat) (w : World) (h : i < s.size) (hs : s.size ≤ 1048576) (c0 : Int) (g0 : ((s[i]'h).toNat : Int) = c0) (q : c0 = 238) (D : Nat) (hD : D = if i + 3 ≤ s.size ∧ 128 ≤ (s.get! (i + 1)).toNat ∧ (s.get! (i + 1)).toNat ≤ 191 ∧ (3 ≤ 3 → 128 ≤ (s.get! (i + 2)).toNat ∧ (s.get! (i + 2)).toNat ≤ 191) ∧ (4 ≤ 3 → 128 ≤ (s.get! (i + 3)).toNat ∧ (s.get! (i + 3)).toNat ≤ 191) then 3 else 1) :
    Calls Tryz.prog 27 #[.string s, .int .i64 i] w fun r w' => r = .returned (.int .i64 D) ∧ w = w' := by
  subst q
  by_cases hn : i + 3 ≤ s.size
  · have a1 := get_bang s (i + 1) (by omega)
    rw [a1] at hD
    obtain ⟨c1, g1⟩ : ∃ c1 : Int, ((s[i + 1]'(by omega)).toNat : Int) = c1 := ⟨_, rfl⟩
    have a2 := get_bang s (i + 2) (by omega)
    rw [a2] at hD
    obtain ⟨c2, g2⟩ : ∃ c2 : Int, ((s[i + 2]'(by omega)).toNat : Int) = c2 := ⟨_, rfl⟩
    have hyes : Hid (128 ≤ c1 ∧ c1 ≤ 191 ∧ 128 ≤ c2 ∧ c2 ≤ 191 → D = 3) := Lib.hid fun hq => by rw [hD, if_pos]; omega
    have hno : Hid (¬ (128 ≤ c1 ∧ c1 ≤ 191 ∧ 128 ≤ c2 ∧ c2 ≤ 191) → D = 1) := Lib.hid fun hq => by rw [hD, if_neg]; omega
    clear hD a1 a2
    by_cases p1 : 128 ≤ c1 ∧ c1 ≤ 191
    · obtain ⟨p1, p1'⟩ := p1
      go_enter Tryz.func27, Tryz.ntmps27
      go_wp2
      go_loop [10] (fun vk => ∃ k : Nat, vk = .int .i64 k ∧ 2 ≤ k ∧ k ≤ 3 ∧ (3 ≤ k → 128 ≤ c2 ∧ c2 ≤ 191)) (fun vk => 3 - (intOf vk).toNat)
      case atStart => exact ⟨2, rfl, by omega, by omega, by omega⟩
      case round =>
        obtain ⟨k, rfl, hk0, hk1, hk2⟩ := hrel
        by_cases hlt : k < 3
        · obtain rfl : k = 2 := by omega
          · by_cases p : 128 ≤ c2 ∧ c2 ≤ 191
            · obtain ⟨p, p'⟩ := p
              go_wp2
              go_round
              case rel => exact ⟨3, by go_num, by omega, by omega, by omega⟩
              case measure => simp [intOf]
            · have e := hno.out (by omega)
              subst e
              go_wp2
              all_goals first | (go_ret; exact ⟨rfl, rfl⟩) | (exfalso; omega)
        · obtain rfl : k = 3 := by omega
          have e := hyes.out (by omega)
          subst e
          go_wp2
          go_ret
          exact ⟨rfl, rfl⟩
    · have e := hno.out (by omega)
      subst e
      clear hyes hno
      go_enter Tryz.func27, Tryz.ntmps27
      go_wp2
      all_goals first | (go_ret; exact ⟨rfl, rfl⟩) | (exfalso; omega)
  · rw [if_neg (by omega)] at hD
    subst hD
    go_enter Tryz.func27, Tryz.ntmps27
    go_wp2
    go_ret
    exact ⟨rfl, rfl⟩

theorem rw_ef (s : ByteArray) (i : Nat) (w : World) (h : i < s.size) (hs : s.size ≤ 1048576) (c0 : Int) (g0 : ((s[i]'h).toNat : Int) = c0) (q : c0 = 239) (D : Nat) (hD : D = if i + 3 ≤ s.size ∧ 128 ≤ (s.get! (i + 1)).toNat ∧ (s.get! (i + 1)).toNat ≤ 191 ∧ (3 ≤ 3 → 128 ≤ (s.get! (i + 2)).toNat ∧ (s.get! (i + 2)).toNat ≤ 191) ∧ (4 ≤ 3 → 128 ≤ (s.get! (i + 3)).toNat ∧ (s.get! (i + 3)).toNat ≤ 191) then 3 else 1) :
    Calls Tryz.prog 27 #[.string s, .int .i64 i] w fun r w' => r = .returned (.int .i64 D) ∧ w = w' := by
  subst q
  by_cases hn : i + 3 ≤ s.size
  · have a1 := get_bang s (i + 1) (by omega)
    rw [a1] at hD
    obtain ⟨c1, g1⟩ : ∃ c1 : Int, ((s[i + 1]'(by omega)).toNat : Int) = c1 := ⟨_, rfl⟩
    have a2 := get_bang s (i + 2) (by omega)
    rw [a2] at hD
    obtain ⟨c2, g2⟩ : ∃ c2 : Int, ((s[i + 2]'(by omega)).toNat : Int) = c2 := ⟨_, rfl⟩
    have hyes : Hid (128 ≤ c1 ∧ c1 ≤ 191 ∧ 128 ≤ c2 ∧ c2 ≤ 191 → D = 3) := Lib.hid fun hq => by rw [hD, if_pos]; omega
    have hno : Hid (¬ (128 ≤ c1 ∧ c1 ≤ 191 ∧ 128 ≤ c2 ∧ c2 ≤ 191) → D = 1) := Lib.hid fun hq => by rw [hD, if_neg]; omega
    clear hD a1 a2
    by_cases p1 : 128 ≤ c1 ∧ c1 ≤ 191
    · obtain ⟨p1, p1'⟩ := p1
      go_enter Tryz.func27, Tryz.ntmps27
      go_wp2
      go_loop [10] (fun vk => ∃ k : Nat, vk = .int .i64 k ∧ 2 ≤ k ∧ k ≤ 3 ∧ (3 ≤ k → 128 ≤ c2 ∧ c2 ≤ 191)) (fun vk => 3 - (intOf vk).toNat)
      case atStart => exact ⟨2, rfl, by omega, by omega, by omega⟩
      case round =>
        obtain ⟨k, rfl, hk0, hk1, hk2⟩ := hrel
        by_cases hlt : k < 3
        · obtain rfl : k = 2 := by omega
          · by_cases p : 128 ≤ c2 ∧ c2 ≤ 191
            · obtain ⟨p, p'⟩ := p
              go_wp2
              go_round
              case rel => exact ⟨3, by go_num, by omega, by omega, by omega⟩
              case measure => simp [intOf]
            · have e := hno.out (by omega)
              subst e
              go_wp2
              all_goals first | (go_ret; exact ⟨rfl, rfl⟩) | (exfalso; omega)
        · obtain rfl : k = 3 := by omega
          have e := hyes.out (by omega)
          subst e
          go_wp2
          go_ret
          exact ⟨rfl, rfl⟩
    · have e := hno.out (by omega)
      subst e
      clear hyes hno
      go_enter Tryz.func27, Tryz.ntmps27
      go_wp2
      all_goals first | (go_ret; exact ⟨rfl, rfl⟩) | (exfalso; omega)
  · rw [if_neg (by omega)] at hD
    subst hD
    go_enter Tryz.func27, Tryz.ntmps27
    go_wp2
    go_ret
    exact ⟨rfl, rfl⟩

theorem rw_f0 (s : ByteArray) (i : Nat) (w : World) (h : i < s.size) (hs : s.size ≤ 1048576) (c0 : Int) (g0 : ((s[i]'h).toNat : Int) = c0) (q : c0 = 240) (D : Nat) (hD : D = if i + 4 ≤ s.size ∧ 144 ≤ (s.get! (i + 1)).toNat ∧ (s.get! (i + 1)).toNat ≤ 191 ∧ (3 ≤ 4 → 128 ≤ (s.get! (i + 2)).toNat ∧ (s.get! (i + 2)).toNat ≤ 191) ∧ (4 ≤ 4 → 128 ≤ (s.get! (i + 3)).toNat ∧ (s.get! (i + 3)).toNat ≤ 191) then 4 else 1) :
    Calls Tryz.prog 27 #[.string s, .int .i64 i] w fun r w' => r = .returned (.int .i64 D) ∧ w = w' := by
  subst q
  by_cases hn : i + 4 ≤ s.size
  · have a1 := get_bang s (i + 1) (by omega)
    rw [a1] at hD
    obtain ⟨c1, g1⟩ : ∃ c1 : Int, ((s[i + 1]'(by omega)).toNat : Int) = c1 := ⟨_, rfl⟩
    have a2 := get_bang s (i + 2) (by omega)
    rw [a2] at hD
    obtain ⟨c2, g2⟩ : ∃ c2 : Int, ((s[i + 2]'(by omega)).toNat : Int) = c2 := ⟨_, rfl⟩
    have a3 := get_bang s (i + 3) (by omega)
    rw [a3] at hD
    obtain ⟨c3, g3⟩ : ∃ c3 : Int, ((s[i + 3]'(by omega)).toNat : Int) = c3 := ⟨_, rfl⟩
    have hyes : Hid (144 ≤ c1 ∧ c1 ≤ 191 ∧ 128 ≤ c2 ∧ c2 ≤ 191 ∧ 128 ≤ c3 ∧ c3 ≤ 191 → D = 4) := Lib.hid fun hq => by rw [hD, if_pos]; omega
    have hno : Hid (¬ (144 ≤ c1 ∧ c1 ≤ 191 ∧ 128 ≤ c2 ∧ c2 ≤ 191 ∧ 128 ≤ c3 ∧ c3 ≤ 191) → D = 1) := Lib.hid fun hq => by rw [hD, if_neg]; omega
    clear hD a1 a2 a3
    by_cases p1 : 144 ≤ c1 ∧ c1 ≤ 191
    · obtain ⟨p1, p1'⟩ := p1
      go_enter Tryz.func27, Tryz.ntmps27
      go_wp2
      go_loop [10] (fun vk => ∃ k : Nat, vk = .int .i64 k ∧ 2 ≤ k ∧ k ≤ 4 ∧ (3 ≤ k → 128 ≤ c2 ∧ c2 ≤ 191) ∧ (4 ≤ k → 128 ≤ c3 ∧ c3 ≤ 191)) (fun vk => 4 - (intOf vk).toNat)
      case atStart => exact ⟨2, rfl, by omega, by omega, by omega, by omega⟩
      case round =>
        obtain ⟨k, rfl, hk0, hk1, hk2, hk3⟩ := hrel
        by_cases hlt : k < 4
        · rcases (show k = 2 ∨ k = 3 by omega) with rfl | rfl
          · by_cases p : 128 ≤ c2 ∧ c2 ≤ 191
            · obtain ⟨p, p'⟩ := p
              go_wp2
              go_round
              case rel => exact ⟨3, by go_num, by omega, by omega, by omega, by omega⟩
              case measure => simp [intOf]
            · have e := hno.out (by omega)
              subst e
              go_wp2
              all_goals first | (go_ret; exact ⟨rfl, rfl⟩) | (exfalso; omega)
          · by_cases p : 128 ≤ c3 ∧ c3 ≤ 191
            · obtain ⟨p, p'⟩ := p
              go_wp2
              go_round
              case rel => exact ⟨4, by go_num, by omega, by omega, by omega, by omega⟩
              case measure => simp [intOf]
            · have e := hno.out (by omega)
              subst e
              go_wp2
              all_goals first | (go_ret; exact ⟨rfl, rfl⟩) | (exfalso; omega)
        · obtain rfl : k = 4 := by omega
          have e := hyes.out (by omega)
          subst e
          go_wp2
          go_ret
          exact ⟨rfl, rfl⟩
    · have e := hno.out (by omega)
      subst e
      clear hyes hno
      go_enter Tryz.func27, Tryz.ntmps27
      go_wp2
      all_goals first | (go_ret; exact ⟨rfl, rfl⟩) | (exfalso; omega)
  · rw [if_neg (by omega)] at hD
    subst hD
    go_enter Tryz.func27, Tryz.ntmps27
    go_wp2
    go_ret
    exact ⟨rfl, rfl⟩

theorem rw_f1 (s : ByteArray) (i : Nat) (w : World) (h : i < s.size) (hs : s.size ≤ 1048576) (c0 : Int) (g0 : ((s[i]'h).toNat : Int) = c0) (q : 241 ≤ c0 ∧ c0 ≤ 243) (D : Nat) (hD : D = if i + 4 ≤ s.size ∧ 128 ≤ (s.get! (i + 1)).toNat ∧ (s.get! (i + 1)).toNat ≤ 191 ∧ (3 ≤ 4 → 128 ≤ (s.get! (i + 2)).toNat ∧ (s.get! (i + 2)).toNat ≤ 191) ∧ (4 ≤ 4 → 128 ≤ (s.get! (i + 3)).toNat ∧ (s.get! (i + 3)).toNat ≤ 191) then 4 else 1) :
    Calls Tryz.prog 27 #[.string s, .int .i64 i] w fun r w' => r = .returned (.int .i64 D) ∧ w = w' := by
  obtain ⟨q0, q1⟩ := q
  by_cases hn : i + 4 ≤ s.size
  · have a1 := get_bang s (i + 1) (by omega)
    rw [a1] at hD
    obtain ⟨c1, g1⟩ : ∃ c1 : Int, ((s[i + 1]'(by omega)).toNat : Int) = c1 := ⟨_, rfl⟩
    have a2 := get_bang s (i + 2) (by omega)
    rw [a2] at hD
    obtain ⟨c2, g2⟩ : ∃ c2 : Int, ((s[i + 2]'(by omega)).toNat : Int) = c2 := ⟨_, rfl⟩
    have a3 := get_bang s (i + 3) (by omega)
    rw [a3] at hD
    obtain ⟨c3, g3⟩ : ∃ c3 : Int, ((s[i + 3]'(by omega)).toNat : Int) = c3 := ⟨_, rfl⟩
    have hyes : Hid (128 ≤ c1 ∧ c1 ≤ 191 ∧ 128 ≤ c2 ∧ c2 ≤ 191 ∧ 128 ≤ c3 ∧ c3 ≤ 191 → D = 4) := Lib.hid fun hq => by rw [hD, if_pos]; omega
    have hno : Hid (¬ (128 ≤ c1 ∧ c1 ≤ 191 ∧ 128 ≤ c2 ∧ c2 ≤ 191 ∧ 128 ≤ c3 ∧ c3 ≤ 191) → D = 1) := Lib.hid fun hq => by rw [hD, if_neg]; omega
    clear hD a1 a2 a3
    by_cases p1 : 128 ≤ c1 ∧ c1 ≤ 191
    · obtain ⟨p1, p1'⟩ := p1
      go_enter Tryz.func27, Tryz.ntmps27
      go_wp2
      go_loop [10] (fun vk => ∃ k : Nat, vk = .int .i64 k ∧ 2 ≤ k ∧ k ≤ 4 ∧ (3 ≤ k → 128 ≤ c2 ∧ c2 ≤ 191) ∧ (4 ≤ k → 128 ≤ c3 ∧ c3 ≤ 191)) (fun vk => 4 - (intOf vk).toNat)
      case atStart => exact ⟨2, rfl, by omega, by omega, by omega, by omega⟩
      case round =>
        obtain ⟨k, rfl, hk0, hk1, hk2, hk3⟩ := hrel
        by_cases hlt : k < 4
        · rcases (show k = 2 ∨ k = 3 by omega) with rfl | rfl
          · by_cases p : 128 ≤ c2 ∧ c2 ≤ 191
            · obtain ⟨p, p'⟩ := p
              go_wp2
              go_round
              case rel => exact ⟨3, by go_num, by omega, by omega, by omega, by omega⟩
              case measure => simp [intOf]
            · have e := hno.out (by omega)
              subst e
              go_wp2
              all_goals first | (go_ret; exact ⟨rfl, rfl⟩) | (exfalso; omega)
          · by_cases p : 128 ≤ c3 ∧ c3 ≤ 191
            · obtain ⟨p, p'⟩ := p
              go_wp2
              go_round
              case rel => exact ⟨4, by go_num, by omega, by omega, by omega, by omega⟩
              case measure => simp [intOf]
            · have e := hno.out (by omega)
              subst e
              go_wp2
              all_goals first | (go_ret; exact ⟨rfl, rfl⟩) | (exfalso; omega)
        · obtain rfl : k = 4 := by omega
          have e := hyes.out (by omega)
          subst e
          go_wp2
          go_ret
          exact ⟨rfl, rfl⟩
    · have e := hno.out (by omega)
      subst e
      clear hyes hno
      go_enter Tryz.func27, Tryz.ntmps27
      go_wp2
      all_goals first | (go_ret; exact ⟨rfl, rfl⟩) | (exfalso; omega)
  · rw [if_neg (by omega)] at hD
    subst hD
    go_enter Tryz.func27, Tryz.ntmps27
    go_wp2
    go_ret
    exact ⟨rfl, rfl⟩

theorem rw_f4 (s : ByteArray) (i : Nat) (w : World) (h : i < s.size) (hs : s.size ≤ 1048576) (c0 : Int) (g0 : ((s[i]'h).toNat : Int) = c0) (q : c0 = 244) (D : Nat) (hD : D = if i + 4 ≤ s.size ∧ 128 ≤ (s.get! (i + 1)).toNat ∧ (s.get! (i + 1)).toNat ≤ 143 ∧ (3 ≤ 4 → 128 ≤ (s.get! (i + 2)).toNat ∧ (s.get! (i + 2)).toNat ≤ 191) ∧ (4 ≤ 4 → 128 ≤ (s.get! (i + 3)).toNat ∧ (s.get! (i + 3)).toNat ≤ 191) then 4 else 1) :
    Calls Tryz.prog 27 #[.string s, .int .i64 i] w fun r w' => r = .returned (.int .i64 D) ∧ w = w' := by
  subst q
  by_cases hn : i + 4 ≤ s.size
  · have a1 := get_bang s (i + 1) (by omega)
    rw [a1] at hD
    obtain ⟨c1, g1⟩ : ∃ c1 : Int, ((s[i + 1]'(by omega)).toNat : Int) = c1 := ⟨_, rfl⟩
    have a2 := get_bang s (i + 2) (by omega)
    rw [a2] at hD
    obtain ⟨c2, g2⟩ : ∃ c2 : Int, ((s[i + 2]'(by omega)).toNat : Int) = c2 := ⟨_, rfl⟩
    have a3 := get_bang s (i + 3) (by omega)
    rw [a3] at hD
    obtain ⟨c3, g3⟩ : ∃ c3 : Int, ((s[i + 3]'(by omega)).toNat : Int) = c3 := ⟨_, rfl⟩
    have hyes : Hid (128 ≤ c1 ∧ c1 ≤ 143 ∧ 128 ≤ c2 ∧ c2 ≤ 191 ∧ 128 ≤ c3 ∧ c3 ≤ 191 → D = 4) := Lib.hid fun hq => by rw [hD, if_pos]; omega
    have hno : Hid (¬ (128 ≤ c1 ∧ c1 ≤ 143 ∧ 128 ≤ c2 ∧ c2 ≤ 191 ∧ 128 ≤ c3 ∧ c3 ≤ 191) → D = 1) := Lib.hid fun hq => by rw [hD, if_neg]; omega
    clear hD a1 a2 a3
    by_cases p1 : 128 ≤ c1 ∧ c1 ≤ 143
    · obtain ⟨p1, p1'⟩ := p1
      go_enter Tryz.func27, Tryz.ntmps27
      go_wp2
      go_loop [10] (fun vk => ∃ k : Nat, vk = .int .i64 k ∧ 2 ≤ k ∧ k ≤ 4 ∧ (3 ≤ k → 128 ≤ c2 ∧ c2 ≤ 191) ∧ (4 ≤ k → 128 ≤ c3 ∧ c3 ≤ 191)) (fun vk => 4 - (intOf vk).toNat)
      case atStart => exact ⟨2, rfl, by omega, by omega, by omega, by omega⟩
      case round =>
        obtain ⟨k, rfl, hk0, hk1, hk2, hk3⟩ := hrel
        by_cases hlt : k < 4
        · rcases (show k = 2 ∨ k = 3 by omega) with rfl | rfl
          · by_cases p : 128 ≤ c2 ∧ c2 ≤ 191
            · obtain ⟨p, p'⟩ := p
              go_wp2
              go_round
              case rel => exact ⟨3, by go_num, by omega, by omega, by omega, by omega⟩
              case measure => simp [intOf]
            · have e := hno.out (by omega)
              subst e
              go_wp2
              all_goals first | (go_ret; exact ⟨rfl, rfl⟩) | (exfalso; omega)
          · by_cases p : 128 ≤ c3 ∧ c3 ≤ 191
            · obtain ⟨p, p'⟩ := p
              go_wp2
              go_round
              case rel => exact ⟨4, by go_num, by omega, by omega, by omega, by omega⟩
              case measure => simp [intOf]
            · have e := hno.out (by omega)
              subst e
              go_wp2
              all_goals first | (go_ret; exact ⟨rfl, rfl⟩) | (exfalso; omega)
        · obtain rfl : k = 4 := by omega
          have e := hyes.out (by omega)
          subst e
          go_wp2
          go_ret
          exact ⟨rfl, rfl⟩
    · have e := hno.out (by omega)
      subst e
      clear hyes hno
      go_enter Tryz.func27, Tryz.ntmps27
      go_wp2
      all_goals first | (go_ret; exact ⟨rfl, rfl⟩) | (exfalso; omega)
  · rw [if_neg (by omega)] at hD
    subst hD
    go_enter Tryz.func27, Tryz.ntmps27
    go_wp2
    go_ret
    exact ⟨rfl, rfl⟩
end Go.Proofs.YtdieahcigcdnpaaGreatDoor
