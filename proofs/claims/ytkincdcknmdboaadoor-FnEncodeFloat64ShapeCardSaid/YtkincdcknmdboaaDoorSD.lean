/- The walk of setDigits. -/
import Derived.LoopTactic
import Derived.Test.YtkincdcknmdboaaDoorBF
namespace Go.Proofs.YtkincdcknmdboaaDoor
open Go.RowKit Go.Sort
set_option linter.unusedVariables false

/-- the block D holds u's digits, n of them -/
def DigAt (w : World) (D n u : Nat) : Prop := ∀ j, j < n → w.cell? ⟨D, j, none⟩ = some (.int .u8 ((Lib.dg u (n - 1 - j)).toNat : Int))

theorem grown_putRow (w : World) (D : Nat) (d : Array UInt8) (n : Nat) : w.grownBy ((putRow (fun (b : UInt8) => Value.int .u8 (b.toNat : Int)) w D 0 d).drewN n) (some D) := by
  refine ⟨rfl, rfl, rfl, Nat.le_of_eq (size_putRow _ _ _ _ _).symm, fun k hk hne => ?_⟩
  show (w.heap.modify D _)[k]? = _
  rw [Array.getElem?_modify, if_neg (fun e => hne (by simp [e]))]

theorem fmt_any (D n u : Nat) (w : World) (hz : ∀ j, j < n → w.cell? ⟨D, j, none⟩ = some (.int .u8 0) ∧ w.frozen? ⟨D, j, none⟩ = false) (hn : n ≤ 32) (hu : u < 10 ^ n) (hu64 : u < 18446744073709551616) :
    Calls Tryd.prog 46 #[.slice (some ⟨D, 0, none⟩) n 32, .int .u64 u] w fun r w' => r = .returned (.tuple #[]) ∧ DigAt w' D n u ∧ w.grownBy w' (some D) := by
  have hs : (Array.replicate n (0 : UInt8)).size = n := by simp
  have hH : Holds (fun (b : UInt8) => Value.int .u8 (b.toNat : Int)) w D 0 (Array.replicate n (0 : UInt8)) := fun j hj => by
    rw [hs] at hj
    rw [Nat.zero_add]
    refine ⟨?_, (hz j hj).2⟩
    rw [(hz j hj).1, getElem!_pos _ j (by rw [hs]; exact hj)]
    simp
  have h := Tryd.internal_strconv_formatBase10 D 0 32 u (Array.replicate n (0 : UInt8)) w hH (by rw [hs]; exact hu) hu64 (by rw [hs]; omega)
  rw [hs] at h
  refine h.mono ?_
  rintro r w' ⟨rfl, m, v', dk, rfl, hI⟩
  refine ⟨rfl, fun j hj => ?_, grown_putRow w D dk m⟩
  have h1 := cell?_putRow (fun (b : UInt8) => Value.int .u8 (b.toNat : Int)) w D 0 _ dk hH (by rw [hI.size, hs]) j (by rw [hI.size]; exact hj)
  rw [Nat.zero_add] at h1
  show (putRow (fun (b : UInt8) => Value.int .u8 (b.toNat : Int)) w D 0 dk).cell? ⟨D, j, none⟩ = _
  rw [h1, hI.done j (Nat.zero_le _) hj]

set_option maxRecDepth 100000 in
theorem setDigits_any (D n u : Nat) (p : Int) (w : World) (hz : ∀ j, j < 32 → w.cell? ⟨D, j, none⟩ = some (.int .u8 0) ∧ w.frozen? ⟨D, j, none⟩ = false) (hn : n ≤ 20) (hn1 : 1 ≤ n) (hu : u < 10 ^ n) (hu1 : 10 ^ (n - 1) ≤ u) (hu64 : u < 18446744073709551616) (hp0 : -1000 ≤ p) (hp1 : p ≤ 1000) :
    Calls Tryd.prog 27 #[.slice (some ⟨D, 0, none⟩) 32 32, .int .u64 u, .int .i64 p, .int .i64 n] w fun r w' => ∃ k : Nat, r = .returned (.tuple #[.int .i64 (n + p), .int .i64 k]) ∧ 1 ≤ k ∧ k ≤ n ∧ (∀ j, k ≤ j → j < n → Lib.dg u (n - 1 - j) = 48) ∧ Lib.dg u (n - k) ≠ 48 ∧ DigAt w' D n u ∧ w.grownBy w' (some D) := by
  have HF := Lib.hid (fmt_any D n u w (fun j hj => hz j (by omega)) (by omega) hu hu64)
  have H0 : Hid (Lib.dg u (n - 1 - 0) ≠ 48) := Lib.hid (by
    have h1 : 1 ≤ u / 10 ^ (n - 1) := by rw [Nat.le_div_iff_mul_le (Nat.pow_pos (by decide))]; omega
    have h2 : u / 10 ^ (n - 1) < 10 := by
      refine Nat.div_lt_of_lt_mul ?_
      have : 10 ^ (n - 1) * 10 = 10 ^ n := by rw [← Nat.pow_succ]; congr 1; omega
      omega
    unfold Lib.dg
    rw [Nat.sub_zero]
    intro e
    have := congrArg UInt8.toNat e
    simp at this
    omega)
  have t1 : decide ((n : Int) ≤ 32) = true := decide_eq_true (by omega)
  clear hz hu hu1 hu64
  go_enter Tryd.func27, Tryd.ntmps27
  go_wp2_with (go_at_call 46; refine HF.out.mono ?_; rintro r w2 ⟨rfl, h2, hg⟩; have HD := Lib.hid h2; have HG := Lib.hid hg; clear h2 hg)
  go_loopw [3] (fun vi wr => ∃ k : Nat, vi = .int .i64 k ∧ 1 ≤ k ∧ k ≤ n ∧ Hid (∀ j, k ≤ j → j < n → Lib.dg u (n - 1 - j) = 48) ∧ w2 = wr) (fun vi _ => (intOf vi).toNat)
  case atStart => exact ⟨n, rfl, hn1, Nat.le_refl _, Lib.hid (fun j h1 h2 => by omega), rfl⟩
  case round =>
    obtain ⟨k, rfl, hk1, hk, HT, rfl⟩ := hrel
    obtain ⟨m, rfl⟩ : ∃ m, k = m + 1 := ⟨k - 1, by omega⟩
    have c1 := HD.out m (by omega)
    have e1 : ((m + 1 : Nat) : Int) - 1 = (m : Int) := by omega
    by_cases q : Lib.dg u (n - 1 - m) = 48
    · have hm0 : 1 ≤ m := by
        by_cases z : m = 0
        · subst z; exact absurd q H0.out
        · omega
      have HT2 : Hid (∀ j, m ≤ j → j < n → Lib.dg u (n - 1 - j) = 48) := Lib.hid (fun j h1 h2 => by
        by_cases z : j = m
        · subst z; exact q
        · exact HT.out j (by omega) h2)
      rw [q] at c1
      have c2 : w2.cell? ⟨D, m, none⟩ = some (.int .u8 48) := c1
      clear c1 q
      go_wp2_with fail
      go_roundw
      case rel => exact ⟨m, by go_num, hm0, by omega, HT2, by trivial⟩
      case measure => simp [intOf]
    · have HQ : Hid (Lib.dg u (n - (m + 1)) ≠ 48) := Lib.hid (by rw [show n - (m + 1) = n - 1 - m by omega]; exact q)
      have q2 : ((((Lib.dg u (n - 1 - m)).toNat : Nat) : Int) == 48) = false := by
        rw [beq_eq_false_iff_ne]
        intro e
        have h2 : (Lib.dg u (n - 1 - m)).toNat = 48 := by omega
        exact q (UInt8.toNat_inj.1 (by rw [h2]; rfl))
      obtain ⟨c, hc⟩ : ∃ c : Int, c = (((Lib.dg u (n - 1 - m)).toNat : Nat) : Int) := ⟨_, rfl⟩
      rw [← hc] at c1 q2
      clear hc q
      go_wp2_with fail
      go_ret2
      exact ⟨m + 1, rfl, by omega, hk, HT.out, HQ.out, HD.out, HG.out⟩
end Go.Proofs.YtkincdcknmdboaaDoor
