/- The walk of b1Valid; make of an empty slice with room. -/
import Derived.Laws.MakeOwn
import Derived.LoopTactic
import Derived.Test.YtkhjcknabkpfgaaGreatDoorB3
namespace Go.Proofs.YtkhjcknabkpfgaaGreatDoor
open Go.RowKit
set_option linter.unusedVariables false

/-- does implode of explode give the string back? -/
def same (s : ByteArray) : Bool := decide ((⟨(encs (runeInts s)).toArray⟩ : ByteArray) = s)
theorem same_yes (s : ByteArray) (h : ∀ j, j < runeLen s → good s (runeAt s j) = true) : same s = true := decide_eq_true (encs_all s h)
theorem same_no (s : ByteArray) (k : Nat) (h : k < runeLen s) (hg : ∀ j, j < k → good s (runeAt s j) = true) (hb : good s (runeAt s k) = false) : same s = false := decide_eq_false (encs_bad s k h hg hb)

set_option maxRecDepth 100000 in
theorem valid_any (s : ByteArray) (w : World) (hs : s.size ≤ 1048576) :
    Calls Tryz.prog 8 #[.string s] w fun r w' => r = .returned (.bool (same s)) ∧ Below w.heap.size w w' := by
  have HY := Lib.hid (same_yes s)
  have HN := Lib.hid (same_no s)
  obtain ⟨sm, hsm⟩ : ∃ sm, sm = same s := ⟨_, rfl⟩
  rw [← hsm] at HY HN ⊢
  clear hsm
  have SP := Lib.hid (runeLen_spec s)
  go_enter Tryz.func8, Tryz.ntmps8
  go_wp2_with fail
  go_loopw [3] (fun vi wr => ∃ k p : Nat, vi = .int .i64 p ∧ p ≤ s.size ∧ Hid (p = runeAt s k) ∧ Hid (k ≤ runeLen s) ∧ Hid (∀ j, j < k → good s (runeAt s j) = true) ∧ Hid (Below w.heap.size w wr)) (fun vi _ => s.size - (intOf vi).toNat)
  case atStart => exact ⟨0, 0, rfl, Nat.zero_le _, Lib.hid rfl, Lib.hid (Nat.zero_le _), Lib.hid (fun j hj => absurd hj (by omega)), Lib.hid (Below.refl _ _)⟩
  case round =>
    obtain ⟨k, p, rfl, hp, HP, HK, HG, HB⟩ := hrel
    by_cases hlt : p < s.size
    · have HC := Lib.hid (fun w => b1_any s p w hs hlt)
      have hw1 := width_pos s p hlt
      have hw2 := width_le s p hlt
      have HKL : Hid (k < runeLen s) := Lib.hid (by
        have h1 := SP.out.2.1
        have h2 := HK.out
        have h3 := HP.out
        by_cases q : k = runeLen s
        · rw [q, h1] at h3; omega
        · omega)
      have HST : Hid (p + (Utf8.decode s p).2 = runeAt s (k + 1)) := Lib.hid (by rw [runeAt_step s k (by rw [← HP.out]; exact hlt), ← HP.out])
      obtain ⟨dv, hdv⟩ : ∃ dv, dv = (Utf8.decode s p).1 := ⟨_, rfl⟩
      obtain ⟨dn, hdn⟩ : ∃ dn, dn = (Utf8.decode s p).2 := ⟨_, rfl⟩
      rw [← hdn] at hw1 hw2 HST
      rw [← hdv, ← hdn] at HC
      clear hdv hdn
      by_cases q : good s p = true
      · rw [q] at HC
        have HG2 : Hid (∀ j, j < k + 1 → good s (runeAt s j) = true) := Lib.hid (fun j hj => by
          by_cases e : j = k
          · subst e; rw [← HP.out]; exact q
          · exact HG.out j (by omega))
        clear q
        go_wp2_with (go_at_call 7; refine (HC.out _).mono ?_; rintro r w2 ⟨rfl, B2⟩; have HB2 := Lib.hid B2; clear B2)
        go_roundw
        case rel => exact ⟨k + 1, p + dn, by go_num, by omega, HST, HKL, HG2, Lib.hid (HB.out.trans (HB2.out.mono HB.out.size))⟩
        case measure => simp [intOf]; omega
      · have q2 : good s p = false := by simpa using q
        rw [q2] at HC
        have HS := Lib.hid (HN.out k HKL.out HG.out (by rw [← HP.out]; exact q2))
        clear q q2
        go_wp2_with (go_at_call 7; refine (HC.out _).mono ?_; rintro r w2 ⟨rfl, B2⟩; have HB2 := Lib.hid B2; clear B2)
        go_ret
        exact ⟨by rw [HS.out]; rfl, HB.out.trans (HB2.out.mono HB.out.size)⟩
    · have HE : Hid (sm = true) := Lib.hid (HY.out (fun j hj => by
        by_cases e : j < k
        · exact HG.out j e
        · have h1 := SP.out.2.2 k (by omega)
          have h3 := HP.out
          omega))
      go_wp2_with fail
      go_ret
      exact ⟨by rw [HE.out]; rfl, HB.out⟩

theorem info_u8 : (Tryz.prog.info? 5).map (fun i => (i.zero, i.size, i.bytes)) = some (some (.int .u8 0), 1, 1) := by kernel_rfl

/-- make([]byte, 0, 3*len) -/
theorem make_want (n : Nat) (hn : n ≤ 1048576) (w : World) : (Instr.makeSlice 27 (.int .i64 0) (.int .i64 (3 * (n : Int)))).run Tryz.prog w = .ok (.slice (some ⟨w.heap.size, 0, none⟩) 0 (3 * n)) (w.alloc (.cells (madeCells #[.int .u8 0] (3 * n)) 5)) := by
  obtain ⟨i, hi, hzz⟩ := Option.map_eq_some_iff.1 info_u8
  simp only [Prod.mk.injEq] at hzz
  obtain ⟨hz, hs, hb⟩ := hzz
  have hr := run_make (P := Tryz.prog) w 27 5 i (.int .u8 0) Tryz.underlying27 hi hz .i64 .i64 0 (3 * (n : Int)) (by omega) (by omega) (by rw [hb]; omega) (by omega)
  rw [hs] at hr
  rw [hr]
  have e : (3 * (n : Int)).toNat = 3 * n := by omega
  rw [e, Nat.mul_one]
  rfl

theorem zb_yes (s : ByteArray) (w : World) (hs : s.size ≤ 1048576) :
    Calls Tryz.prog 4 #[.string s] w fun r w' => r = .returned (.bool true) ∧ w = w' := by
  have t1 : decide ((s.size : Int) > 1048576) = false := by simp; omega
  go_enter Tryz.func4, Tryz.ntmps4
  go_wp2
  go_ret
  exact ⟨rfl, rfl⟩
theorem zb_no (s : ByteArray) (w : World) (hs : ¬ s.size ≤ 1048576) :
    Calls Tryz.prog 4 #[.string s] w fun r w' => r = .returned (.bool false) ∧ w = w' := by
  have t1 : decide ((s.size : Int) > 1048576) = true := by simp; omega
  go_enter Tryz.func4, Tryz.ntmps4
  go_wp2
  go_ret
  exact ⟨rfl, rfl⟩
end Go.Proofs.YtkhjcknabkpfgaaGreatDoor
