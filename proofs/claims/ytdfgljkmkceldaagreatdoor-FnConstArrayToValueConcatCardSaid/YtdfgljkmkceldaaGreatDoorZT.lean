/- The walks of zzBytes, zzStrBytes, zzCloneStrings and zzCloneBytes. -/
import Derived.Test.YtdfgljkmkceldaaGreatDoorRows
import Derived.WalkKit
import Derived.ProofKit
import Derived.OpenShut
import Derived.WalkSpells
import Derived.WalkLawsBesides
import Derived.Outline
import Derived.Lib.Hide
import Derived.LoopTactic
import Derived.Deep.OwnRows
import Derived.Test.YtdfgljkmkceldaaGreatDoorCom
import Derived.Test.YtdfgljkmkceldaaGreatDoorST
import Derived.Test.YtdfgljkmkceldaaGreatDoorTL
namespace Go.Proofs.YtdfgljkmkceldaaGreatDoor
open Go.RowKit
set_option linter.unusedVariables false

theorem info_str : (Tryz.prog.info? 9).map (fun i => (i.zero, i.size, i.bytes)) = some (some (.string ⟨#[]⟩), 1, 16) := by kernel_rfl

theorem info_u8 : (Tryz.prog.info? 5).map (fun i => (i.zero, i.size, i.bytes)) = some (some (.int .u8 0), 1, 1) := by kernel_rfl
def cloneS (ss : List ByteArray) (k : Nat) (j : Nat) : Value := if j < k then .string (ss.getD j ByteArray.empty) else .string ⟨#[]⟩

theorem cloneS_step {w : World} {b t n k : Nat} {ss : List ByteArray} (h : w.rowIs b t n (cloneS ss k)) : (w.setCell ⟨b, k, none⟩ (.string (ss.getD k ByteArray.empty))).rowIs b t n (cloneS ss (k + 1)) := by
  refine (h.set k _).congr fun j hj => ?_
  unfold cloneS
  by_cases e : j = k
  · subst e; simp
  · simp only [if_neg e]
    by_cases l : j < k
    · rw [if_pos l, if_pos (by omega)]
    · rw [if_neg l, if_neg (by omega)]

theorem cloneS_done {w : World} {b t : Nat} {ss : List ByteArray} (hm : ss.length ≤ maxLen) (h : w.rowIs b t ss.length (cloneS ss ss.length)) : OwnAt w (.slice (some ⟨b, 0, none⟩) ss.length ss.length) (ss.map Value.string) := by
  refine OwnAt.of_row h (by simp) hm fun j hj => ?_
  unfold cloneS
  rw [if_pos hj]
  simp [List.getD, hj]

theorem cloneS_nil (w : World) : Calls Tryz.prog 7 #[.slice none 0 0] w fun r w' => r = .returned (.slice none 0 0) ∧ w = w' := by
  have hnil := fun (w : World) (a : Option Addr) (n c : Nat) => Lib.run_eql_slice_nil (P := Tryz.prog) w 23 9 a n c 0 0 Tryz.underlying23
  go_enter Tryz.func7, Tryz.ntmps7
  go_wp2
  go_ret
  exact ⟨rfl, rfl⟩

set_option maxRecDepth 100000 in
theorem cloneS_any (v : Value) (ss : List ByteArray) (w : World) (h : StrsAt w v ss) (hm : ss.length ≤ 131072) :
    Calls Tryz.prog 7 #[v] w fun r w' => ∃ a c, r = .returned (.slice a ss.length c) ∧ SlotsAt w' a (ss.map Value.string) ∧ Below w.heap.size w w' := by
  have hnil := fun (w : World) (a : Option Addr) (n c : Nat) => Lib.run_eql_slice_nil (P := Tryz.prog) w 23 9 a n c 0 0 Tryz.underlying23
  rcases h.parts with ⟨a, cap, rfl, h2, h3, -, -⟩
  clear h
  cases a with
  | none =>
    obtain ⟨rfl, rfl⟩ := h3 rfl
    refine (cloneS_nil w).mono ?_
    rintro r w' ⟨rfl, rfl⟩
    exact ⟨_, _, rfl, fun hp => absurd hp (by simp), Below.refl _ _⟩
  | some a =>
    have hmk := run_make_row' (P := Tryz.prog) 23 9 (.string ⟨#[]⟩) 16 Tryz.underlying23 info_str rfl .i64 .i64 ss.length (by omega) (by omega)
    have hrow0 := Lib.hid ((World.rowIs_made w (.string ⟨#[]⟩) ss.length 9).congr (g := cloneS ss 0) fun j hj => by simp [cloneS])
    have hb0 := Lib.hid ((Below.refl w.heap.size w).alloc (Nat.le_refl _) (.cells (madeCells #[.string ⟨#[]⟩] ss.length) 9))
    have H := Lib.hid h2
    clear h2 h3
    go_enter Tryz.func7, Tryz.ntmps7
    go_wp2
    go_loopw [4] (fun vi wr => ∃ k : Nat, vi = .int .i64 k ∧ k ≤ ss.length ∧ Hid (wr.rowIs w.heap.size 9 ss.length (cloneS ss k)) ∧ Hid (Below w.heap.size w wr)) (fun vi _ => ss.length - (intOf vi).toNat)
    case atStart => exact ⟨0, rfl, Nat.zero_le _, hrow0, hb0⟩
    case round =>
      obtain ⟨k, rfl, hk, HR, HB⟩ := hrel
      clear hmk hrow0 hb0
      by_cases hlt : k < ss.length
      · obtain ⟨b, off, e, c1⟩ := H.out.str HB.out hlt
        simp only [Option.some.injEq] at e
        subst e
        have c2 := HR.out.cell hlt
        have c3 := HR.out.frozen k
        have HR2 := Lib.hid (cloneS_step HR.out)
        have HB2 := Lib.hid (HB.out.setCell (p := ⟨w.heap.size, k, none⟩) (Nat.le_refl _) (.string (ss.getD k ByteArray.empty)))
        obtain ⟨x, hx⟩ : ∃ x, x = ss.getD k ByteArray.empty := ⟨_, rfl⟩
        rw [← hx] at c1 HR2 HB2
        clear hx
        go_wp2
        go_roundw
        case rel => exact ⟨k + 1, by go_num, by omega, HR2, HB2⟩
        case measure => simp [intOf]; omega
      · obtain rfl : k = ss.length := by omega
        have HO := Lib.hid (cloneS_done (by unfold maxLen; omega) HR.out)
        go_wp2
        go_ret
        exact ⟨_, _, rfl, HO.out.slots, HB.out⟩

def cloneU (zs : List Int) (k : Nat) (j : Nat) : Value := if j < k then .int .u8 (zs.getD j 0) else .int .u8 0

theorem cloneU_step {w : World} {b t n k : Nat} {zs : List Int} (h : w.rowIs b t n (cloneU zs k)) : (w.setCell ⟨b, k, none⟩ (.int .u8 (zs.getD k 0))).rowIs b t n (cloneU zs (k + 1)) := by
  refine (h.set k _).congr fun j hj => ?_
  unfold cloneU
  by_cases e : j = k
  · subst e; simp
  · simp only [if_neg e]
    by_cases l : j < k
    · rw [if_pos l, if_pos (by omega)]
    · rw [if_neg l, if_neg (by omega)]

theorem cloneU_done {w : World} {b t : Nat} {zs : List Int} (hm : zs.length ≤ maxLen) (h : w.rowIs b t zs.length (cloneU zs zs.length)) : OwnAt w (.slice (some ⟨b, 0, none⟩) zs.length zs.length) (zs.map (Value.int .u8)) := by
  refine OwnAt.of_row h (by simp) hm fun j hj => ?_
  unfold cloneU
  rw [if_pos hj]
  simp [List.getD, hj]

theorem cloneU_nil (w : World) : Calls Tryz.prog 6 #[.slice none 0 0] w fun r w' => r = .returned (.slice none 0 0) ∧ w = w' := by
  have hnil := fun (w : World) (a : Option Addr) (n c : Nat) => Lib.run_eql_slice_nil (P := Tryz.prog) w 22 5 a n c 0 0 Tryz.underlying22
  go_enter Tryz.func6, Tryz.ntmps6
  go_wp2
  go_ret
  exact ⟨rfl, rfl⟩

set_option maxRecDepth 100000 in
theorem cloneU_any (v : Value) (zs : List Int) (w : World) (h : IntsAt w .u8 v zs) (hm : zs.length ≤ 131072) :
    Calls Tryz.prog 6 #[v] w fun r w' => ∃ a c, r = .returned (.slice a zs.length c) ∧ SlotsAt w' a (zs.map (Value.int .u8)) ∧ Below w.heap.size w w' := by
  have hnil := fun (w : World) (a : Option Addr) (n c : Nat) => Lib.run_eql_slice_nil (P := Tryz.prog) w 22 5 a n c 0 0 Tryz.underlying22
  rcases h.parts with ⟨a, cap, rfl, h2, h3, -, -⟩
  clear h
  cases a with
  | none =>
    obtain ⟨rfl, rfl⟩ := h3 rfl
    refine (cloneU_nil w).mono ?_
    rintro r w' ⟨rfl, rfl⟩
    exact ⟨_, _, rfl, fun hp => absurd hp (by simp), Below.refl _ _⟩
  | some a =>
    have hmk := run_make_row' (P := Tryz.prog) 22 5 (.int .u8 0) 1 Tryz.underlying22 info_u8 rfl .i64 .i64 zs.length (by omega) (by omega)
    have hrow0 := Lib.hid ((World.rowIs_made w (.int .u8 0) zs.length 5).congr (g := cloneU zs 0) fun j hj => by simp [cloneU])
    have hb0 := Lib.hid ((Below.refl w.heap.size w).alloc (Nat.le_refl _) (.cells (madeCells #[.int .u8 0] zs.length) 5))
    have H := Lib.hid h2
    clear h2 h3
    go_enter Tryz.func6, Tryz.ntmps6
    go_wp2
    go_loopw [4] (fun vi wr => ∃ k : Nat, vi = .int .i64 k ∧ k ≤ zs.length ∧ Hid (wr.rowIs w.heap.size 5 zs.length (cloneU zs k)) ∧ Hid (Below w.heap.size w wr)) (fun vi _ => zs.length - (intOf vi).toNat)
    case atStart => exact ⟨0, rfl, Nat.zero_le _, hrow0, hb0⟩
    case round =>
      obtain ⟨k, rfl, hk, HR, HB⟩ := hrel
      clear hmk hrow0 hb0
      by_cases hlt : k < zs.length
      · obtain ⟨b, off, e, c1⟩ := H.out.int HB.out hlt
        simp only [Option.some.injEq] at e
        subst e
        have c2 := HR.out.cell hlt
        have c3 := HR.out.frozen k
        have HR2 := Lib.hid (cloneU_step HR.out)
        have HB2 := Lib.hid (HB.out.setCell (p := ⟨w.heap.size, k, none⟩) (Nat.le_refl _) (.int .u8 (zs.getD k 0)))
        obtain ⟨x, hx⟩ : ∃ x, x = zs.getD k 0 := ⟨_, rfl⟩
        rw [← hx] at c1 HR2 HB2
        clear hx
        go_wp2
        go_roundw
        case rel => exact ⟨k + 1, by go_num, by omega, HR2, HB2⟩
        case measure => simp [intOf]; omega
      · obtain rfl : k = zs.length := by omega
        have HO := Lib.hid (cloneU_done (by unfold maxLen; omega) HR.out)
        go_wp2
        go_ret
        exact ⟨_, _, rfl, HO.out.slots, HB.out⟩


theorem zb_step (M t y : Nat) (h : ¬ t + y ≤ M) : M < t + y := by omega

set_option maxRecDepth 100000 in
theorem zb_any (a : Option Addr) (cap : Nat) (fl : List Int) (a2 : Option Addr) (cap2 : Nat) (ss : List ByteArray) (a3 : Option Addr) (cap3 : Nat) (fl2 : List Int) (a4 : Option Addr) (cap4 : Nat) (ss2 : List ByteArray) (w : World)
    (h : SlotsAt w a2 (ss.map Value.string)) (hn : ss.length ≤ maxLen) (hz : ∀ j, j < ss.length → (ss.getD j ByteArray.empty).size ≤ maxLen)
    (h2 : SlotsAt w a4 (ss2.map Value.string)) (hn2 : ss2.length ≤ maxLen) (hz2 : ∀ j, j < ss2.length → (ss2.getD j ByteArray.empty).size ≤ maxLen) (hf1 : fl.length ≤ maxLen) (hf2 : fl2.length ≤ maxLen) :
    Calls Tryz.prog 4 #[.slice a fl.length cap, .slice a2 ss.length cap2, .slice a3 fl2.length cap3, .slice a4 ss2.length cap4] w fun r w' => r = .returned (.bool (decide (fl.length + ss.length + sumTo ss ss.length + fl2.length + ss2.length + sumTo ss2 ss2.length ≤ 1048576))) ∧ w = w' := by
  have H := Lib.hid h
  have HZ := Lib.hid hz
  have H2 := Lib.hid h2
  have HZ2 := Lib.hid hz2
  clear h hz h2 hz2
  have hm : maxLen = 9223372036854775807 := rfl
  rw [hm] at hn hn2 hf1 hf2 HZ HZ2
  clear hm
  have HS : Hid (∀ k, k ≤ ss.length → sumTo ss k ≤ sumTo ss ss.length) := Lib.hid (fun k hk => sumTo_le ss hk)
  have HT : Hid (∀ k, sumTo ss (k + 1) = sumTo ss k + (ss.getD k ByteArray.empty).size) := Lib.hid (fun k => rfl)
  have HS2 : Hid (∀ k, k ≤ ss2.length → sumTo ss2 k ≤ sumTo ss2 ss2.length) := Lib.hid (fun k hk => sumTo_le ss2 hk)
  have HT2 : Hid (∀ k, sumTo ss2 (k + 1) = sumTo ss2 k + (ss2.getD k ByteArray.empty).size) := Lib.hid (fun k => rfl)
  obtain ⟨r, hr⟩ : ∃ r, r = decide (fl.length + ss.length + sumTo ss ss.length + fl2.length + ss2.length + sumTo ss2 ss2.length ≤ 1048576) := ⟨_, rfl⟩
  rw [← hr]
  have HY : Hid (fl.length + ss.length + sumTo ss ss.length + fl2.length + ss2.length + sumTo ss2 ss2.length ≤ 1048576 → r = true) := Lib.hid (fun h => hr.trans (decide_eq_true h))
  have HN : Hid (¬ fl.length + ss.length + sumTo ss ss.length + fl2.length + ss2.length + sumTo ss2 ss2.length ≤ 1048576 → r = false) := Lib.hid (fun h => hr.trans (decide_eq_false h))
  clear hr
  by_cases g1 : fl.length ≤ 1048576
  rotate_left
  · have HF := Lib.hid (HN.out (by omega))
    have s1 : decide ((fl.length : Int) > 1048576) = true := decide_eq_true (by omega)
    go_enter Tryz.func4, Tryz.ntmps4
    go_wp2_with fail
    go_ret
    exact ⟨by rw [HF.out]; rfl, rfl⟩
  have s1 : decide ((fl.length : Int) > 1048576) = false := decide_eq_false (by omega)
  by_cases g2 : ss.length ≤ 1048576
  rotate_left
  · have HF := Lib.hid (HN.out (by omega))
    have s2 : decide ((ss.length : Int) > 1048576) = true := decide_eq_true (by omega)
    go_enter Tryz.func4, Tryz.ntmps4
    go_wp2_with fail
    go_ret
    exact ⟨by rw [HF.out]; rfl, rfl⟩
  have s2 : decide ((ss.length : Int) > 1048576) = false := decide_eq_false (by omega)
  by_cases g3 : fl.length + ss.length ≤ 1048576
  rotate_left
  · have HF := Lib.hid (HN.out (by omega))
    have s3 : decide ((fl.length : Int) + (ss.length : Int) > 1048576) = true := decide_eq_true (by omega)
    go_enter Tryz.func4, Tryz.ntmps4
    go_wp2_with fail
    go_ret
    exact ⟨by rw [HF.out]; rfl, rfl⟩
  have s3 : decide ((fl.length : Int) + (ss.length : Int) > 1048576) = false := decide_eq_false (by omega)
  go_enter Tryz.func4, Tryz.ntmps4
  go_wp2_with fail
  go_loopw [9, 10] (fun vt vi wr => ∃ k t : Nat, vi = .int .i64 k ∧ k ≤ ss.length ∧ vt = .int .i64 t ∧ t ≤ 1048576 ∧ Hid (t = fl.length + ss.length + sumTo ss k) ∧ w = wr) (fun _ vi _ => ss.length - (intOf vi).toNat)
  case atStart => exact ⟨0, fl.length + ss.length, rfl, Nat.zero_le _, by go_num, g3, Lib.hid (by simp [sumTo]), rfl⟩
  case round =>
    obtain ⟨k, t, rfl, hk, rfl, ht, HE, rfl⟩ := hrel
    by_cases hlt : k < ss.length
    · obtain ⟨b, off, rfl, c1⟩ := H.out.str (Below.refl _ _) hlt
      have hz1 := HZ.out k hlt
      have hT := HT.out k
      have hS := HS.out (k + 1) (by omega)
      obtain ⟨y, hy⟩ : ∃ y, y = ss.getD k ByteArray.empty := ⟨_, rfl⟩
      rw [← hy] at c1 hz1 hT
      clear hy
      by_cases g4 : y.size ≤ 1048576
      rotate_left
      · have HF := Lib.hid (HN.out (by omega))
        have s4 : decide ((y.size : Int) > 1048576) = true := decide_eq_true (by omega)
        go_wp2_with fail
        go_ret
        exact ⟨by rw [HF.out]; rfl, rfl⟩
      have s4 : decide ((y.size : Int) > 1048576) = false := decide_eq_false (by omega)
      by_cases g5 : t + y.size ≤ 1048576
      rotate_left
      · have HF := Lib.hid (HN.out (by have := HE.out; omega))
        have s5 : decide ((t : Int) + (y.size : Int) > 1048576) = true := decide_eq_true (by omega)
        go_wp2_with fail
        go_ret
        exact ⟨by rw [HF.out]; rfl, rfl⟩
      have s5 : decide ((t : Int) + (y.size : Int) > 1048576) = false := decide_eq_false (by omega)
      have HE2 : Hid (t + y.size = fl.length + ss.length + sumTo ss (k + 1)) := Lib.hid (by have := HE.out; omega)
      clear hT hS
      go_wp2_with fail
      go_roundw
      case rel => exact ⟨k + 1, t + y.size, by go_num, by omega, by go_num, g5, HE2, by trivial⟩
      case measure => simp [intOf]; omega
    · obtain rfl : k = ss.length := by omega
      have hE := HE.out
      by_cases g6 : fl2.length ≤ 1048576
      rotate_left
      · have HF := Lib.hid (HN.out (by omega))
        have s6 : decide ((fl2.length : Int) > 1048576) = true := decide_eq_true (by omega)
        go_wp2_with fail
        go_ret
        exact ⟨by rw [HF.out]; rfl, rfl⟩
      have s6 : decide ((fl2.length : Int) > 1048576) = false := decide_eq_false (by omega)
      by_cases g7 : t + fl2.length ≤ 1048576
      rotate_left
      · have HF := Lib.hid (HN.out (by omega))
        have s7 : decide ((t : Int) + (fl2.length : Int) > 1048576) = true := decide_eq_true (by omega)
        go_wp2_with fail
        go_ret
        exact ⟨by rw [HF.out]; rfl, rfl⟩
      have s7 : decide ((t : Int) + (fl2.length : Int) > 1048576) = false := decide_eq_false (by omega)
      by_cases g8 : ss2.length ≤ 1048576
      rotate_left
      · have HF := Lib.hid (HN.out (by omega))
        have s8 : decide ((ss2.length : Int) > 1048576) = true := decide_eq_true (by omega)
        go_wp2_with fail
        go_ret
        exact ⟨by rw [HF.out]; rfl, rfl⟩
      have s8 : decide ((ss2.length : Int) > 1048576) = false := decide_eq_false (by omega)
      by_cases g9 : t + fl2.length + ss2.length ≤ 1048576
      rotate_left
      · have HF := Lib.hid (HN.out (by omega))
        have s9 : decide ((t : Int) + (fl2.length : Int) + (ss2.length : Int) > 1048576) = true := decide_eq_true (by omega)
        go_wp2_with fail
        go_ret
        exact ⟨by rw [HF.out]; rfl, rfl⟩
      have s9 : decide ((t : Int) + (fl2.length : Int) + (ss2.length : Int) > 1048576) = false := decide_eq_false (by omega)
      have HE0 : Hid (t + fl2.length + ss2.length = fl.length + ss.length + sumTo ss ss.length + fl2.length + ss2.length + sumTo ss2 0) := Lib.hid (by have e0 : sumTo ss2 0 = 0 := rfl; omega)
      clear hE
      go_wp2_with fail
      go_loopw [9, 11] (fun vt vi wr => ∃ k u : Nat, vi = .int .i64 k ∧ k ≤ ss2.length ∧ vt = .int .i64 u ∧ u ≤ 1048576 ∧ Hid (u = fl.length + ss.length + sumTo ss ss.length + fl2.length + ss2.length + sumTo ss2 k) ∧ w = wr) (fun _ vi _ => ss2.length - (intOf vi).toNat)
      case atStart => exact ⟨0, t + fl2.length + ss2.length, rfl, Nat.zero_le _, by go_num, g9, HE0, by trivial⟩
      case round =>
        obtain ⟨k, u, rfl, hk, rfl, hu, HE3, rfl⟩ := hrel
        by_cases hlt : k < ss2.length
        · obtain ⟨b, off, rfl, c1⟩ := H2.out.str (Below.refl _ _) hlt
          have hz1 := HZ2.out k hlt
          have hT := HT2.out k
          have hS := HS2.out (k + 1) (by omega)
          obtain ⟨y, hy⟩ : ∃ y, y = ss2.getD k ByteArray.empty := ⟨_, rfl⟩
          rw [← hy] at c1 hz1 hT
          clear hy
          by_cases g10 : y.size ≤ 1048576
          rotate_left
          · have HF := Lib.hid (HN.out (by omega))
            have s10 : decide ((y.size : Int) > 1048576) = true := decide_eq_true (by omega)
            go_wp2_with fail
            go_ret
            exact ⟨by rw [HF.out]; rfl, rfl⟩
          have s10 : decide ((y.size : Int) > 1048576) = false := decide_eq_false (by omega)
          by_cases g11 : u + y.size ≤ 1048576
          rotate_left
          · have HF := Lib.hid (HN.out (by have := HE3.out; omega))
            have s11 : decide ((u : Int) + (y.size : Int) > 1048576) = true := decide_eq_true (by omega)
            go_wp2_with fail
            go_ret
            exact ⟨by rw [HF.out]; rfl, rfl⟩
          have s11 : decide ((u : Int) + (y.size : Int) > 1048576) = false := decide_eq_false (by omega)
          have HE2 : Hid (u + y.size = fl.length + ss.length + sumTo ss ss.length + fl2.length + ss2.length + sumTo ss2 (k + 1)) := Lib.hid (by have := HE3.out; omega)
          clear hT hS
          go_wp2_with fail
          go_roundw
          case rel => exact ⟨k + 1, u + y.size, by go_num, by omega, by go_num, g11, HE2, by trivial⟩
          case measure => simp [intOf]; omega
        · obtain rfl : k = ss2.length := by omega
          have HF := Lib.hid (HY.out (by have := HE3.out; omega))
          go_wp2_with fail
          go_ret
          exact ⟨by rw [HF.out]; rfl, rfl⟩

/-- what zzStrBytes counts, from the k-th string on with t so far (d strings are left) -/
def strGo (ss : List ByteArray) : Nat → Nat → Nat → Nat
  | 0, _, t => t
  | d + 1, k, t => if t + (ss.getD k ByteArray.empty).size ≤ 1048576 then strGo ss d (k + 1) (t + (ss.getD k ByteArray.empty).size) else t + (ss.getD k ByteArray.empty).size
theorem strGo_le (ss : List ByteArray) (hz : ∀ j, j < ss.length → (ss.getD j ByteArray.empty).size ≤ 1048576) : ∀ d k t, k + d ≤ ss.length → t ≤ 1048576 → strGo ss d k t ≤ 4194304
  | 0, _, t, _, h => by show t ≤ _; omega
  | d + 1, k, t, hk, h => by
    have h1 := hz k (by omega)
    unfold strGo
    split
    · exact strGo_le ss hz d (k + 1) _ (by omega) (by assumption)
    · omega

set_option maxRecDepth 100000 in
theorem sb_any (a : Option Addr) (cap : Nat) (ss : List ByteArray) (w : World) (h : SlotsAt w a (ss.map Value.string)) (hn : ss.length ≤ 65536) (hz : ∀ j, j < ss.length → (ss.getD j ByteArray.empty).size ≤ 1048576) :
    Calls Tryz.prog 5 #[.slice a ss.length cap] w fun r w' => r = .returned (.int .i64 (strGo ss ss.length 0 (16 * ss.length))) ∧ w = w' := by
  have H := Lib.hid h
  have HZ := Lib.hid hz
  clear h hz
  obtain ⟨R, hR⟩ : ∃ R, R = strGo ss ss.length 0 (16 * ss.length) := ⟨_, rfl⟩
  rw [← hR]
  have HR : Hid (strGo ss ss.length 0 (16 * ss.length) = R) := Lib.hid hR.symm
  clear hR
  go_enter Tryz.func5, Tryz.ntmps5
  go_wp2_with fail
  go_loopw [3, 4] (fun vt vi wr => ∃ k t : Nat, vi = .int .i64 k ∧ k ≤ ss.length ∧ vt = .int .i64 t ∧ t ≤ 1048576 ∧ Hid (strGo ss (ss.length - k) k t = R) ∧ w = wr) (fun _ vi _ => ss.length - (intOf vi).toNat)
  case atStart => exact ⟨0, 16 * ss.length, rfl, Nat.zero_le _, by go_num, by omega, HR, rfl⟩
  case round =>
    obtain ⟨k, t, rfl, hk, rfl, ht, HE, rfl⟩ := hrel
    by_cases hlt : k < ss.length
    · obtain ⟨b, off, rfl, c1⟩ := H.out.str (Below.refl _ _) hlt
      have hz1 := HZ.out k hlt
      have he := HE.out
      rw [show ss.length - k = (ss.length - (k + 1)) + 1 by omega] at he
      unfold strGo at he
      have HE1 := Lib.hid he
      clear he
      obtain ⟨y, hy⟩ : ∃ y, y = ss.getD k ByteArray.empty := ⟨_, rfl⟩
      rw [← hy] at c1 hz1 HE1
      clear hy
      by_cases q2 : t + y.size ≤ 1048576
      rotate_left
      · have t3 : decide ((t : Int) + (y.size : Int) > 1048576) = true := decide_eq_true (by omega)
        have HE2 : Hid (t + y.size = R) := Lib.hid (by have := HE1.out; rwa [if_neg q2] at this)
        clear HE1
        go_wp2_with fail
        go_ret
        exact ⟨by rw [← HE2.out]; show Ending.returned (Value.int .i64 ((t : Int) + (y.size : Int))) = _; congr 2, rfl⟩
      have t3 : decide ((t : Int) + (y.size : Int) > 1048576) = false := decide_eq_false (by omega)
      have HE2 : Hid (strGo ss (ss.length - (k + 1)) (k + 1) (t + y.size) = R) := Lib.hid (by have := HE1.out; rwa [if_pos q2] at this)
      clear HE1
      go_wp2_with fail
      go_roundw
      case rel => exact ⟨k + 1, t + y.size, by go_num, by omega, by go_num, q2, HE2, by trivial⟩
      case measure => simp [intOf]; omega
    · obtain rfl : k = ss.length := by omega
      have HE2 : Hid (t = R) := Lib.hid (by have := HE.out; rwa [Nat.sub_self] at this)
      go_wp2_with fail
      go_ret
      exact ⟨by rw [← HE2.out]; rfl, rfl⟩

theorem sb_det (a : Option Addr) (cap : Nat) (ss : List ByteArray) (hn : ss.length ≤ 65536) (hz : ∀ j, j < ss.length → (ss.getD j ByteArray.empty).size ≤ 1048576) :
    ∃ t : Nat, Hid (∀ w, SlotsAt w a (ss.map Value.string) → Calls Tryz.prog 5 #[.slice a ss.length cap] w fun r w' => r = .returned (.int .i64 t) ∧ w = w') ∧ t ≤ 4194304 :=
  ⟨_, Lib.hid (fun w h => sb_any a cap ss w h hn hz), strGo_le ss hz _ _ _ (by omega) (by omega)⟩

end Go.Proofs.YtdfgljkmkceldaaGreatDoor
