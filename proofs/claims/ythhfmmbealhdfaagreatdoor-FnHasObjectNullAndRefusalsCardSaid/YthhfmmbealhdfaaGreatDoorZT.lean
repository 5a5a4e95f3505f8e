/- The walks of zzBytes, zzStrBytes, zzCloneStrings and zzIn. -/
import Derived.Test.YthhfmmbealhdfaaGreatDoorRows
import Derived.WalkKit
import Derived.ProofKit
import Derived.OpenShut
import Derived.WalkSpells
import Derived.WalkLawsBesides
import Derived.Outline
import Derived.Lib.Hide
import Derived.LoopTactic
import Derived.Deep.OwnRows
import Derived.Test.YthhfmmbealhdfaaGreatDoorCom
import Derived.Test.YthhfmmbealhdfaaGreatDoorST
import Derived.Test.YthhfmmbealhdfaaGreatDoorTL
namespace Go.Proofs.YthhfmmbealhdfaaGreatDoor
open Go.RowKit
set_option linter.unusedVariables false

theorem info_str : (Tryz.prog.info? 9).map (fun i => (i.zero, i.size, i.bytes)) = some (some (.string ⟨#[]⟩), 1, 16) := by kernel_rfl

set_option maxRecDepth 100000 in
theorem zb_any (a : Option Addr) (cap : Nat) (ss : List ByteArray) (x : ByteArray) (i : Int) (f : Nat) (w : World) (h : SlotsAt w a (ss.map Value.string)) (hn : ss.length ≤ maxLen) (hz : ∀ j, j < ss.length → (ss.getD j ByteArray.empty).size ≤ maxLen) (hx : x.size ≤ maxLen) :
    Calls Tryz.prog 7 #[.slice a ss.length cap, .string x, .int .i64 i, .float .f64 f] w fun r w' => r = .returned (.bool (decide (ss.length + sumTo ss ss.length + x.size ≤ 1048576))) ∧ w = w' := by
  have H := Lib.hid h
  have HZ := Lib.hid hz
  clear h hz
  have hm : maxLen = 9223372036854775807 := rfl
  rw [hm] at hn hx HZ
  clear hm
  have HS : Hid (∀ k, k ≤ ss.length → sumTo ss k ≤ sumTo ss ss.length) := Lib.hid (fun k hk => sumTo_le ss hk)
  have HT : Hid (∀ k, sumTo ss (k + 1) = sumTo ss k + (ss.getD k ByteArray.empty).size) := Lib.hid (fun k => rfl)
  obtain ⟨r, hr⟩ : ∃ r, r = decide (ss.length + sumTo ss ss.length + x.size ≤ 1048576) := ⟨_, rfl⟩
  rw [← hr]
  have HY : Hid (ss.length + sumTo ss ss.length + x.size ≤ 1048576 → r = true) := Lib.hid (fun h => hr.trans (decide_eq_true h))
  have HN : Hid (¬ ss.length + sumTo ss ss.length + x.size ≤ 1048576 → r = false) := Lib.hid (fun h => hr.trans (decide_eq_false h))
  clear hr
  by_cases q : ss.length ≤ 1048576
  rotate_left
  · have HF := Lib.hid (HN.out (by omega))
    have t1 : decide ((ss.length : Int) > 1048576) = true := decide_eq_true (by omega)
    go_enter Tryz.func7, Tryz.ntmps7
    go_wp2_with fail
    go_ret
    exact ⟨by rw [HF.out]; rfl, rfl⟩
  have t1 : decide ((ss.length : Int) > 1048576) = false := decide_eq_false (by omega)
  go_enter Tryz.func7, Tryz.ntmps7
  go_wp2_with fail
  go_loopw [9, 10] (fun vt vi wr => ∃ k t : Nat, vi = .int .i64 k ∧ k ≤ ss.length ∧ vt = .int .i64 t ∧ t ≤ 1048576 ∧ Hid (t = ss.length + sumTo ss k) ∧ w = wr) (fun _ vi _ => ss.length - (intOf vi).toNat)
  case atStart => exact ⟨0, ss.length, rfl, Nat.zero_le _, rfl, q, Lib.hid (by simp [sumTo]), rfl⟩
  case round =>
    obtain ⟨k, t, rfl, hk, rfl, ht, HE, rfl⟩ := hrel
    by_cases hlt : k < ss.length
    · obtain ⟨b, off, rfl, c1⟩ := H.out.str (Below.refl _ _) hlt
      have hz1 := HZ.out k hlt
      have hT := HT.out k
      have hS := HS.out (k + 1) (by omega)
      obtain ⟨y, hy⟩ : ∃ y, y = ss.getD k ByteArray.empty := ⟨_, rfl⟩
      rw [← hy] at c1 hz1 hT
      clear hy
      by_cases q1 : y.size ≤ 1048576
      rotate_left
      · have HF := Lib.hid (HN.out (by omega))
        have t2 : decide ((y.size : Int) > 1048576) = true := decide_eq_true (by omega)
        clear hT hS
        go_wp2_with fail
        go_ret
        exact ⟨by rw [HF.out]; rfl, rfl⟩
      have t2 : decide ((y.size : Int) > 1048576) = false := decide_eq_false (by omega)
      by_cases q2 : t + y.size ≤ 1048576
      rotate_left
      · have HF := Lib.hid (HN.out (by have := HE.out; omega))
        have t3 : decide ((t : Int) + (y.size : Int) > 1048576) = true := decide_eq_true (by omega)
        clear hT hS
        go_wp2_with fail
        go_ret
        exact ⟨by rw [HF.out]; rfl, rfl⟩
      have t3 : decide ((t : Int) + (y.size : Int) > 1048576) = false := decide_eq_false (by omega)
      have HE2 : Hid (t + y.size = ss.length + sumTo ss (k + 1)) := Lib.hid (by have := HE.out; omega)
      clear hT hS
      go_wp2_with fail
      go_roundw
      case rel => exact ⟨k + 1, t + y.size, by go_num, by omega, by go_num, q2, HE2, by trivial⟩
      case measure => simp [intOf]; omega
    · obtain rfl : k = ss.length := by omega
      by_cases q1 : x.size ≤ 1048576
      rotate_left
      · have HF := Lib.hid (HN.out (by omega))
        have t2 : decide ((x.size : Int) > 1048576) = true := decide_eq_true (by omega)
        go_wp2_with fail
        go_ret
        exact ⟨by rw [HF.out]; rfl, rfl⟩
      have t2 : decide ((x.size : Int) > 1048576) = false := decide_eq_false (by omega)
      by_cases q2 : t + x.size ≤ 1048576
      rotate_left
      · have HF := Lib.hid (HN.out (by have := HE.out; omega))
        have t3 : decide ((t : Int) + (x.size : Int) > 1048576) = true := decide_eq_true (by omega)
        go_wp2_with fail
        go_ret
        exact ⟨by rw [HF.out]; rfl, rfl⟩
      have t3 : decide ((t : Int) + (x.size : Int) > 1048576) = false := decide_eq_false (by omega)
      have HF := Lib.hid (HY.out (by have := HE.out; omega))
      go_wp2_with fail
      go_ret
      exact ⟨by rw [HF.out]; rfl, rfl⟩

/-- what zzStrBytes counts, from the k-th string on with t so far (d strings are left) -/
def strGo (ss : List ByteArray) : Nat → Nat → Nat → Nat
  | 0, _, t => t
  | d + 1, k, t => if t + (16 + (ss.getD k ByteArray.empty).size) ≤ 1048576 then strGo ss d (k + 1) (t + (16 + (ss.getD k ByteArray.empty).size)) else t + (16 + (ss.getD k ByteArray.empty).size)
theorem strGo_le (ss : List ByteArray) (hz : ∀ j, j < ss.length → (ss.getD j ByteArray.empty).size ≤ 1048576) : ∀ d k t, k + d ≤ ss.length → t ≤ 1048576 → strGo ss d k t ≤ 4194304
  | 0, _, t, _, h => by show t ≤ _; omega
  | d + 1, k, t, hk, h => by
    have h1 := hz k (by omega)
    unfold strGo
    split
    · exact strGo_le ss hz d (k + 1) _ (by omega) (by assumption)
    · omega

set_option maxRecDepth 100000 in
theorem sb_any (a : Option Addr) (cap : Nat) (ss : List ByteArray) (w : World) (h : SlotsAt w a (ss.map Value.string)) (hn : ss.length ≤ 65536) (hz : ∀ j, j < ss.length → (ss.getD j ByteArray.empty).size ≤ 1048576) :
    Calls Tryz.prog 8 #[.slice a ss.length cap] w fun r w' => r = .returned (.int .i64 (strGo ss ss.length 0 0)) ∧ w = w' := by
  have H := Lib.hid h
  have HZ := Lib.hid hz
  clear h hz
  obtain ⟨R, hR⟩ : ∃ R, R = strGo ss ss.length 0 0 := ⟨_, rfl⟩
  rw [← hR]
  have HR : Hid (strGo ss ss.length 0 0 = R) := Lib.hid hR.symm
  clear hR
  go_enter Tryz.func8, Tryz.ntmps8
  go_wp2_with fail
  go_loopw [3, 4] (fun vt vi wr => ∃ k t : Nat, vi = .int .i64 k ∧ k ≤ ss.length ∧ vt = .int .i64 t ∧ t ≤ 1048576 ∧ Hid (strGo ss (ss.length - k) k t = R) ∧ w = wr) (fun _ vi _ => ss.length - (intOf vi).toNat)
  case atStart => exact ⟨0, 0, rfl, Nat.zero_le _, rfl, Nat.zero_le _, HR, rfl⟩
  case round =>
    obtain ⟨k, t, rfl, hk, rfl, ht, HE, rfl⟩ := hrel
    by_cases hlt : k < ss.length
    · obtain ⟨b, off, rfl, c1⟩ := H.out.str (Below.refl _ _) hlt
      have hz1 := HZ.out k hlt
      have he := HE.out
      rw [show ss.length - k = (ss.length - (k + 1)) + 1 by omega] at he
      unfold strGo at he
      have HE1 := Lib.hid he
      clear he
      obtain ⟨y, hy⟩ : ∃ y, y = ss.getD k ByteArray.empty := ⟨_, rfl⟩
      rw [← hy] at c1 hz1 HE1
      clear hy
      by_cases q2 : t + (16 + y.size) ≤ 1048576
      rotate_left
      · have t3 : decide ((t : Int) + (16 + (y.size : Int)) > 1048576) = true := decide_eq_true (by omega)
        have HE2 : Hid (t + (16 + y.size) = R) := Lib.hid (by have := HE1.out; rwa [if_neg q2] at this)
        clear HE1
        go_wp2_with fail
        go_ret
        exact ⟨by rw [← HE2.out]; show Ending.returned (Value.int .i64 ((t : Int) + (16 + (y.size : Int)))) = _; congr 2, rfl⟩
      have t3 : decide ((t : Int) + (16 + (y.size : Int)) > 1048576) = false := decide_eq_false (by omega)
      have HE2 : Hid (strGo ss (ss.length - (k + 1)) (k + 1) (t + (16 + y.size)) = R) := Lib.hid (by have := HE1.out; rwa [if_pos q2] at this)
      clear HE1
      go_wp2_with fail
      go_roundw
      case rel => exact ⟨k + 1, t + (16 + y.size), by go_num, by omega, by go_num, q2, HE2, by trivial⟩
      case measure => simp [intOf]; omega
    · obtain rfl : k = ss.length := by omega
      have HE2 : Hid (t = R) := Lib.hid (by have := HE.out; rwa [Nat.sub_self] at this)
      go_wp2_with fail
      go_ret
      exact ⟨by rw [← HE2.out]; rfl, rfl⟩

theorem sb_det (a : Option Addr) (cap : Nat) (ss : List ByteArray) (hn : ss.length ≤ 65536) (hz : ∀ j, j < ss.length → (ss.getD j ByteArray.empty).size ≤ 1048576) :
    ∃ t : Nat, Hid (∀ w, SlotsAt w a (ss.map Value.string) → Calls Tryz.prog 8 #[.slice a ss.length cap] w fun r w' => r = .returned (.int .i64 t) ∧ w = w') ∧ t ≤ 4194304 :=
  ⟨_, Lib.hid (fun w h => sb_any a cap ss w h hn hz), strGo_le ss hz _ _ _ (by omega) (by omega)⟩

def cloneS (ss : List ByteArray) (k : Nat) (j : Nat) : Value := if j < k then .string (ss.getD j ByteArray.empty) else .string ⟨#[]⟩

theorem cloneS_step {w : World} {b t n k : Nat} {ss : List ByteArray} (h : w.rowIs b t n (cloneS ss k)) : (w.setCell ⟨b, k, none⟩ (.string (ss.getD k ByteArray.empty))).rowIs b t n (cloneS ss (k + 1)) := by
  refine (h.set k _).congr fun j hj => ?_
  unfold cloneS
  by_cases e : j = k
  · subst e; simp
  · simp only [if_neg e]
    by_cases l : j < k
    · rw [if_pos l, if_pos (by omega)]
    · rw [if_neg l, if_neg (by omega)]

theorem cloneS_done {w : World} {b t : Nat} {ss : List ByteArray} (hm : ss.length ≤ maxLen) (h : w.rowIs b t ss.length (cloneS ss ss.length)) : OwnAt w (.slice (some ⟨b, 0, none⟩) ss.length ss.length) (ss.map Value.string) := by
  refine OwnAt.of_row h (by simp) hm fun j hj => ?_
  unfold cloneS
  rw [if_pos hj]
  simp [List.getD, hj]

theorem cloneS_nil (w : World) : Calls Tryz.prog 9 #[.slice none 0 0] w fun r w' => r = .returned (.slice none 0 0) ∧ w = w' := by
  have hnil := fun (w : World) (a : Option Addr) (n c : Nat) => Lib.run_eql_slice_nil (P := Tryz.prog) w 27 9 a n c 0 0 Tryz.underlying27
  go_enter Tryz.func9, Tryz.ntmps9
  go_wp2
  go_ret
  exact ⟨rfl, rfl⟩

set_option maxRecDepth 100000 in
theorem cloneS_any (v : Value) (ss : List ByteArray) (w : World) (h : StrsAt w v ss) (hm : ss.length ≤ 131072) :
    Calls Tryz.prog 9 #[v] w fun r w' => ∃ a c, r = .returned (.slice a ss.length c) ∧ SlotsAt w' a (ss.map Value.string) ∧ Below w.heap.size w w' := by
  have hnil := fun (w : World) (a : Option Addr) (n c : Nat) => Lib.run_eql_slice_nil (P := Tryz.prog) w 27 9 a n c 0 0 Tryz.underlying27
  rcases h.parts with ⟨a, cap, rfl, h2, h3, -, -⟩
  clear h
  cases a with
  | none =>
    obtain ⟨rfl, rfl⟩ := h3 rfl
    refine (cloneS_nil w).mono ?_
    rintro r w' ⟨rfl, rfl⟩
    exact ⟨_, _, rfl, fun hp => absurd hp (by simp), Below.refl _ _⟩
  | some a =>
    have hmk := run_make_row' (P := Tryz.prog) 27 9 (.string ⟨#[]⟩) 16 Tryz.underlying27 info_str rfl .i64 .i64 ss.length (by omega) (by omega)
    have hrow0 := Lib.hid ((World.rowIs_made w (.string ⟨#[]⟩) ss.length 9).congr (g := cloneS ss 0) fun j hj => by simp [cloneS])
    have hb0 := Lib.hid ((Below.refl w.heap.size w).alloc (Nat.le_refl _) (.cells (madeCells #[.string ⟨#[]⟩] ss.length) 9))
    have H := Lib.hid h2
    clear h2 h3
    go_enter Tryz.func9, Tryz.ntmps9
    go_wp2
    go_loopw [4] (fun vi wr => ∃ k : Nat, vi = .int .i64 k ∧ k ≤ ss.length ∧ Hid (wr.rowIs w.heap.size 9 ss.length (cloneS ss k)) ∧ Hid (Below w.heap.size w wr)) (fun vi _ => ss.length - (intOf vi).toNat)
    case atStart => exact ⟨0, rfl, Nat.zero_le _, hrow0, hb0⟩
    case round =>
      obtain ⟨k, rfl, hk, HR, HB⟩ := hrel
      clear hmk hrow0 hb0
      by_cases hlt : k < ss.length
      · obtain ⟨b, off, e, c1⟩ := H.out.str HB.out hlt
        simp only [Option.some.injEq] at e
        subst e
        have c2 := HR.out.cell hlt
        have c3 := HR.out.frozen k
        have HR2 := Lib.hid (cloneS_step HR.out)
        have HB2 := Lib.hid (HB.out.setCell (p := ⟨w.heap.size, k, none⟩) (Nat.le_refl _) (.string (ss.getD k ByteArray.empty)))
        obtain ⟨x, hx⟩ : ∃ x, x = ss.getD k ByteArray.empty := ⟨_, rfl⟩
        rw [← hx] at c1 HR2 HB2
        clear hx
        go_wp2
        go_roundw
        case rel => exact ⟨k + 1, by go_num, by omega, HR2, HB2⟩
        case measure => simp [intOf]; omega
      · obtain rfl : k = ss.length := by omega
        have HO := Lib.hid (cloneS_done (by unfold maxLen; omega) HR.out)
        go_wp2
        go_ret
        exact ⟨_, _, rfl, HO.out.slots, HB.out⟩

set_option maxRecDepth 100000 in
theorem in_any (a : Option Addr) (cap : Nat) (ss : List ByteArray) (x : ByteArray) (w : World) (h : SlotsAt w a (ss.map Value.string)) (hn : ss.length ≤ 65536) :
    Calls Tryz.prog 10 #[.slice a ss.length cap, .string x] w fun r w' => r = .returned (.bool (memB ss x)) ∧ w = w' := by
  have H := Lib.hid h
  clear h
  have HY : Hid (∀ k, k < ss.length → ss.getD k ByteArray.empty = x → memB ss x = true) := Lib.hid (fun k hk e => decide_eq_true ⟨k, hk, e⟩)
  have HN : Hid ((∀ k, k < ss.length → ss.getD k ByteArray.empty ≠ x) → memB ss x = false) := Lib.hid (fun h => decide_eq_false (fun ⟨k, hk, e⟩ => h k hk e))
  obtain ⟨r, hr⟩ : ∃ r, r = memB ss x := ⟨_, rfl⟩
  rw [← hr] at HY HN ⊢
  clear hr
  go_enter Tryz.func10, Tryz.ntmps10
  go_wp2_with fail
  go_loopw [5] (fun vi wr => ∃ k : Nat, vi = .int .i64 k ∧ k ≤ ss.length ∧ Hid (∀ j, j < k → ss.getD j ByteArray.empty ≠ x) ∧ w = wr) (fun vi _ => ss.length - (intOf vi).toNat)
  case atStart => exact ⟨0, rfl, Nat.zero_le _, Lib.hid (fun j hj => absurd hj (by omega)), rfl⟩
  case round =>
    obtain ⟨k, rfl, hk, HG, rfl⟩ := hrel
    by_cases hlt : k < ss.length
    · obtain ⟨b, off, rfl, c1⟩ := H.out.str (Below.refl _ _) hlt
      by_cases q : ss.getD k ByteArray.empty = x
      · have HF := Lib.hid (HY.out k hlt q)
        have t1 : ((ss.getD k ByteArray.empty).toList == x.toList) = true := by rw [q]; simp
        obtain ⟨y, hy⟩ : ∃ y, y = ss.getD k ByteArray.empty := ⟨_, rfl⟩
        rw [← hy] at c1 t1
        clear hy q
        go_wp2_with fail
        go_ret
        exact ⟨by rw [HF.out]; rfl, rfl⟩
      · have HG2 : Hid (∀ j, j < k + 1 → ss.getD j ByteArray.empty ≠ x) := Lib.hid (fun j hj => by
          by_cases e : j = k
          · subst e; exact q
          · exact HG.out j (by omega))
        have t1 : ((ss.getD k ByteArray.empty).toList == x.toList) = false := by rw [byteArr_beq]; exact decide_eq_false q
        obtain ⟨y, hy⟩ : ∃ y, y = ss.getD k ByteArray.empty := ⟨_, rfl⟩
        rw [← hy] at c1 t1
        clear hy q
        go_wp2_with fail
        go_roundw
        case rel => exact ⟨k + 1, by go_num, by omega, HG2, by trivial⟩
        case measure => simp [intOf]; omega
    · obtain rfl : k = ss.length := by omega
      have HF := Lib.hid (HN.out HG.out)
      go_wp2_with fail
      go_ret
      exact ⟨by rw [HF.out]; rfl, rfl⟩
end Go.Proofs.YthhfmmbealhdfaaGreatDoor
