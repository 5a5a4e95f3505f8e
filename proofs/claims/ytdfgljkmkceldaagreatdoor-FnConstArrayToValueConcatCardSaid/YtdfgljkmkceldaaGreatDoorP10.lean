/- For any two lists of flag and string constants, converting the array of the elements of the first followed by those of the second gives the values of the first followed by the values of the second; no condition (an int is 64 bits wide). -/
import Derived.Test.YtdfgljkmkceldaaGreatDoorRows
import Derived.Test.YtdfgljkmkceldaaGreatDoorTie
import Derived.Test.YtdfgljkmkceldaaGreatDoorCards
import Derived.WalkKit
import Derived.ProofKit
import Derived.OpenShut
import Derived.WalkSpells
import Derived.WalkLawsBesides
import Derived.Outline
import Derived.Lib.Hide
import Derived.ShutString
import Derived.Laws.Cover2
import Derived.LaidMore
import Derived.Lay
import Derived.SevenTiedAt
import Derived.Stop.Joined
import Derived.OpenVars
import Derived.Test.YtdfgljkmkceldaaGreatDoorTV
import Derived.Test.YtdfgljkmkceldaaGreatDoorST
import Derived.Test.YtdfgljkmkceldaaGreatDoorSL
import Derived.Test.YtdfgljkmkceldaaGreatDoorCom
namespace Go.Proofs.YtdfgljkmkceldaaGreatDoor.fnConstArrayToValueConcat
open Go.ChangeShapes Go.WideShapes Go.ChangeAt Go.RowKit
open Go.ChangeMaps (open_string shut_string)
set_option linter.unusedVariables false

theorem own : ownKnob Tryz.prog.godebug = none := by kernel_rfl
theorem laidOut : laidOutB Tryz.prog = true := by kernel_rfl

set_option maxRecDepth 100000 in
set_option maxHeartbeats 8000000 in
theorem walk (flagsA : Value) (flagsAs : List Int) (strsA : Value) (strsAs : List ByteArray) (flagsB : Value) (flagsBs : List Int) (strsB : Value) (strsBs : List ByteArray) (w : World) (hflagsA : IntsAt w .u8 flagsA flagsAs) (hstrsA : StrsAt w strsA strsAs) (hflagsB : IntsAt w .u8 flagsB flagsBs) (hstrsB : StrsAt w strsB strsBs) :
    Calls Tryz.prog 3 #[flagsA, strsA, flagsB, strsB] w fun e w' => e = .returned (.bool true) ∧ Below w.heap.size w w' := by
  have H1 := Lib.hid hflagsA
  have H2 := Lib.hid hstrsA
  have H3 := Lib.hid hflagsB
  have H4 := Lib.hid hstrsB
  obtain ⟨a1, c1, rfl, -, -, hm1, -⟩ := hflagsA.parts
  obtain ⟨a2, c2, rfl, hs2, -, hm2, hz2⟩ := hstrsA.parts
  obtain ⟨a3, c3, rfl, -, -, hm3, -⟩ := hflagsB.parts
  obtain ⟨a4, c4, rfl, hs4, -, hm4, hz4⟩ := hstrsB.parts
  have HZB := Lib.hid (fun w h h2 => zb_any a1 c1 flagsAs a2 c2 strsAs a3 c3 flagsBs a4 c4 strsBs w h hm2 hz2 h2 hm4 hz4 hm1 hm3)
  have HSA := Lib.hid hs2
  have HSB := Lib.hid hs4
  clear hflagsA hstrsA hflagsB hstrsB hs2 hs4 hz2 hz4
  have hmx : maxLen = 9223372036854775807 := rfl
  rw [hmx] at hm1 hm2 hm3 hm4
  clear hmx
  by_cases q0 : flagsAs.length + strsAs.length + sumTo strsAs strsAs.length + flagsBs.length + strsBs.length + sumTo strsBs strsBs.length ≤ 1048576
  rotate_left
  · rw [decide_eq_false q0] at HZB
    clear q0
    go_enter Tryz.func3, Tryz.ntmps3
    go_wp2_with ((go_at_call 4; refine (HZB.out _ HSA.out HSB.out).mono ?_; rintro r w2 ⟨rfl, rfl⟩))
    go_ret
    exact ⟨rfl, Below.refl _ _⟩
  rw [decide_eq_true q0] at HZB
  have HZ1 : Hid (∀ j, j < strsAs.length → (strsAs.getD j ByteArray.empty).size ≤ 1048576) := Lib.hid (fun j hj => by
    have h1 := sumTo_le strsAs (show j + 1 ≤ strsAs.length from hj)
    have h2 : sumTo strsAs (j + 1) = sumTo strsAs j + (strsAs.getD j ByteArray.empty).size := rfl
    omega)
  have HZ2 : Hid (∀ j, j < strsBs.length → (strsBs.getD j ByteArray.empty).size ≤ 1048576) := Lib.hid (fun j hj => by
    have h1 := sumTo_le strsBs (show j + 1 ≤ strsBs.length from hj)
    have h2 : sumTo strsBs (j + 1) = sumTo strsBs j + (strsBs.getD j ByteArray.empty).size := rfl
    omega)
  have r1 : flagsAs.length ≤ 1048576 := by omega
  have r2 : strsAs.length ≤ 1048576 := by omega
  have r3 : flagsBs.length ≤ 1048576 := by omega
  have r4 : strsBs.length ≤ 1048576 := by omega
  clear q0 hm1 hm2 hm3 hm4
  by_cases p0 : flagsAs.length ≤ 65536
  rotate_left
  · have t0 : decide ((flagsAs.length : Int) > 65536) = true := decide_eq_true (by omega)
    go_enter Tryz.func3, Tryz.ntmps3
    go_wp2_with ((go_at_call 4; refine (HZB.out _ HSA.out HSB.out).mono ?_; rintro r w2 ⟨rfl, rfl⟩))
    go_ret
    exact ⟨rfl, Below.refl _ _⟩
  have t0 : decide ((flagsAs.length : Int) > 65536) = false := decide_eq_false (by omega)
  by_cases p1 : strsAs.length ≤ 65536
  rotate_left
  · have t1 : decide ((strsAs.length : Int) > 65536) = true := decide_eq_true (by omega)
    go_enter Tryz.func3, Tryz.ntmps3
    go_wp2_with ((go_at_call 4; refine (HZB.out _ HSA.out HSB.out).mono ?_; rintro r w2 ⟨rfl, rfl⟩))
    go_ret
    exact ⟨rfl, Below.refl _ _⟩
  have t1 : decide ((strsAs.length : Int) > 65536) = false := decide_eq_false (by omega)
  by_cases p2 : flagsBs.length ≤ 65536
  rotate_left
  · have t2 : decide ((flagsBs.length : Int) > 65536) = true := decide_eq_true (by omega)
    go_enter Tryz.func3, Tryz.ntmps3
    go_wp2_with ((go_at_call 4; refine (HZB.out _ HSA.out HSB.out).mono ?_; rintro r w2 ⟨rfl, rfl⟩))
    go_ret
    exact ⟨rfl, Below.refl _ _⟩
  have t2 : decide ((flagsBs.length : Int) > 65536) = false := decide_eq_false (by omega)
  by_cases p3 : strsBs.length ≤ 65536
  rotate_left
  · have t3 : decide ((strsBs.length : Int) > 65536) = true := decide_eq_true (by omega)
    go_enter Tryz.func3, Tryz.ntmps3
    go_wp2_with ((go_at_call 4; refine (HZB.out _ HSA.out HSB.out).mono ?_; rintro r w2 ⟨rfl, rfl⟩))
    go_ret
    exact ⟨rfl, Below.refl _ _⟩
  have t3 : decide ((strsBs.length : Int) > 65536) = false := decide_eq_false (by omega)
  obtain ⟨b1, HB1, hb1⟩ := sb_det a2 c2 strsAs p1 HZ1.out
  obtain ⟨b2, HB2, hb2⟩ := sb_det a4 c4 strsBs p3 HZ2.out
  clear HZ1 HZ2
  by_cases q1 : flagsAs.length + b1 + flagsBs.length + b2 ≤ 1048576
  rotate_left
  · have t5 : decide ((flagsAs.length : Int) + (b1 : Int) + (flagsBs.length : Int) + (b2 : Int) > 1048576) = true := decide_eq_true (by omega)
    go_enter Tryz.func3, Tryz.ntmps3
    go_wp2_with (first | (go_at_call 4; refine (HZB.out _ HSA.out HSB.out).mono ?_; rintro r w2 ⟨rfl, rfl⟩) | (go_at_call 5; (with_reducible refine (HB1.out _ HSA.out).mono ?_); rintro r w2 ⟨rfl, rfl⟩) | (go_at_call 5; (with_reducible refine (HB2.out _ HSB.out).mono ?_); rintro r w2 ⟨rfl, rfl⟩))
    go_ret
    exact ⟨rfl, Below.refl _ _⟩
  have t5 : decide ((flagsAs.length : Int) + (b1 : Int) + (flagsBs.length : Int) + (b2 : Int) > 1048576) = false := decide_eq_false (by omega)
  by_cases q2 : flagsAs.length = strsAs.length
  rotate_left
  · have t6 : ((flagsAs.length : Int) != (strsAs.length : Int)) = true := by simp; omega
    go_enter Tryz.func3, Tryz.ntmps3
    go_wp2_with (first | (go_at_call 4; refine (HZB.out _ HSA.out HSB.out).mono ?_; rintro r w2 ⟨rfl, rfl⟩) | (go_at_call 5; (with_reducible refine (HB1.out _ HSA.out).mono ?_); rintro r w2 ⟨rfl, rfl⟩) | (go_at_call 5; (with_reducible refine (HB2.out _ HSB.out).mono ?_); rintro r w2 ⟨rfl, rfl⟩))
    go_ret
    exact ⟨rfl, Below.refl _ _⟩
  by_cases q3 : flagsBs.length = strsBs.length
  rotate_left
  · have t6 : ((flagsAs.length : Int) != (strsAs.length : Int)) = false := by simp; omega
    have t7 : ((flagsBs.length : Int) != (strsBs.length : Int)) = true := by simp; omega
    clear q2 q3
    go_enter Tryz.func3, Tryz.ntmps3
    go_wp2_with (first | (go_at_call 4; refine (HZB.out _ HSA.out HSB.out).mono ?_; rintro r w2 ⟨rfl, rfl⟩) | (go_at_call 5; (with_reducible refine (HB1.out _ HSA.out).mono ?_); rintro r w2 ⟨rfl, rfl⟩) | (go_at_call 5; (with_reducible refine (HB2.out _ HSB.out).mono ?_); rintro r w2 ⟨rfl, rfl⟩))
    go_ret
    exact ⟨rfl, Below.refl _ _⟩
  have HC1 := Lib.hid (fun w h => cloneU_any (.slice a1 flagsAs.length c1) flagsAs w h (by omega))
  have HC2 := Lib.hid (fun w h => cloneS_any (.slice a2 strsAs.length c2) strsAs w h (by omega))
  have HC3 := Lib.hid (fun w h => cloneU_any (.slice a3 flagsBs.length c3) flagsBs w h (by omega))
  have HC4 := Lib.hid (fun w h => cloneS_any (.slice a4 strsBs.length c4) strsBs w h (by omega))
  obtain ⟨n, hn⟩ : ∃ n, flagsAs.length = n := ⟨_, rfl⟩
  obtain ⟨m, hm⟩ : ∃ m, flagsBs.length = m := ⟨_, rfl⟩
  rw [← q2] at HC2 HZB HB1 t1
  rw [← q3] at HC4 HZB HB2 t3
  have HN2 : Hid (strsAs.length = n) := Lib.hid (q2.symm.trans hn)
  have HN4 : Hid (strsBs.length = m) := Lib.hid (q3.symm.trans hm)
  have HH2 : Hid (StrsAt w (.slice a2 n c2) strsAs) := Lib.hid (by have := H2.out; rwa [← q2, hn] at this)
  have HH4 : Hid (StrsAt w (.slice a4 m c4) strsBs) := Lib.hid (by have := H4.out; rwa [← q3, hm] at this)
  rw [← q2, ← q3]
  clear H2 H4
  rw [hn] at HC1 HC2 HZB HB1 t0 t1 t5 H1 p0 ⊢
  rw [hm] at HC3 HC4 HZB HB2 t2 t3 t5 H3 p2 ⊢
  have HN1 := Lib.hid hn
  have HN3 := Lib.hid hm
  have e5 : ((n : Int) != (n : Int)) = false := by simp
  have e6 : ((m : Int) != (m : Int)) = false := by simp
  clear hn hm q2 q3 r1 r2 r3 r4 p1 p3 q1
  have hk1 := make_u8 n m (by omega) (by omega)
  have hk2 := make_str n m (by omega) (by omega)
  go_enter Tryz.func3, Tryz.ntmps3
  go_wp2_with (first | (go_at_call 4; refine (HZB.out _ HSA.out HSB.out).mono ?_; rintro r w2 ⟨rfl, rfl⟩) | (go_at_call 5; (with_reducible refine (HB1.out _ HSA.out).mono ?_); rintro r w2 ⟨rfl, rfl⟩) | (go_at_call 5; (with_reducible refine (HB2.out _ HSB.out).mono ?_); rintro r w2 ⟨rfl, rfl⟩) | (go_at_call 6; (with_reducible refine (HC1.out _ H1.out).mono ?_); rintro r w1 ⟨d1, k1, rfl, h1, B1⟩; have HF1 := Lib.hid h1; have HX1 := Lib.hid B1; have HG2 := Lib.hid (HH2.out.below B1); have HG3 := Lib.hid (H3.out.below B1); have HG4 := Lib.hid (HH4.out.below B1); clear h1 B1) | (go_at_call 7; (with_reducible refine (HC2.out _ HG2.out).mono ?_); rintro r w2 ⟨d2, k2, rfl, h2, B2⟩; have HF2 := Lib.hid h2; have HF1b := Lib.hid (HF1.out.below B2); have HX2 := Lib.hid (HX1.out.trans (B2.mono HX1.out.size)); have HG3b := Lib.hid (HG3.out.below B2); have HG4b := Lib.hid (HG4.out.below B2); clear h2 B2) | (go_at_call 6; (with_reducible refine (HC3.out _ HG3b.out).mono ?_); rintro r w3 ⟨d3, k3, rfl, h3, B3⟩; have HF3 := Lib.hid h3; have HF1c := Lib.hid (HF1b.out.below B3); have HF2c := Lib.hid (HF2.out.below B3); have HX3 := Lib.hid (HX2.out.trans (B3.mono HX2.out.size)); have HG4c := Lib.hid (HG4b.out.below B3); clear h3 B3) | (go_at_call 7; (with_reducible refine (HC4.out _ HG4c.out).mono ?_); rintro r w4 ⟨d4, k4, rfl, h4, B4⟩; have K4 := Lib.hid h4; have K1 := Lib.hid (HF1c.out.below B4); have K2 := Lib.hid (HF2c.out.below B4); have K3 := Lib.hid (HF3.out.below B4); have HX := Lib.hid (HX3.out.trans (B4.mono HX3.out.size)); clear h4 B4))
  obtain ⟨FL, hFL⟩ : ∃ FL, FL = flagsAs ++ flagsBs := ⟨_, rfl⟩
  obtain ⟨SS, hSS⟩ : ∃ SS, SS = strsAs ++ strsBs := ⟨_, rfl⟩
  have HA1 : Hid (∀ k, k < n → FL.getD k 0 = flagsAs.getD k 0) := Lib.hid (fun k hk => by rw [hFL]; exact join_left _ _ _ (by rw [HN1.out]; exact hk))
  have HA2 : Hid (∀ k, k < n → SS.getD k ByteArray.empty = strsAs.getD k ByteArray.empty) := Lib.hid (fun k hk => by rw [hSS]; exact join_left _ _ _ (by rw [HN2.out]; exact hk))
  have HA3 : Hid (∀ k, FL.getD (n + k) 0 = flagsBs.getD k 0) := Lib.hid (fun k => by rw [hFL]; exact join_right _ _ _ HN1.out)
  have HA4 : Hid (∀ k, SS.getD (n + k) ByteArray.empty = strsBs.getD k ByteArray.empty) := Lib.hid (fun k => by rw [hSS]; exact join_right _ _ _ HN2.out)
  have HLF : Hid (FL.length = n + m) := Lib.hid (by rw [hFL, List.length_append, HN1.out, HN3.out])
  have HLS : Hid (SS.length = n + m) := Lib.hid (by rw [hSS, List.length_append, HN2.out, HN4.out])
  clear hFL hSS hk1 hk2
  have HR0 : Hid (((w4.alloc (.cells (madeCells #[.int .u8 0] (n + m)) 5)).alloc (.cells (madeCells #[.string ⟨#[]⟩] (n + m)) 9)).rowIs w4.heap.size 5 (n + m) (cloneU FL 0)) := Lib.hid (((World.rowIs_made w4 (.int .u8 0) (n + m) 5).congr fun j hj => by simp [cloneU]).alloc _)
  have HS0 : Hid (((w4.alloc (.cells (madeCells #[.int .u8 0] (n + m)) 5)).alloc (.cells (madeCells #[.string ⟨#[]⟩] (n + m)) 9)).rowIs (w4.heap.size + 1) 9 (n + m) (cloneS SS 0)) := Lib.hid (by
    have h := (World.rowIs_made (w4.alloc (.cells (madeCells #[.int .u8 0] (n + m)) 5)) (.string ⟨#[]⟩) (n + m) 9).congr (g := cloneS SS 0) fun j hj => by simp [cloneS]
    rwa [World.size_alloc] at h)
  go_loopw [13] (fun vi wr => ∃ k : Nat, vi = .int .i64 k ∧ k ≤ n ∧ Hid (wr.rowIs w4.heap.size 5 (n + m) (cloneU FL k)) ∧ Hid (wr.rowIs (w4.heap.size + 1) 9 (n + m) (cloneS SS k)) ∧ Hid (Below w4.heap.size w4 wr)) (fun vi _ => n - (intOf vi).toNat)
  case atStart => exact ⟨0, rfl, Nat.zero_le _, HR0, HS0, Lib.hid (((Below.refl _ _).alloc (Nat.le_refl _) _).alloc (by simp) _)⟩
  case round =>
    obtain ⟨wa, hwa⟩ : ∃ wa, wa = wr := ⟨_, rfl⟩
    subst hwa
    obtain ⟨k, rfl, hk, HR, HS, HB⟩ := hrel
    clear HR0 HS0
    by_cases hlt : k < n
    · have hlt2 : k < n + m := by omega
      have hki : (k : Int) < (n : Int) + (m : Int) := by omega
      obtain ⟨b, off, rfl, g1⟩ := K1.out.int HB.out (k := k) (by rw [HN1.out]; exact hlt)
      have HB1 := Lib.hid (HB.out.setCell (p := ⟨w4.heap.size, k, none⟩) (Nat.le_refl _) (.int .u8 (flagsAs.getD k 0)))
      obtain ⟨b', off', rfl, g2⟩ := K2.out.str HB1.out (k := k) (by rw [HN2.out]; exact hlt)
      have g3 := HR.out.cell hlt2
      have g4 := HR.out.frozen k
      have HR1 := Lib.hid (cloneU_step2 HR.out (HA1.out k hlt))
      have HS1 := Lib.hid (row_other HS.out ⟨w4.heap.size, k, none⟩ (.int .u8 (flagsAs.getD k 0)) (by show w4.heap.size + 1 ≠ w4.heap.size; omega))
      have g5 := HS1.out.cell hlt2
      have g6 := HS1.out.frozen k
      have HR2 := Lib.hid (row_other HR1.out ⟨w4.heap.size + 1, k, none⟩ (.string (strsAs.getD k ByteArray.empty)) (by show w4.heap.size ≠ w4.heap.size + 1; omega))
      have HS2 := Lib.hid (cloneS_step2 HS1.out (HA2.out k hlt))
      have HB2 := Lib.hid (HB1.out.setCell (p := ⟨w4.heap.size + 1, k, none⟩) (Nat.le_succ _) (.string (strsAs.getD k ByteArray.empty)))
      obtain ⟨x, hx⟩ : ∃ x, x = flagsAs.getD k 0 := ⟨_, rfl⟩
      obtain ⟨s, hs⟩ : ∃ s, s = strsAs.getD k ByteArray.empty := ⟨_, rfl⟩
      rw [← hx] at g1 g2 g5 g6 HR2 HS2 HB2
      rw [← hs] at g2 HR2 HS2 HB2
      clear hx hs HB1 HR1 HS1
      go_wp2_with fail
      go_roundw
      case rel => exact ⟨k + 1, by go_num, by omega, HR2, HS2, HB2⟩
      case measure => simp [intOf]; omega
    · obtain rfl : k = n := by omega
      go_wp2_with fail
      go_loopw [14] (fun vi wr => ∃ j : Nat, vi = .int .i64 j ∧ j ≤ m ∧ Hid (wr.rowIs w4.heap.size 5 (k + m) (cloneU FL (k + j))) ∧ Hid (wr.rowIs (w4.heap.size + 1) 9 (k + m) (cloneS SS (k + j))) ∧ Hid (Below w4.heap.size w4 wr)) (fun vi _ => m - (intOf vi).toNat)
      case atStart => exact ⟨0, rfl, Nat.zero_le _, HR, HS, HB⟩
      case round =>
        obtain ⟨wb, hwb⟩ : ∃ wb, wb = wr := ⟨_, rfl⟩
        subst hwb
        clear HR HS HB
        obtain ⟨j, rfl, hj, HR, HS, HB⟩ := hrel
        by_cases hltj : j < m
        · have hlt2 : k + j < k + m := by omega
          have hki : (k : Int) + (j : Int) < (k : Int) + (m : Int) := by omega
          obtain ⟨b, off, rfl, g1⟩ := K3.out.int HB.out (k := j) (by rw [HN3.out]; exact hltj)
          have HB1 := Lib.hid (HB.out.setCell (p := ⟨w4.heap.size, k + j, none⟩) (Nat.le_refl _) (.int .u8 (flagsBs.getD j 0)))
          obtain ⟨b', off', rfl, g2⟩ := K4.out.str HB1.out (k := j) (by rw [HN4.out]; exact hltj)
          have g3 := HR.out.cell hlt2
          have g4 := HR.out.frozen (k + j)
          have HR1 := Lib.hid (cloneU_step2 HR.out (HA3.out j))
          have HS1 := Lib.hid (row_other HS.out ⟨w4.heap.size, k + j, none⟩ (.int .u8 (flagsBs.getD j 0)) (by show w4.heap.size + 1 ≠ w4.heap.size; omega))
          have g5 := HS1.out.cell hlt2
          have g6 := HS1.out.frozen (k + j)
          have HR2 := Lib.hid (row_other HR1.out ⟨w4.heap.size + 1, k + j, none⟩ (.string (strsBs.getD j ByteArray.empty)) (by show w4.heap.size ≠ w4.heap.size + 1; omega))
          have HS2 := Lib.hid (cloneS_step2 HS1.out (HA4.out j))
          have HB2 := Lib.hid (HB1.out.setCell (p := ⟨w4.heap.size + 1, k + j, none⟩) (Nat.le_succ _) (.string (strsBs.getD j ByteArray.empty)))
          obtain ⟨x, hx⟩ : ∃ x, x = flagsBs.getD j 0 := ⟨_, rfl⟩
          obtain ⟨s, hs⟩ : ∃ s, s = strsBs.getD j ByteArray.empty := ⟨_, rfl⟩
          rw [← hx] at g1 g2 g5 g6 HR2 HS2 HB2
          rw [← hs] at g2 HR2 HS2 HB2
          clear hx hs HB1 HR1 HS1
          go_wp2_with fail
          go_roundw
          case rel => exact ⟨j + 1, by go_num, by omega, HR2, HS2, HB2⟩
          case measure => simp [intOf]; omega
        · obtain rfl : m = j := by omega
          clear hltj hlt hk hj
          have L1 := Lib.hid (K1.out.below HB.out)
          have L2 := Lib.hid (K2.out.below HB.out)
          have L3 := Lib.hid (K3.out.below HB.out)
          have L4 := Lib.hid (K4.out.below HB.out)
          have L5 := Lib.hid (rowU_slots HR.out HLF.out)
          have L6 := Lib.hid (rowS_slots HS.out HLS.out)
          have HXW := Lib.hid (HX.out.trans (HB.out.mono HX.out.size))
          have HT1 := Lib.hid (fun w h h2 => terms_any d1 k1 d2 k2 flagsAs strsAs k w h h2 HN1.out HN2.out (by omega))
          have HT2 := Lib.hid (fun w h h2 => terms_any d3 k3 d4 k4 flagsBs strsBs m w h h2 HN3.out HN4.out (by omega))
          have HT3 := Lib.hid (fun w h h2 => terms_any (some ⟨w4.heap.size, 0, none⟩) (k + m) (some ⟨w4.heap.size + 1, 0, none⟩) (k + m) FL SS (k + m) w h h2 HLF.out HLS.out (by omega))
          have HZ1 := Lib.hid (fun A B w hA hT => zarr_any A B k flagsAs strsAs w hA hT (by omega))
          have HZ2 := Lib.hid (fun A B w hA hT => zarr_any A B m flagsBs strsBs w hA hT (by omega))
          have HZ3 := Lib.hid (fun A B w hA hT => zarr_any A B (k + m) FL SS w hA hT (by omega))
          clear HR HS HB HLF HLS K1 K2 K3 K4 HX
          go_wp2_with (first | (go_at_call 9; (with_reducible refine (HT1.out _ L1.out L2.out).mono ?_); rintro r w6 ⟨T1, rfl, h6, B6⟩; have HTA := Lib.hid (h6.below ((Below.refl _ _).alloc (Nat.le_refl _) (.cells #[.slice (some ⟨T1, 0, none⟩) k k] 34))); have HCA := Lib.hid (box_cell w6 (.slice (some ⟨T1, 0, none⟩) k k) 34); have Y6 := Lib.hid (B6.alloc B6.size (.cells #[.slice (some ⟨T1, 0, none⟩) k k] 34)); clear h6 B6) | (go_at_call 8; (with_reducible refine (HZ1.out _ _ _ HCA.out HTA.out).mono ?_); rintro r w7 ⟨V1, rfl, h7, B7⟩; have HV1 := Lib.hid h7; have Y7 := Lib.hid (Y6.out.trans (B7.mono Y6.out.size)); have M3 := Lib.hid (L3.out.below Y7.out); have M4 := Lib.hid (L4.out.below Y7.out); have M5 := Lib.hid (L5.out.below Y7.out); have M6 := Lib.hid (L6.out.below Y7.out); clear h7 B7 HTA HCA) | (go_at_call 9; (with_reducible refine (HT2.out _ M3.out M4.out).mono ?_); rintro r w8 ⟨T2, rfl, h8, B8⟩; have HTB := Lib.hid (h8.below ((Below.refl _ _).alloc (Nat.le_refl _) (.cells #[.slice (some ⟨T2, 0, none⟩) m m] 34))); have HCB := Lib.hid (box_cell w8 (.slice (some ⟨T2, 0, none⟩) m m) 34); have Y8 := Lib.hid (B8.alloc B8.size (.cells #[.slice (some ⟨T2, 0, none⟩) m m] 34)); clear h8 B8) | (go_at_call 8; (with_reducible refine (HZ2.out _ _ _ HCB.out HTB.out).mono ?_); rintro r w9 ⟨V2, rfl, h9, B9⟩; have HV2 := Lib.hid h9; have Y9 := Lib.hid (Y8.out.trans (B9.mono Y8.out.size)); have HV1b := Lib.hid (HV1.out.below Y9.out); have N5 := Lib.hid (M5.out.below Y9.out); have N6 := Lib.hid (M6.out.below Y9.out); clear h9 B9 HTB HCB) | (go_at_call 9; (with_reducible refine (HT3.out _ N5.out N6.out).mono ?_); rintro r wA ⟨T3, rfl, hA, BA⟩; have HTC := Lib.hid (hA.below ((Below.refl _ _).alloc (Nat.le_refl _) (.cells #[.slice (some ⟨T3, 0, none⟩) (k + m) (k + m)] 34))); have HCC := Lib.hid (box_cell wA (.slice (some ⟨T3, 0, none⟩) (k + m) (k + m)) 34); have YA := Lib.hid (BA.alloc BA.size (.cells #[.slice (some ⟨T3, 0, none⟩) (k + m) (k + m)] 34)); clear hA BA) | (go_at_call 8; (with_reducible refine (HZ3.out _ _ _ HCC.out HTC.out).mono ?_); rintro r wB ⟨V3, rfl, hB, BB⟩; have HV3 := Lib.hid hB; have YB := Lib.hid (YA.out.trans (BB.mono YA.out.size)); have HV1c := Lib.hid (HV1b.out.below YB.out); have HV2b := Lib.hid (HV2.out.below YB.out); clear hB BB HTC HCC))
          have HTOT1 := Lib.hid (HXW.out.trans (Y7.out.mono HXW.out.size))
          have HTOT2 := Lib.hid (HTOT1.out.trans (Y9.out.mono HTOT1.out.size))
          have HTOT := Lib.hid (HTOT2.out.trans (YB.out.mono HTOT2.out.size))
          clear HTOT1 HTOT2 Y7 Y9 YB HT1 HT2 HT3 HZ1 HZ2 HZ3
          have HV3A : Hid (∀ i, i < k → wB.cell? ⟨V3, i, none⟩ = some (valF (flagsAs.getD i 0) (strsAs.getD i ByteArray.empty))) := Lib.hid (fun i hi => by rw [HV3.out i (by omega), HA1.out i hi, HA2.out i hi])
          have HV3B : Hid (∀ i, i < m → wB.cell? ⟨V3, k + i, none⟩ = some (valF (flagsBs.getD i 0) (strsBs.getD i ByteArray.empty))) := Lib.hid (fun i hi => by rw [HV3.out (k + i) (by omega), HA3.out i, HA4.out i])
          go_loopw [18] (fun vi wr => ∃ i : Nat, vi = .int .i64 i ∧ i ≤ k ∧ Hid (Below wB.heap.size wB wr)) (fun vi _ => k - (intOf vi).toNat)
          case atStart => exact ⟨0, rfl, Nat.zero_le _, Lib.hid (Below.refl _ _)⟩
          case round =>
            obtain ⟨wc, hwc⟩ : ∃ wc, wc = wr := ⟨_, rfl⟩
            subst hwc
            obtain ⟨i, rfl, hi, HBC⟩ := hrel
            by_cases hlti : i < k
            · have g1 := (HBC.out.cell (World.block_lt_of_cell? wB _ (HV1c.out i hlti))).trans (HV1c.out i hlti)
              have g2 := (HBC.out.cell (World.block_lt_of_cell? wB _ (HV3A.out i hlti))).trans (HV3A.out i hlti)
              have hki : (i : Int) < (k : Int) + (m : Int) := by omega
              have hki2 : (i : Int) < (k : Int) := by omega
              rcases valF_cases (flagsAs.getD i 0) (strsAs.getD i ByteArray.empty) with e | e | e | e
              all_goals
                rw [e] at g1 g2
                clear e
                try generalize strsAs.getD i ByteArray.empty = s at g1 g2
                go_wp2
                go_quiet (fail)
                go_wp2
                go_roundw
                case rel => exact ⟨i + 1, by go_num, by omega, Lib.hid (below_drewN HBC.out _)⟩
                case measure => simp [intOf]; omega
            · obtain rfl : k = i := by omega
              go_wp2_with fail
              go_loopw [19] (fun vi wr => ∃ i : Nat, vi = .int .i64 i ∧ i ≤ m ∧ Hid (Below wB.heap.size wB wr)) (fun vi _ => m - (intOf vi).toNat)
              case atStart => exact ⟨0, rfl, Nat.zero_le _, HBC⟩
              case round =>
                obtain ⟨wd, hwd⟩ : ∃ wd, wd = wr := ⟨_, rfl⟩
                subst hwd
                clear HBC
                obtain ⟨j, rfl, hj, HBC⟩ := hrel
                by_cases hltj : j < m
                · have g1 := (HBC.out.cell (World.block_lt_of_cell? wB _ (HV2b.out j hltj))).trans (HV2b.out j hltj)
                  have g2 := (HBC.out.cell (World.block_lt_of_cell? wB _ (HV3B.out j hltj))).trans (HV3B.out j hltj)
                  have hki : (k : Int) + (j : Int) < (k : Int) + (m : Int) := by omega
                  have hki2 : (j : Int) < (m : Int) := by omega
                  have hwr : IntKind.i64.wrap ((k : Int) + (j : Int)) = (k : Int) + (j : Int) := by rw [IntKind.wrap_i64]; omega
                  have hnn : 0 ≤ (k : Int) + (j : Int) := by omega
                  have htn : ((k : Int) + (j : Int)).toNat = k + j := by omega
                  rcases valF_cases (flagsBs.getD j 0) (strsBs.getD j ByteArray.empty) with e | e | e | e
                  all_goals
                    rw [e] at g1 g2
                    clear e
                    try generalize strsBs.getD j ByteArray.empty = s at g1 g2
                    go_wp2
                    go_quiet (fail)
                    go_wp2
                    go_roundw
                    case rel => exact ⟨j + 1, by go_num, by omega, Lib.hid (below_drewN HBC.out _)⟩
                    case measure => simp [intOf]; omega
                · go_wp2_with fail
                  go_ret
                  exact ⟨rfl, HTOT.out.trans (HBC.out.mono HTOT.out.size)⟩

set_option maxRecDepth 100000 in
theorem lifted (os : Os) (started : os.Started) (H : Type) (enc : TypeId × Value → H) :
    ReturnsInHanded {} Tryz.checked os 3 .any (fun w args => (Rows.fnConstArrayToValueConcatSpec.pre enc Tryz.prog Tryz.f3 Rows.fnConstArrayToValueConcatRow.domain false w args ∧ laidMetH Tryz.prog Rows.fnConstArrayToValueConcatRow.laid w) ∧ sizedMet enc Tryz.prog Tryz.f3 (OpenSpec.ofChange Rows.fnConstArrayToValueConcatSpec) false w args)
      (Rows.fnConstArrayToValueConcatSpec.post enc Tryz.prog Tryz.f3 false true false false) := by
  refine returnsInHanded_of_change_and (C := Tryz.checked) (X := fun w _ => laidMetH Tryz.prog Rows.fnConstArrayToValueConcatRow.laid w) (fun _ _ _ hh h => h.of_heap hh) own started (by kernel_rfl) Tryz.func3
    (ChangeSpec.witness_shaped (enc := enc) (C := Tryz.checked) (os := os) (X := fun w _ => laidMetH Tryz.prog Rows.fnConstArrayToValueConcatRow.laid w) false (World.laidAll Tryz.prog os Rows.fnConstArrayToValueConcatRow.laid) #[.slice none 0 0, .slice none 0 0, .slice none 0 0, .slice none 0 0] 8 (World.laidAll_os _ _ _)
      (World.shaped_of_ZipB (by kernel_rfl) (by kernel_rfl)) (by kernel_rfl) (by kernel_rfl) (by kernel_rfl)
      (by rw [MakeChecks.laidMetH_plain _ _ _ (by kernel_rfl)]; exact laidMet_laidAll _ (by kernel_rfl) (by kernel_rfl))) ?_
  intro W base args ds gs before hval0 hW hcnd _ hL _
  have hval : ∀ (j : Nat) t v, Tryz.f3.params[j]? = some t → args[j]? = some v → Value.okWide Tryz.prog W .any base t v := hval0
  have hW' := hW
  obtain ⟨p, q, hA0, hV0, rfl, hfz, hnd⟩ := hW
  have hA : DataW.TrodAll enc Tryz.prog W 0 (fun _ => true) true Tryz.f3.params.toList args.toList ds p := hA0
  rw [Tryz.params3] at hA hval
  obtain ⟨v0, vs0, d0, ds0, p0, q0, hargs, rfl, rfl, h0, r0⟩ := trodAll_cons hA
  obtain ⟨v1, vs1, d1, ds1, p1, q1, rfl, rfl, rfl, h1, r1⟩ := trodAll_cons r0
  obtain ⟨v2, vs2, d2, ds2, p2, q2, rfl, rfl, rfl, h2, r2⟩ := trodAll_cons r1
  obtain ⟨v3, vs3, d3, ds3, p3, q3, rfl, rfl, rfl, h3, r3⟩ := trodAll_cons r2
  obtain ⟨rfl, rfl, rfl⟩ := trodAll_nil r3
  obtain rfl : args = #[v0, v1, v2, v3] := by cases args; simp_all
  have hgl := trodVars_len hV0
  obtain ⟨g1, g2, rfl⟩ := len2 gs hgl
  obtain ⟨flagsAs, hz0⟩ := ints_at (k := .u8) Tryz.underlying22 Tryz.underlying5 (by kernel_rfl) (hval 0 22 v0 rfl rfl) h0
  obtain ⟨strsAs, hz1⟩ := strs_at Tryz.underlying23 Tryz.underlying9 (by kernel_rfl) (hval 1 23 v1 rfl rfl) h1
  obtain ⟨flagsBs, hz2⟩ := ints_at (k := .u8) Tryz.underlying22 Tryz.underlying5 (by kernel_rfl) (hval 2 22 v2 rfl rfl) h2
  obtain ⟨strsBs, hz3⟩ := strs_at Tryz.underlying23 Tryz.underlying9 (by kernel_rfl) (hval 3 23 v3 rfl rfl) h3
  clear hA0 hval0
  simp only [List.append_nil] at hW'
  refine (walk v0 flagsAs v1 strsAs v2 flagsBs v3 strsBs W hz0 hz1 hz2 hz3).mono fun e W' ⟨he, hg⟩ => ?_
  subst he
  exact ⟨_, rfl, post_belowAll hW' (fun _ _ _ => (trodAll_cons_mk (shut_bool Tryz.underlying4 _) trodAll_mk0)) (trodAll_cons_mk (Below.trod laidOut (by kernel_rfl) (of_decide_eq_true (by kernel_rfl)) h0 hg (fun x hx => hW'.lt x (by simp [hx]))) (trodAll_cons_mk (Below.trod laidOut (by kernel_rfl) (of_decide_eq_true (by kernel_rfl)) h1 hg (fun x hx => hW'.lt x (by simp [hx]))) (trodAll_cons_mk (Below.trod laidOut (by kernel_rfl) (of_decide_eq_true (by kernel_rfl)) h2 hg (fun x hx => hW'.lt x (by simp [hx]))) (trodAll_cons_mk (Below.trod laidOut (by kernel_rfl) (of_decide_eq_true (by kernel_rfl)) h3 hg (fun x hx => hW'.lt x (by simp [hx]))) trodAll_mk0)))) (hg.trodVars laidOut (by kernel_rfl) hV0) (by simp) hg⟩

theorem holds : Rows.FnConstArrayToValueConcatSaid :=
  OpenClaim.holds_of_wide 3 Tryz.f3 rfl rfl rfl rfl rfl rfl rfl ⟨rfl, rfl, rfl, rfl, rfl⟩ rfl rfl rfl rfl rfl (by kernel_rfl) Tryz.func3 (by kernel_rfl)
    (of_decide_eq_true (by kernel_rfl)) (by unfold Func.isWrapper; first | (rw [if_pos (by decide +kernel)]; kernel_rfl) | (rw [if_neg (by decide +kernel)]; exact ⟨rfl, rfl⟩))
    (fun os started H enc _ => lifted os started H enc)

theorem card_holds : Rows.FnConstArrayToValueConcatCardSaid :=
  Claim7.holds_tied_plain_at .later [] _ _ _ _ holds (fun _ h => by cases h) (by kernel_rfl) (fun _ h => by cases h) fnConstArrayToValueConcat_row_tie rfl ⟨rfl, rfl⟩ (by kernel_rfl) rfl
    (fun f fn hf hfn => by
      obtain rfl : f = 3 := Option.some.inj ((show Tryz.prog.funcNamed "github.com/itchyny/gojq/n001_53.FnConstArrayToValueConcat" = some 3 by kernel_rfl).symm.trans hf) |>.symm
      obtain rfl : fn = Tryz.f3 := (Option.some.inj (Tryz.func3.symm.trans hfn)).symm
      exact ⟨by kernel_rfl, fun j t ht => by
        rw [Tryz.params3] at ht
        have hm : t ∈ [22, 23, 22, 23] := by simpa using Array.mem_of_getElem? ht
        have hall : ([22, 23, 22, 23].all fun u => !Tryz.prog.wantsStandIn u) = true := by kernel_rfl
        exact (show Tryz.prog.wantsStandIn t = false by simpa using List.all_eq_true.1 hall t hm)⟩)
    (by kernel_rfl)
#print axioms card_holds
end Go.Proofs.YtdfgljkmkceldaaGreatDoor.fnConstArrayToValueConcat
