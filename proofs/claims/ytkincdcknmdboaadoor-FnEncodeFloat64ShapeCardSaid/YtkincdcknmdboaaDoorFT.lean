/- The walk of ftoa64 and AppendFloat, the shortest form. -/
import Derived.Deep.RegionLaw
import Derived.Deep.QuietTactic
import Derived.Lib.AppendIntMem
import Derived.Lib.ItoaLen
import Derived.Test.YtkincdcknmdboaaDoorFF
namespace Go.Proofs.YtkincdcknmdboaaDoor
open Go.RowKit
set_option linter.unusedVariables false
set_option linter.unusedSimpArgs false

theorem fbits (x : Nat) (w : World) :
    (callFunc 21 #[.float .f64 x]).run Tryd.prog w = .ok (.value (.int .u64 x)) w := by kernel_rfl

theorem below_of_grown {B E : Nat} {w w' : World} (h : w.grownBy w' (some E)) (hE : B ≤ E) (hs : B ≤ w.heap.size) : Below B w w' := by
  obtain ⟨h1, h2, h3, h4, h5⟩ := h
  exact ⟨h1, h2, h3, h4, fun k hk => h5 k (by omega) (by simp; omega)⟩

theorem BufAt.grown2 {w w' : World} {E D : Nat} {V : Value} {L : List UInt8} (h : BufAt w E V L) (hg : w.grownBy w' (some D)) (hne : D ≠ E) : BufAt w' E V L := by
  obtain ⟨h1, h2, h3, h4⟩ := h
  have hlt : E < w.heap.size := World.block_lt_of_cell? w _ h2
  have hb : w'.heap[E]? = w.heap[E]? := hg.block E hlt (by simp; omega)
  have hc : ∀ i, w'.cell? ⟨E, i, none⟩ = w.cell? ⟨E, i, none⟩ := fun i => World.cell?_of_block hb
  have hf : ∀ i, w'.frozen? ⟨E, i, none⟩ = w.frozen? ⟨E, i, none⟩ := fun i => World.frozen?_of_block hb
  exact ⟨h1, by rw [hc, h2], fun j hj => by rw [hc, hf]; exact h3 j hj, fun j hj => by rw [hc]; exact h4 j hj⟩

theorem BufAt.below {w w' : World} {E B : Nat} {V : Value} {L : List UInt8} (h : BufAt w E V L) (hg : Below B w w') (hlt : E < B) : BufAt w' E V L := by
  obtain ⟨h1, h2, h3, h4⟩ := h
  have hb : w'.heap[E]? = w.heap[E]? := hg.block E hlt
  have hc : ∀ i, w'.cell? ⟨E, i, none⟩ = w.cell? ⟨E, i, none⟩ := fun i => World.cell?_of_block hb
  have hf : ∀ i, w'.frozen? ⟨E, i, none⟩ = w.frozen? ⟨E, i, none⟩ := fun i => World.frozen?_of_block hb
  exact ⟨h1, by rw [hc, h2], fun j hj => by rw [hc, hf]; exact h3 j hj, fun j hj => by rw [hc]; exact h4 j hj⟩

theorem BufAt.lt {w : World} {E : Nat} {V : Value} {L : List UInt8} (h : BufAt w E V L) : E < w.heap.size := World.block_lt_of_cell? w _ h.2.1

theorem alloc_world (B E : Nat) (V : Value) (w0 w : World) (hB : BufAt w E V []) (hw : Below B w0 w) (hBw : B ≤ w.heap.size) (n : Nat) (o : Obj) :
    Below B w0 ((w.drewN n).alloc o) ∧ B ≤ ((w.drewN n).alloc o).heap.size := ⟨(below_drewN hw n).alloc hBw _, by simp [World.alloc]; omega⟩

theorem alloc_after (B E : Nat) (V : Value) (w0 w : World) (hB : BufAt w E V []) (hw : Below B w0 w) (hBw : B ≤ w.heap.size) (n : Nat) (o : Obj) (w3 : World) (h : Below ((w.drewN n).alloc o).heap.size ((w.drewN n).alloc o) w3) :
    BufAt w3 E V [] ∧ Below B w0 w3 ∧ w3.heap[w.heap.size]? = some o ∧ w.heap.size < w3.heap.size := by
  have hs : ((w.drewN n).alloc o).heap.size = w.heap.size + 1 := by simp [World.alloc]
  have h1 := alloc_world B E V w0 w hB hw hBw n o
  have hlt := hB.lt
  have e2 := h.size
  rw [hs] at h e2
  refine ⟨?_, ?_, ?_, by omega⟩
  · have hB1 : BufAt (w.drewN n) E V [] := hB
    exact (hB1.grown (World.grownBy_alloc (w.drewN n) o none)).below h (by omega)
  · exact h1.1.trans (h.mono (by omega))
  · rw [h.block _ (by omega)]
    show (w.heap.push o)[w.heap.size]? = _
    simp

theorem pow_le_of_nDigits (u : Nat) (h : 1 ≤ u) : 10 ^ (Lib.nDigits u - 1) ≤ u := by
  induction u using Nat.strongRecOn with
  | _ u ih =>
    by_cases h9 : u < 10
    · rw [Lib.nDigits_small h9]; simpa using h
    · have h2 := ih (u / 10) (by omega) (by omega)
      have h3 := Lib.nDigits_pos (u / 10)
      rw [Lib.nDigits_big h9, Nat.add_sub_cancel]
      obtain ⟨m, hm⟩ : ∃ m, Lib.nDigits (u / 10) = m + 1 := ⟨Lib.nDigits (u / 10) - 1, by omega⟩
      rw [hm, Nat.add_sub_cancel] at h2
      rw [hm, Nat.pow_succ]
      omega

theorem zero32 (w : World) (D : Nat) (C : Array Value) (t : TypeId) (hC : C = #[.int .u8 0, .int .u8 0, .int .u8 0, .int .u8 0, .int .u8 0, .int .u8 0, .int .u8 0, .int .u8 0, .int .u8 0, .int .u8 0, .int .u8 0, .int .u8 0, .int .u8 0, .int .u8 0, .int .u8 0, .int .u8 0, .int .u8 0, .int .u8 0, .int .u8 0, .int .u8 0, .int .u8 0, .int .u8 0, .int .u8 0, .int .u8 0, .int .u8 0, .int .u8 0, .int .u8 0, .int .u8 0, .int .u8 0, .int .u8 0, .int .u8 0, .int .u8 0])
    (h : w.heap[D]? = some (.cells C t)) : ∀ j, j < 32 → w.cell? ⟨D, j, none⟩ = some (.int .u8 0) ∧ w.frozen? ⟨D, j, none⟩ = false := by
  intro j hj
  have hh : ∀ j : Fin 32, C[j.1]? = some (.int .u8 0) := by
    subst hC
    intro j
    exact (by decide +kernel : ∀ j : Fin 32, (List.replicate 32 (0 : Int))[j.1]? = some 0) j |> fun _ => by
      have := j.2
      rcases j with ⟨j, hj⟩
      match j, hj with
      | 0, _ | 1, _ | 2, _ | 3, _ | 4, _ | 5, _ | 6, _ | 7, _ | 8, _ | 9, _ | 10, _ | 11, _ | 12, _ | 13, _ | 14, _ | 15, _ | 16, _ | 17, _ | 18, _ | 19, _ | 20, _ | 21, _ | 22, _ | 23, _ | 24, _ | 25, _ | 26, _ | 27, _ | 28, _ | 29, _ | 30, _ | 31, _ => rfl
  exact ⟨by have := hh ⟨j, hj⟩; simp only [World.cell?, h]; simpa using this, by simp [World.frozen?, h]⟩

/-- what is laid of a float's bits -/
structure Parts (x sg y ee mm : Nat) (neg : Bool) : Prop where
  b1 : (x : Int) / 9223372036854775808 = (sg : Int)
  b2 : ((sg : Int) != 0) = neg
  b3 : (x : Int) / 4503599627370496 = (y : Int)
  b4 : bits .and .i64 (y : Int) 2047 = (ee : Int)
  b5 : bits .and .u64 (x : Int) 4503599627370495 = (mm : Int)
  b6 : bits .or .u64 (mm : Int) 4503599627370496 = ((mm + 4503599627370496 : Nat) : Int)
  b7 : y < 4096
  b8 : ee < 2047
  b9 : mm < 4503599627370496
  b0 : sg < 2


set_option maxRecDepth 100000 in
set_option maxHeartbeats 2000000 in
theorem ft_f_n (B E x sg y ee mm m sh M d n : Nat) (neg : Bool) (e2 ef q dp : Int) (V : Value) (PL : List UInt8 → Prop) (w0 w : World) (hP : Parts x sg y ee mm neg) (hee : 1 ≤ ee)
    (hm : m = mm + 4503599627370496) (hm0 : 1 ≤ m) (hsh : 64 - (Lib.bitLen m : Int) = (sh : Int)) (hsh2 : sh < 64) (hM : (m : Int) * 2 ^ sh = (M : Int)) (hM2 : M < 18446744073709551616) (he2 : (ee : Int) - 1023 - (sh : Int) = e2) (hef : e2 - 52 = ef)
    (hd1 : 1 ≤ d) (hd2 : d < 18446744073709551616) (hn : Lib.nDigits d = n) (hq0 : -1000 ≤ q) (hq1 : q ≤ 1000) (hdp : (n : Int) + q = dp)
    (hB : BufAt w E V []) (hw : Below B w0 w) (hBE : B ≤ E) (hBw : B ≤ w.heap.size)
    (HT : Lib.TabBelow Tryd.prog B w0 "internal/strconv.uint64pow10" .u64 Lib.pow10Tab)
    (HSH : ∀ w1, Below B w0 w1 → B ≤ w1.heap.size → Calls Tryd.prog 34 #[.int .u64 M, .int .i64 ef] w1 fun r w' => r = .returned (.tuple #[.int .u64 d, .int .i64 q]) ∧ Below w1.heap.size w1 w')
    (HFE : ∀ (D k : Nat) (w1 : World), B ≤ D → D ≠ E → 1 ≤ k → k ≤ n → (∀ j, k ≤ j → j < n → Lib.dg d (n - 1 - j) = 48) → Lib.dg d (n - k) ≠ 48 → DigAt w1 D n d → BufAt w1 E V [] → Below B w0 w1 → B ≤ w1.heap.size →
      Calls Tryd.prog 24 #[.slice (some ⟨E, 1, none⟩) 0 64, .bool neg, .slice (some ⟨D, 0, none⟩) 32 32, .int .i64 dp, .int .i64 k, .int .i64 (max ((k : Int) - dp) 0), .int .u8 102, .bool true] w1 fun r w' => ∃ L, r = .returned (.slice (some ⟨E, 1, none⟩) (L.length : Nat) 64) ∧ PL L ∧ BufAt w' E V L ∧ Below B w0 w') :
    Calls Tryd.prog 19 #[.slice (some ⟨E, 1, none⟩) 0 64, .float .f64 x, .int .u8 102, .int .i64 (-1)] w fun r w' => ∃ L, r = .returned (.slice (some ⟨E, 1, none⟩) (L.length : Nat) 64) ∧ PL L ∧ BufAt w' E V L ∧ Below B w0 w' := by
  obtain ⟨b1, b2, b3, b4, b5, b6, b7, b8, b9, b0⟩ := hP
  have hlt := hB.lt
  have HB0 := Lib.hid hB
  have HW0 := Lib.hid hw
  have HT0 := Lib.hid HT
  have HS0 := Lib.hid HSH
  have HF0 := Lib.hid HFE
  have HN := Lib.hid hn
  have hbl : Lib.bitLen m ≤ 64 := by omega
  have HLE : Hid (∀ w : World, Calls Tryd.prog 25 #[.int .u64 m] w fun r w' => r = .returned (.int .i64 (Lib.bitLen m)) ∧ w = w') := Lib.hid (fun w => (Tryd.bits_Len64 m w (by omega) (by omega)).mono (fun r w' h => ⟨by simpa using h.1, h.2.symm⟩))
  have HND : Hid (∀ w1 : World, Below B w0 w1 → Calls Tryd.prog 28 #[.int .u64 d] w1 fun r w' => r = .returned (.int .i64 n) ∧ w1 = w') := Lib.hid (fun w1 h => (Tryd.internal_strconv_numDigits d hd1 hd2 w1 (HT0.out w1 h)).mono (fun r w' h => ⟨by rw [h.1, HN.out], h.2.symm⟩))
  have HSD : Hid (∀ (D : Nat) (w1 : World), (∀ j, j < 32 → w1.cell? ⟨D, j, none⟩ = some (.int .u8 0) ∧ w1.frozen? ⟨D, j, none⟩ = false) → Calls Tryd.prog 27 #[.slice (some ⟨D, 0, none⟩) 32 32, .int .u64 d, .int .i64 q, .int .i64 n] w1 fun r w' => ∃ k : Nat, r = .returned (.tuple #[.int .i64 dp, .int .i64 k]) ∧ 1 ≤ k ∧ k ≤ n ∧ (∀ j, k ≤ j → j < n → Lib.dg d (n - 1 - j) = 48) ∧ Lib.dg d (n - k) ≠ 48 ∧ DigAt w' D n d ∧ w1.grownBy w' (some D)) := Lib.hid (fun D w1 h => by
    have e := hn
    have h20 := Lib.nDigits_le20 d hd2
    have hp := Lib.nDigits_pos d
    have hu := Lib.lt_pow_nDigits d
    have hl := pow_le_of_nDigits d hd1
    rw [e] at h20 hp hu hl
    have := setDigits_any D n d q w1 h h20 hp hu hl hd2 hq0 hq1
    rw [hdp] at this
    exact this)
  have hn20 : n ≤ 20 := by have h := Lib.nDigits_le20 d hd2; rw [hn] at h; exact h
  have hdp0 : -1100 ≤ dp := by omega
  have hdp1 : dp ≤ 1100 := by omega
  have hfb := fbits x
  have t0 : ((ee : Int) == 2047) = false := by simp; omega
  have t1 : ((ee : Int) == 0) = false := by simp; omega
  have t2 : ((m : Int) == 0) = false := by simp; omega
  have t3 : IntKind.u64.wrap ((m : Int) * 2 ^ sh) = (M : Int) := by rw [hM, IntKind.wrap_u64]; omega
  
  rw [← hm] at b6
  clear hm
  have t4 : (ee : Int) + -1023 - (sh : Int) = e2 := by omega
  have t5 : (ee : Int) + -1023 = (ee : Int) - 1023 := by omega
  clear hB hw HT HSH HFE hn
  go_enter Tryd.func19, Tryd.ntmps19
  go_wp2_with fail
  go_quiet (fail)
  go_wp2_with (first | (go_at_call 25; refine (HLE.out _).mono ?_; rintro r w2 ⟨rfl, rfl⟩) | (go_at_call 34; refine (HS0.out _ (alloc_world B E V w0 w HB0.out HW0.out hBw _ _).1 (alloc_world B E V w0 w HB0.out HW0.out hBw _ _).2).mono ?_; rintro r w3 ⟨rfl, h3⟩; obtain ⟨h4, h5, h6, h7⟩ := alloc_after B E V w0 w HB0.out HW0.out hBw _ _ w3 h3; have HB3 := Lib.hid h4; have HW3 := Lib.hid h5; have HZ3 := Lib.hid (zero32 w3 _ _ _ rfl h6); clear h3 h4 h5 h6))
  go_region_law (first | (go_simp; go_at_call 28; refine (HND.out _ (by first | exact HW3.out | exact below_drewN HW3.out _ | exact HW3.out.drew)).mono ?_; rintro r w4 ⟨rfl, rfl⟩) | (go_simp; go_at_call 27; refine (HSD.out _ w3.drew HZ3.out).mono ?_; rintro r w5 ⟨k, rfl, hk1, hk2, h5, h5b, h6, h8⟩; have HW5 : Below B w0 w5 := HW3.out.drew.trans (below_of_grown h8 hBw (by show B ≤ w3.heap.size; omega)); have HE5 := Lib.hid (HF0.out w.heap.size k w5 hBw (by omega) hk1 hk2 h5 h5b h6 (BufAt.grown2 (w := w3.drew) HB3.out h8 (by omega)) HW5 (by have h9 : w3.heap.size ≤ w5.heap.size := h8.size; omega)); clear h5 h5b h6 h8 HW5))
  go_wp2_with (first | (go_at_call 24; refine HE5.out.mono ?_; rintro r w6 ⟨L, rfl, h1, h2, h3⟩; have HP6 := Lib.hid h1; have HB6 := Lib.hid h2; have HW6 := Lib.hid h3; clear h1 h2 h3))
  go_ret
  exact ⟨L, rfl, HP6.out, HB6.out, HW6.out⟩


set_option maxRecDepth 100000 in
set_option maxHeartbeats 2000000 in
theorem ft_f_s (B E x sg y ee mm m sh M d n : Nat) (neg : Bool) (e2 ef q dp : Int) (V : Value) (PL : List UInt8 → Prop) (w0 w : World) (hP : Parts x sg y ee mm neg) (hee : ee = 0)
    (hm : m = mm) (hm0 : 1 ≤ m) (hsh : 64 - (Lib.bitLen m : Int) = (sh : Int)) (hsh2 : sh < 64) (hM : (m : Int) * 2 ^ sh = (M : Int)) (hM2 : M < 18446744073709551616) (he2 : (-1022 : Int) - (sh : Int) = e2) (hef : e2 - 52 = ef)
    (hd1 : 1 ≤ d) (hd2 : d < 18446744073709551616) (hn : Lib.nDigits d = n) (hq0 : -1000 ≤ q) (hq1 : q ≤ 1000) (hdp : (n : Int) + q = dp)
    (hB : BufAt w E V []) (hw : Below B w0 w) (hBE : B ≤ E) (hBw : B ≤ w.heap.size)
    (HT : Lib.TabBelow Tryd.prog B w0 "internal/strconv.uint64pow10" .u64 Lib.pow10Tab)
    (HSH : ∀ w1, Below B w0 w1 → B ≤ w1.heap.size → Calls Tryd.prog 34 #[.int .u64 M, .int .i64 ef] w1 fun r w' => r = .returned (.tuple #[.int .u64 d, .int .i64 q]) ∧ Below w1.heap.size w1 w')
    (HFE : ∀ (D k : Nat) (w1 : World), B ≤ D → D ≠ E → 1 ≤ k → k ≤ n → (∀ j, k ≤ j → j < n → Lib.dg d (n - 1 - j) = 48) → Lib.dg d (n - k) ≠ 48 → DigAt w1 D n d → BufAt w1 E V [] → Below B w0 w1 → B ≤ w1.heap.size →
      Calls Tryd.prog 24 #[.slice (some ⟨E, 1, none⟩) 0 64, .bool neg, .slice (some ⟨D, 0, none⟩) 32 32, .int .i64 dp, .int .i64 k, .int .i64 (max ((k : Int) - dp) 0), .int .u8 102, .bool true] w1 fun r w' => ∃ L, r = .returned (.slice (some ⟨E, 1, none⟩) (L.length : Nat) 64) ∧ PL L ∧ BufAt w' E V L ∧ Below B w0 w') :
    Calls Tryd.prog 19 #[.slice (some ⟨E, 1, none⟩) 0 64, .float .f64 x, .int .u8 102, .int .i64 (-1)] w fun r w' => ∃ L, r = .returned (.slice (some ⟨E, 1, none⟩) (L.length : Nat) 64) ∧ PL L ∧ BufAt w' E V L ∧ Below B w0 w' := by
  obtain ⟨b1, b2, b3, b4, b5, b6, b7, b8, b9, b0⟩ := hP
  have hlt := hB.lt
  have HB0 := Lib.hid hB
  have HW0 := Lib.hid hw
  have HT0 := Lib.hid HT
  have HS0 := Lib.hid HSH
  have HF0 := Lib.hid HFE
  have HN := Lib.hid hn
  have hbl : Lib.bitLen m ≤ 64 := by omega
  have HLE : Hid (∀ w : World, Calls Tryd.prog 25 #[.int .u64 m] w fun r w' => r = .returned (.int .i64 (Lib.bitLen m)) ∧ w = w') := Lib.hid (fun w => (Tryd.bits_Len64 m w (by omega) (by omega)).mono (fun r w' h => ⟨by simpa using h.1, h.2.symm⟩))
  have HND : Hid (∀ w1 : World, Below B w0 w1 → Calls Tryd.prog 28 #[.int .u64 d] w1 fun r w' => r = .returned (.int .i64 n) ∧ w1 = w') := Lib.hid (fun w1 h => (Tryd.internal_strconv_numDigits d hd1 hd2 w1 (HT0.out w1 h)).mono (fun r w' h => ⟨by rw [h.1, HN.out], h.2.symm⟩))
  have HSD : Hid (∀ (D : Nat) (w1 : World), (∀ j, j < 32 → w1.cell? ⟨D, j, none⟩ = some (.int .u8 0) ∧ w1.frozen? ⟨D, j, none⟩ = false) → Calls Tryd.prog 27 #[.slice (some ⟨D, 0, none⟩) 32 32, .int .u64 d, .int .i64 q, .int .i64 n] w1 fun r w' => ∃ k : Nat, r = .returned (.tuple #[.int .i64 dp, .int .i64 k]) ∧ 1 ≤ k ∧ k ≤ n ∧ (∀ j, k ≤ j → j < n → Lib.dg d (n - 1 - j) = 48) ∧ Lib.dg d (n - k) ≠ 48 ∧ DigAt w' D n d ∧ w1.grownBy w' (some D)) := Lib.hid (fun D w1 h => by
    have e := hn
    have h20 := Lib.nDigits_le20 d hd2
    have hp := Lib.nDigits_pos d
    have hu := Lib.lt_pow_nDigits d
    have hl := pow_le_of_nDigits d hd1
    rw [e] at h20 hp hu hl
    have := setDigits_any D n d q w1 h h20 hp hu hl hd2 hq0 hq1
    rw [hdp] at this
    exact this)
  have hn20 : n ≤ 20 := by have h := Lib.nDigits_le20 d hd2; rw [hn] at h; exact h
  have hdp0 : -1100 ≤ dp := by omega
  have hdp1 : dp ≤ 1100 := by omega
  have hfb := fbits x
  have t0 : ((ee : Int) == 2047) = false := by simp; omega
  have t1 : ((ee : Int) == 0) = true := by simp; omega
  have t2 : ((m : Int) == 0) = false := by simp; omega
  have t3 : IntKind.u64.wrap ((m : Int) * 2 ^ sh) = (M : Int) := by rw [hM, IntKind.wrap_u64]; omega
  subst hee
  have hmm : mm = m := hm.symm; subst hmm; clear hm
  
  
  
  clear hB hw HT HSH HFE hn
  go_enter Tryd.func19, Tryd.ntmps19
  go_wp2_with fail
  go_quiet (fail)
  go_wp2_with (first | (go_at_call 25; refine (HLE.out _).mono ?_; rintro r w2 ⟨rfl, rfl⟩) | (go_at_call 34; refine (HS0.out _ (alloc_world B E V w0 w HB0.out HW0.out hBw _ _).1 (alloc_world B E V w0 w HB0.out HW0.out hBw _ _).2).mono ?_; rintro r w3 ⟨rfl, h3⟩; obtain ⟨h4, h5, h6, h7⟩ := alloc_after B E V w0 w HB0.out HW0.out hBw _ _ w3 h3; have HB3 := Lib.hid h4; have HW3 := Lib.hid h5; have HZ3 := Lib.hid (zero32 w3 _ _ _ rfl h6); clear h3 h4 h5 h6))
  go_region_law (first | (go_simp; go_at_call 28; refine (HND.out _ (by first | exact HW3.out | exact below_drewN HW3.out _ | exact HW3.out.drew)).mono ?_; rintro r w4 ⟨rfl, rfl⟩) | (go_simp; go_at_call 27; refine (HSD.out _ w3.drew HZ3.out).mono ?_; rintro r w5 ⟨k, rfl, hk1, hk2, h5, h5b, h6, h8⟩; have HW5 : Below B w0 w5 := HW3.out.drew.trans (below_of_grown h8 hBw (by show B ≤ w3.heap.size; omega)); have HE5 := Lib.hid (HF0.out w.heap.size k w5 hBw (by omega) hk1 hk2 h5 h5b h6 (BufAt.grown2 (w := w3.drew) HB3.out h8 (by omega)) HW5 (by have h9 : w3.heap.size ≤ w5.heap.size := h8.size; omega)); clear h5 h5b h6 h8 HW5))
  go_wp2_with (first | (go_at_call 24; refine HE5.out.mono ?_; rintro r w6 ⟨L, rfl, h1, h2, h3⟩; have HP6 := Lib.hid h1; have HB6 := Lib.hid h2; have HW6 := Lib.hid h3; clear h1 h2 h3))
  go_ret
  exact ⟨L, rfl, HP6.out, HB6.out, HW6.out⟩


set_option maxRecDepth 100000 in
set_option maxHeartbeats 2000000 in
theorem ft_e_n (B E x sg y ee mm m sh M d n : Nat) (neg : Bool) (e2 ef q dp : Int) (V : Value) (PL : List UInt8 → Prop) (w0 w : World) (hP : Parts x sg y ee mm neg) (hee : 1 ≤ ee)
    (hm : m = mm + 4503599627370496) (hm0 : 1 ≤ m) (hsh : 64 - (Lib.bitLen m : Int) = (sh : Int)) (hsh2 : sh < 64) (hM : (m : Int) * 2 ^ sh = (M : Int)) (hM2 : M < 18446744073709551616) (he2 : (ee : Int) - 1023 - (sh : Int) = e2) (hef : e2 - 52 = ef)
    (hd1 : 1 ≤ d) (hd2 : d < 18446744073709551616) (hn : Lib.nDigits d = n) (hq0 : -1000 ≤ q) (hq1 : q ≤ 1000) (hdp : (n : Int) + q = dp)
    (hB : BufAt w E V []) (hw : Below B w0 w) (hBE : B ≤ E) (hBw : B ≤ w.heap.size)
    (HT : Lib.TabBelow Tryd.prog B w0 "internal/strconv.uint64pow10" .u64 Lib.pow10Tab)
    (HSH : ∀ w1, Below B w0 w1 → B ≤ w1.heap.size → Calls Tryd.prog 34 #[.int .u64 M, .int .i64 ef] w1 fun r w' => r = .returned (.tuple #[.int .u64 d, .int .i64 q]) ∧ Below w1.heap.size w1 w')
    (HFE : ∀ (D k : Nat) (w1 : World), B ≤ D → D ≠ E → 1 ≤ k → k ≤ n → (∀ j, k ≤ j → j < n → Lib.dg d (n - 1 - j) = 48) → Lib.dg d (n - k) ≠ 48 → DigAt w1 D n d → BufAt w1 E V [] → Below B w0 w1 → B ≤ w1.heap.size →
      Calls Tryd.prog 24 #[.slice (some ⟨E, 1, none⟩) 0 64, .bool neg, .slice (some ⟨D, 0, none⟩) 32 32, .int .i64 dp, .int .i64 k, .int .i64 (max ((k : Int) - 1) 0), .int .u8 101, .bool true] w1 fun r w' => ∃ L, r = .returned (.slice (some ⟨E, 1, none⟩) (L.length : Nat) 64) ∧ PL L ∧ BufAt w' E V L ∧ Below B w0 w') :
    Calls Tryd.prog 19 #[.slice (some ⟨E, 1, none⟩) 0 64, .float .f64 x, .int .u8 101, .int .i64 (-1)] w fun r w' => ∃ L, r = .returned (.slice (some ⟨E, 1, none⟩) (L.length : Nat) 64) ∧ PL L ∧ BufAt w' E V L ∧ Below B w0 w' := by
  obtain ⟨b1, b2, b3, b4, b5, b6, b7, b8, b9, b0⟩ := hP
  have hlt := hB.lt
  have HB0 := Lib.hid hB
  have HW0 := Lib.hid hw
  have HT0 := Lib.hid HT
  have HS0 := Lib.hid HSH
  have HF0 := Lib.hid HFE
  have HN := Lib.hid hn
  have hbl : Lib.bitLen m ≤ 64 := by omega
  have HLE : Hid (∀ w : World, Calls Tryd.prog 25 #[.int .u64 m] w fun r w' => r = .returned (.int .i64 (Lib.bitLen m)) ∧ w = w') := Lib.hid (fun w => (Tryd.bits_Len64 m w (by omega) (by omega)).mono (fun r w' h => ⟨by simpa using h.1, h.2.symm⟩))
  have HND : Hid (∀ w1 : World, Below B w0 w1 → Calls Tryd.prog 28 #[.int .u64 d] w1 fun r w' => r = .returned (.int .i64 n) ∧ w1 = w') := Lib.hid (fun w1 h => (Tryd.internal_strconv_numDigits d hd1 hd2 w1 (HT0.out w1 h)).mono (fun r w' h => ⟨by rw [h.1, HN.out], h.2.symm⟩))
  have HSD : Hid (∀ (D : Nat) (w1 : World), (∀ j, j < 32 → w1.cell? ⟨D, j, none⟩ = some (.int .u8 0) ∧ w1.frozen? ⟨D, j, none⟩ = false) → Calls Tryd.prog 27 #[.slice (some ⟨D, 0, none⟩) 32 32, .int .u64 d, .int .i64 q, .int .i64 n] w1 fun r w' => ∃ k : Nat, r = .returned (.tuple #[.int .i64 dp, .int .i64 k]) ∧ 1 ≤ k ∧ k ≤ n ∧ (∀ j, k ≤ j → j < n → Lib.dg d (n - 1 - j) = 48) ∧ Lib.dg d (n - k) ≠ 48 ∧ DigAt w' D n d ∧ w1.grownBy w' (some D)) := Lib.hid (fun D w1 h => by
    have e := hn
    have h20 := Lib.nDigits_le20 d hd2
    have hp := Lib.nDigits_pos d
    have hu := Lib.lt_pow_nDigits d
    have hl := pow_le_of_nDigits d hd1
    rw [e] at h20 hp hu hl
    have := setDigits_any D n d q w1 h h20 hp hu hl hd2 hq0 hq1
    rw [hdp] at this
    exact this)
  have hn20 : n ≤ 20 := by have h := Lib.nDigits_le20 d hd2; rw [hn] at h; exact h
  have hdp0 : -1100 ≤ dp := by omega
  have hdp1 : dp ≤ 1100 := by omega
  have hfb := fbits x
  have t0 : ((ee : Int) == 2047) = false := by simp; omega
  have t1 : ((ee : Int) == 0) = false := by simp; omega
  have t2 : ((m : Int) == 0) = false := by simp; omega
  have t3 : IntKind.u64.wrap ((m : Int) * 2 ^ sh) = (M : Int) := by rw [hM, IntKind.wrap_u64]; omega
  
  rw [← hm] at b6
  clear hm
  have t4 : (ee : Int) + -1023 - (sh : Int) = e2 := by omega
  have t5 : (ee : Int) + -1023 = (ee : Int) - 1023 := by omega
  clear hB hw HT HSH HFE hn
  go_enter Tryd.func19, Tryd.ntmps19
  go_wp2_with fail
  go_quiet (fail)
  go_wp2_with (first | (go_at_call 25; refine (HLE.out _).mono ?_; rintro r w2 ⟨rfl, rfl⟩) | (go_at_call 34; refine (HS0.out _ (alloc_world B E V w0 w HB0.out HW0.out hBw _ _).1 (alloc_world B E V w0 w HB0.out HW0.out hBw _ _).2).mono ?_; rintro r w3 ⟨rfl, h3⟩; obtain ⟨h4, h5, h6, h7⟩ := alloc_after B E V w0 w HB0.out HW0.out hBw _ _ w3 h3; have HB3 := Lib.hid h4; have HW3 := Lib.hid h5; have HZ3 := Lib.hid (zero32 w3 _ _ _ rfl h6); clear h3 h4 h5 h6))
  go_region_law (first | (go_simp; go_at_call 28; refine (HND.out _ (by first | exact HW3.out | exact below_drewN HW3.out _ | exact HW3.out.drew)).mono ?_; rintro r w4 ⟨rfl, rfl⟩) | (go_simp; go_at_call 27; refine (HSD.out _ w3.drew HZ3.out).mono ?_; rintro r w5 ⟨k, rfl, hk1, hk2, h5, h5b, h6, h8⟩; have HW5 : Below B w0 w5 := HW3.out.drew.trans (below_of_grown h8 hBw (by show B ≤ w3.heap.size; omega)); have HE5 := Lib.hid (HF0.out w.heap.size k w5 hBw (by omega) hk1 hk2 h5 h5b h6 (BufAt.grown2 (w := w3.drew) HB3.out h8 (by omega)) HW5 (by have h9 : w3.heap.size ≤ w5.heap.size := h8.size; omega)); clear h5 h5b h6 h8 HW5))
  go_wp2_with (first | (go_at_call 24; refine HE5.out.mono ?_; rintro r w6 ⟨L, rfl, h1, h2, h3⟩; have HP6 := Lib.hid h1; have HB6 := Lib.hid h2; have HW6 := Lib.hid h3; clear h1 h2 h3))
  go_ret
  exact ⟨L, rfl, HP6.out, HB6.out, HW6.out⟩


set_option maxRecDepth 100000 in
set_option maxHeartbeats 2000000 in
theorem ft_e_s (B E x sg y ee mm m sh M d n : Nat) (neg : Bool) (e2 ef q dp : Int) (V : Value) (PL : List UInt8 → Prop) (w0 w : World) (hP : Parts x sg y ee mm neg) (hee : ee = 0)
    (hm : m = mm) (hm0 : 1 ≤ m) (hsh : 64 - (Lib.bitLen m : Int) = (sh : Int)) (hsh2 : sh < 64) (hM : (m : Int) * 2 ^ sh = (M : Int)) (hM2 : M < 18446744073709551616) (he2 : (-1022 : Int) - (sh : Int) = e2) (hef : e2 - 52 = ef)
    (hd1 : 1 ≤ d) (hd2 : d < 18446744073709551616) (hn : Lib.nDigits d = n) (hq0 : -1000 ≤ q) (hq1 : q ≤ 1000) (hdp : (n : Int) + q = dp)
    (hB : BufAt w E V []) (hw : Below B w0 w) (hBE : B ≤ E) (hBw : B ≤ w.heap.size)
    (HT : Lib.TabBelow Tryd.prog B w0 "internal/strconv.uint64pow10" .u64 Lib.pow10Tab)
    (HSH : ∀ w1, Below B w0 w1 → B ≤ w1.heap.size → Calls Tryd.prog 34 #[.int .u64 M, .int .i64 ef] w1 fun r w' => r = .returned (.tuple #[.int .u64 d, .int .i64 q]) ∧ Below w1.heap.size w1 w')
    (HFE : ∀ (D k : Nat) (w1 : World), B ≤ D → D ≠ E → 1 ≤ k → k ≤ n → (∀ j, k ≤ j → j < n → Lib.dg d (n - 1 - j) = 48) → Lib.dg d (n - k) ≠ 48 → DigAt w1 D n d → BufAt w1 E V [] → Below B w0 w1 → B ≤ w1.heap.size →
      Calls Tryd.prog 24 #[.slice (some ⟨E, 1, none⟩) 0 64, .bool neg, .slice (some ⟨D, 0, none⟩) 32 32, .int .i64 dp, .int .i64 k, .int .i64 (max ((k : Int) - 1) 0), .int .u8 101, .bool true] w1 fun r w' => ∃ L, r = .returned (.slice (some ⟨E, 1, none⟩) (L.length : Nat) 64) ∧ PL L ∧ BufAt w' E V L ∧ Below B w0 w') :
    Calls Tryd.prog 19 #[.slice (some ⟨E, 1, none⟩) 0 64, .float .f64 x, .int .u8 101, .int .i64 (-1)] w fun r w' => ∃ L, r = .returned (.slice (some ⟨E, 1, none⟩) (L.length : Nat) 64) ∧ PL L ∧ BufAt w' E V L ∧ Below B w0 w' := by
  obtain ⟨b1, b2, b3, b4, b5, b6, b7, b8, b9, b0⟩ := hP
  have hlt := hB.lt
  have HB0 := Lib.hid hB
  have HW0 := Lib.hid hw
  have HT0 := Lib.hid HT
  have HS0 := Lib.hid HSH
  have HF0 := Lib.hid HFE
  have HN := Lib.hid hn
  have hbl : Lib.bitLen m ≤ 64 := by omega
  have HLE : Hid (∀ w : World, Calls Tryd.prog 25 #[.int .u64 m] w fun r w' => r = .returned (.int .i64 (Lib.bitLen m)) ∧ w = w') := Lib.hid (fun w => (Tryd.bits_Len64 m w (by omega) (by omega)).mono (fun r w' h => ⟨by simpa using h.1, h.2.symm⟩))
  have HND : Hid (∀ w1 : World, Below B w0 w1 → Calls Tryd.prog 28 #[.int .u64 d] w1 fun r w' => r = .returned (.int .i64 n) ∧ w1 = w') := Lib.hid (fun w1 h => (Tryd.internal_strconv_numDigits d hd1 hd2 w1 (HT0.out w1 h)).mono (fun r w' h => ⟨by rw [h.1, HN.out], h.2.symm⟩))
  have HSD : Hid (∀ (D : Nat) (w1 : World), (∀ j, j < 32 → w1.cell? ⟨D, j, none⟩ = some (.int .u8 0) ∧ w1.frozen? ⟨D, j, none⟩ = false) → Calls Tryd.prog 27 #[.slice (some ⟨D, 0, none⟩) 32 32, .int .u64 d, .int .i64 q, .int .i64 n] w1 fun r w' => ∃ k : Nat, r = .returned (.tuple #[.int .i64 dp, .int .i64 k]) ∧ 1 ≤ k ∧ k ≤ n ∧ (∀ j, k ≤ j → j < n → Lib.dg d (n - 1 - j) = 48) ∧ Lib.dg d (n - k) ≠ 48 ∧ DigAt w' D n d ∧ w1.grownBy w' (some D)) := Lib.hid (fun D w1 h => by
    have e := hn
    have h20 := Lib.nDigits_le20 d hd2
    have hp := Lib.nDigits_pos d
    have hu := Lib.lt_pow_nDigits d
    have hl := pow_le_of_nDigits d hd1
    rw [e] at h20 hp hu hl
    have := setDigits_any D n d q w1 h h20 hp hu hl hd2 hq0 hq1
    rw [hdp] at this
    exact this)
  have hn20 : n ≤ 20 := by have h := Lib.nDigits_le20 d hd2; rw [hn] at h; exact h
  have hdp0 : -1100 ≤ dp := by omega
  have hdp1 : dp ≤ 1100 := by omega
  have hfb := fbits x
  have t0 : ((ee : Int) == 2047) = false := by simp; omega
  have t1 : ((ee : Int) == 0) = true := by simp; omega
  have t2 : ((m : Int) == 0) = false := by simp; omega
  have t3 : IntKind.u64.wrap ((m : Int) * 2 ^ sh) = (M : Int) := by rw [hM, IntKind.wrap_u64]; omega
  subst hee
  have hmm : mm = m := hm.symm; subst hmm; clear hm
  
  
  
  clear hB hw HT HSH HFE hn
  go_enter Tryd.func19, Tryd.ntmps19
  go_wp2_with fail
  go_quiet (fail)
  go_wp2_with (first | (go_at_call 25; refine (HLE.out _).mono ?_; rintro r w2 ⟨rfl, rfl⟩) | (go_at_call 34; refine (HS0.out _ (alloc_world B E V w0 w HB0.out HW0.out hBw _ _).1 (alloc_world B E V w0 w HB0.out HW0.out hBw _ _).2).mono ?_; rintro r w3 ⟨rfl, h3⟩; obtain ⟨h4, h5, h6, h7⟩ := alloc_after B E V w0 w HB0.out HW0.out hBw _ _ w3 h3; have HB3 := Lib.hid h4; have HW3 := Lib.hid h5; have HZ3 := Lib.hid (zero32 w3 _ _ _ rfl h6); clear h3 h4 h5 h6))
  go_region_law (first | (go_simp; go_at_call 28; refine (HND.out _ (by first | exact HW3.out | exact below_drewN HW3.out _ | exact HW3.out.drew)).mono ?_; rintro r w4 ⟨rfl, rfl⟩) | (go_simp; go_at_call 27; refine (HSD.out _ w3.drew HZ3.out).mono ?_; rintro r w5 ⟨k, rfl, hk1, hk2, h5, h5b, h6, h8⟩; have HW5 : Below B w0 w5 := HW3.out.drew.trans (below_of_grown h8 hBw (by show B ≤ w3.heap.size; omega)); have HE5 := Lib.hid (HF0.out w.heap.size k w5 hBw (by omega) hk1 hk2 h5 h5b h6 (BufAt.grown2 (w := w3.drew) HB3.out h8 (by omega)) HW5 (by have h9 : w3.heap.size ≤ w5.heap.size := h8.size; omega)); clear h5 h5b h6 h8 HW5))
  go_wp2_with (first | (go_at_call 24; refine HE5.out.mono ?_; rintro r w6 ⟨L, rfl, h1, h2, h3⟩; have HP6 := Lib.hid h1; have HB6 := Lib.hid h2; have HW6 := Lib.hid h3; clear h1 h2 h3))
  go_ret
  exact ⟨L, rfl, HP6.out, HB6.out, HW6.out⟩

end Go.Proofs.YtkincdcknmdboaaDoor
