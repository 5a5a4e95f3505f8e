/- The texts that fmtEFG writes have the shape of a JSON number. -/
import Derived.Test.YtkincdcknmdboaaDoorFE
import Derived.Test.YtkincdcknmdboaaDoorAF
import Derived.Test.YtkincdcknmdboaaDoorTX
namespace Go.Proofs.YtkincdcknmdboaaDoor
open Go Go.RowKit
set_option linter.unusedVariables false
set_option linter.unusedSimpArgs false

theorem ofNat48 (x : Nat) (h : x < 10) : (UInt8.ofNat (48 + x)).toNat = 48 + x := by rw [UInt8.toNat_ofNat']; omega
theorem dg_nat (u j : Nat) : (Lib.dg u j).toNat = 48 + u / 10 ^ j % 10 := ofNat48 _ (Nat.mod_lt _ (by decide))
theorem dg_ds (u j : Nat) : 48 ≤ (Lib.dg u j).toNat ∧ (Lib.dg u j).toNat ≤ 57 := by
  have := Nat.mod_lt (u / 10 ^ j) (show 0 < 10 by decide)
  rw [dg_nat]; omega
theorem dl_ds (u n o m : Nat) : DS (dl u n o m) := by
  intro c hc
  simp only [dl, List.mem_map] at hc
  obtain ⟨j, _, rfl⟩ := hc
  exact dg_ds u _
theorem DS.app {a b : List UInt8} (ha : DS a) (hb : DS b) : DS (a ++ b) := fun c hc => by
  rcases List.mem_append.1 hc with h | h
  · exact ha c h
  · exact hb c h
theorem rep_ds (r : Nat) : DS (List.replicate r 48) := fun c hc => by rw [(List.mem_replicate.1 hc).2]; decide
theorem dg_head (d n : Nat) (hd : 1 ≤ d) (hn : Lib.nDigits d = n) : 49 ≤ (Lib.dg d (n - 1)).toNat := by
  have h1 := pow_le_of_nDigits d hd
  have h2 := Lib.lt_pow_nDigits d
  have h3 := Lib.nDigits_pos d
  rw [hn] at h1 h2 h3
  have e : 10 ^ n = 10 ^ (n - 1) * 10 := by rw [← Nat.pow_succ, show (n - 1).succ = n by omega]
  have q1 : 1 ≤ d / 10 ^ (n - 1) := by
    rw [Nat.le_div_iff_mul_le (Nat.pow_pos (by decide))]; omega
  have q2 : d / 10 ^ (n - 1) < 10 := Nat.div_lt_of_lt_mul (by omega)
  rw [dg_nat]
  omega
theorem dl_cons (u n k : Nat) (h : 1 ≤ k) : dl u n 0 k = Lib.dg u (n - 1) :: dl u n 1 (k - 1) := by
  obtain ⟨j, rfl⟩ : ∃ j, k = j + 1 := ⟨k - 1, by omega⟩
  simp only [dl, List.range_succ_eq_map, List.map_cons, List.map_map, Nat.add_sub_cancel]
  congr 1
  refine List.map_congr_left fun x _ => ?_
  show Lib.dg u (n - 1 - (0 + (x + 1))) = _
  congr 1
  omega
theorem dl_dh (d n k : Nat) (hd : 1 ≤ d) (hn : Lib.nDigits d = n) (h : 1 ≤ k) : DH (dl d n 0 k) := ⟨dl_ds _ _ _ _, _, _, dl_cons d n k h, dg_head d n hd hn⟩
theorem DH.app {a b : List UInt8} (ha : DH a) (hb : DS b) : DH (a ++ b) := by
  obtain ⟨h1, c, t, rfl, h2⟩ := ha
  exact ⟨h1.app hb, c, t ++ b, rfl, h2⟩

/-- the digits of the format e: one, or one and a fraction -/
def Body (d n : Nat) (I : List UInt8) : Prop := I = [Lib.dg d (n - 1)] ∨ ∃ p, 1 ≤ p ∧ p + 1 ≤ n ∧ I = Lib.dg d (n - 1) :: 46 :: dl d n 1 p
def TextE (neg : Bool) (d n : Nat) (c : UInt8) (X : List UInt8) (L : List UInt8) : Prop := ∃ I, Body d n I ∧ L = sgn neg ++ (I ++ 101 :: c :: X)

theorem textE_shape {neg : Bool} {d n : Nat} {c : UInt8} {X L : List UInt8} (h : TextE neg d n c X L) (hd : 1 ≤ d) (hn : Lib.nDigits d = n) (hc : c = 43 ∨ c = 45) (hX : DH X) : Shape neg true L := by
  obtain ⟨I, hI, rfl⟩ := h
  have hh : DH [Lib.dg d (n - 1)] := ⟨fun c hc => by rw [List.mem_singleton.1 hc]; exact dg_ds _ _, _, _, rfl, dg_head d n hd hn⟩
  rcases hI with rfl | ⟨p, hp, _, rfl⟩
  · exact Shape.de neg _ c X hh hc hX
  · refine Shape.dfe neg [Lib.dg d (n - 1)] (dl d n 1 p) c X hh (fun e => ?_) (dl_ds _ _ _ _) hc hX
    have := congrArg List.length e
    rw [dl_len] at this
    simp at this
    omega

/-- the contract of fmtEFG in format f -/
theorem hf_any (B E D k n d : Nat) (dp : Int) (neg : Bool) (V : Value) (w0 w1 : World) (hBE : B ≤ E) (hd : 1 ≤ d) (hn : Lib.nDigits d = n) (hn20 : n ≤ 20) (h0 : -28 ≤ dp) (h1 : dp ≤ 40)
    (hDE : D ≠ E) (hk1 : 1 ≤ k) (hk : k ≤ n) (hD : DigAt w1 D n d) (hB : BufAt w1 E V []) (hw : Below B w0 w1) (hBw : B ≤ w1.heap.size) :
    Calls Tryd.prog 24 #[.slice (some ⟨E, 1, none⟩) 0 64, .bool neg, .slice (some ⟨D, 0, none⟩) 32 32, .int .i64 dp, .int .i64 k, .int .i64 (max ((k : Int) - dp) 0), .int .u8 102, .bool true] w1 fun r w' => ∃ L, r = .returned (.slice (some ⟨E, 1, none⟩) (L.length : Nat) 64) ∧ Shape neg false L ∧ BufAt w' E V L ∧ Below B w0 w' := by
  by_cases c0 : dp ≤ 0
  · obtain ⟨z, hz⟩ : ∃ z : Nat, dp = -(z : Int) := ⟨dp.natAbs, by omega⟩
    obtain ⟨r, hr⟩ : ∃ r, r = k + z := ⟨_, rfl⟩
    rw [show max ((k : Int) - dp) 0 = (r : Int) by omega, hz]
    refine (ff_low E D n d k z r V neg w1 hB hD hDE hk1 hk hn20 (by omega) hr).mono ?_
    rintro rr w' ⟨L, e1, e2, e3, e4⟩
    refine ⟨L, e1, ?_, e3, hw.trans (below_of_grown e4 hBE hBw)⟩
    have hs := Shape.zf neg (List.replicate z 48 ++ dl d n 0 k) (fun e => ?_) ((rep_ds z).app (dl_ds _ _ _ _))
    · rw [e2]
      simpa [sgn] using hs
    · have := congrArg List.length e
      rw [List.length_append, dl_len] at this
      simp at this
      omega
  · obtain ⟨q, hq⟩ : ∃ q : Nat, dp = (q : Int) := ⟨dp.natAbs, by omega⟩
    by_cases c1 : k ≤ q
    · rw [show max ((k : Int) - dp) 0 = 0 by omega, hq]
      obtain ⟨r, hr⟩ : ∃ r, q = k + r := ⟨q - k, by omega⟩
      refine (ff_whole E D n d k q r V neg w1 hB hD hDE hk1 hk hn20 hr (by omega)).mono ?_
      rintro rr w' ⟨L, e1, e2, e3, e4⟩
      refine ⟨L, e1, ?_, e3, hw.trans (below_of_grown e4 hBE hBw)⟩
      have hs := Shape.d neg _ ((dl_dh d n k hd hn hk1).app (rep_ds r))
      rw [e2]
      simpa [sgn] using hs
    · obtain ⟨r, hr⟩ : ∃ r, k = q + r := ⟨k - q, by omega⟩
      rw [show max ((k : Int) - dp) 0 = (r : Int) by omega, hq]
      refine (ff_mid E D n d k q r V neg w1 hB hD hDE (by omega) (by omega) hk hn20 hr).mono ?_
      rintro rr w' ⟨L, e1, e2, e3, e4⟩
      refine ⟨L, e1, ?_, e3, hw.trans (below_of_grown e4 hBE hBw)⟩
      have hs := Shape.df neg (dl d n 0 q) (dl d n q r) (dl_dh d n q hd hn (by omega)) (fun e => ?_) (dl_ds _ _ _ _)
      · rw [e2]
        simpa [sgn] using hs
      · have := congrArg List.length e
        rw [dl_len] at this
        simp at this
        omega


theorem he_m1 (B E D k n d a : Nat) (dp : Int) (neg : Bool) (V : Value) (w0 w1 : World) (hBE : B ≤ E) (hn20 : n ≤ 20) (ha : a < 10) (ha1 : 1 ≤ a) (hdp : dp - 1 = -(a : Int))
    (hDE : D ≠ E) (hk1 : 1 ≤ k) (hk : k ≤ n) (hD : DigAt w1 D n d) (hB : BufAt w1 E V []) (hw : Below B w0 w1) (hBw : B ≤ w1.heap.size) :
    Calls Tryd.prog 24 #[.slice (some ⟨E, 1, none⟩) 0 64, .bool neg, .slice (some ⟨D, 0, none⟩) 32 32, .int .i64 dp, .int .i64 k, .int .i64 (max ((k : Int) - 1) 0), .int .u8 101, .bool true] w1 fun r w' => ∃ L, r = .returned (.slice (some ⟨E, 1, none⟩) (L.length : Nat) 64) ∧ TextE neg d n 45 [48, UInt8.ofNat (48 + a)] L ∧ BufAt w' E V L ∧ Below B w0 w' := by
  by_cases c0 : k = 1
  · subst c0
    refine (fe_1m1 E D n d a hk dp V neg w1 hB hD hDE hn20 ha hdp ha1).mono ?_
    rintro rr w' ⟨L, e1, e2, e3, e4⟩
    refine ⟨L, e1, ⟨_, Or.inl rfl, ?_⟩, e3, hw.trans (below_of_grown e4 hBE hBw)⟩
    rw [e2]
    simp [sgn]
  · obtain ⟨p, hp⟩ : ∃ p, k = p + 1 := ⟨k - 1, by omega⟩
    subst hp
    rw [show max (((p + 1 : Nat) : Int) - 1) 0 = (p : Int) by omega, show ((p + 1 : Nat) : Int) = (p : Int) + 1 by omega]
    refine (fe_mm1 E D n d a p (by omega) hk dp V neg w1 hB hD hDE hn20 ha hdp ha1).mono ?_
    rintro rr w' ⟨L, e1, e2, e3, e4⟩
    refine ⟨L, e1, ⟨_, Or.inr ⟨p, by omega, hk, rfl⟩, ?_⟩, e3, hw.trans (below_of_grown e4 hBE hBw)⟩
    rw [e2]
    simp [sgn]


theorem he_m2 (B E D k n d a : Nat) (dp : Int) (neg : Bool) (V : Value) (w0 w1 : World) (hBE : B ≤ E) (hn20 : n ≤ 20) (ha0 : 10 ≤ a) (ha : a < 100) (ha1 : 1 ≤ a) (hdp : dp - 1 = -(a : Int))
    (hDE : D ≠ E) (hk1 : 1 ≤ k) (hk : k ≤ n) (hD : DigAt w1 D n d) (hB : BufAt w1 E V []) (hw : Below B w0 w1) (hBw : B ≤ w1.heap.size) :
    Calls Tryd.prog 24 #[.slice (some ⟨E, 1, none⟩) 0 64, .bool neg, .slice (some ⟨D, 0, none⟩) 32 32, .int .i64 dp, .int .i64 k, .int .i64 (max ((k : Int) - 1) 0), .int .u8 101, .bool true] w1 fun r w' => ∃ L, r = .returned (.slice (some ⟨E, 1, none⟩) (L.length : Nat) 64) ∧ TextE neg d n 45 [UInt8.ofNat (48 + a / 10), UInt8.ofNat (48 + a % 10)] L ∧ BufAt w' E V L ∧ Below B w0 w' := by
  by_cases c0 : k = 1
  · subst c0
    refine (fe_1m2 E D n d a hk dp V neg w1 hB hD hDE hn20 ha0 ha hdp ha1).mono ?_
    rintro rr w' ⟨L, e1, e2, e3, e4⟩
    refine ⟨L, e1, ⟨_, Or.inl rfl, ?_⟩, e3, hw.trans (below_of_grown e4 hBE hBw)⟩
    rw [e2]
    simp [sgn]
  · obtain ⟨p, hp⟩ : ∃ p, k = p + 1 := ⟨k - 1, by omega⟩
    subst hp
    rw [show max (((p + 1 : Nat) : Int) - 1) 0 = (p : Int) by omega, show ((p + 1 : Nat) : Int) = (p : Int) + 1 by omega]
    refine (fe_mm2 E D n d a p (by omega) hk dp V neg w1 hB hD hDE hn20 ha0 ha hdp ha1).mono ?_
    rintro rr w' ⟨L, e1, e2, e3, e4⟩
    refine ⟨L, e1, ⟨_, Or.inr ⟨p, by omega, hk, rfl⟩, ?_⟩, e3, hw.trans (below_of_grown e4 hBE hBw)⟩
    rw [e2]
    simp [sgn]


theorem he_m3 (B E D k n d a : Nat) (dp : Int) (neg : Bool) (V : Value) (w0 w1 : World) (hBE : B ≤ E) (hn20 : n ≤ 20) (ha0 : 100 ≤ a) (ha : a < 1000) (ha1 : 1 ≤ a) (hdp : dp - 1 = -(a : Int))
    (hDE : D ≠ E) (hk1 : 1 ≤ k) (hk : k ≤ n) (hD : DigAt w1 D n d) (hB : BufAt w1 E V []) (hw : Below B w0 w1) (hBw : B ≤ w1.heap.size) :
    Calls Tryd.prog 24 #[.slice (some ⟨E, 1, none⟩) 0 64, .bool neg, .slice (some ⟨D, 0, none⟩) 32 32, .int .i64 dp, .int .i64 k, .int .i64 (max ((k : Int) - 1) 0), .int .u8 101, .bool true] w1 fun r w' => ∃ L, r = .returned (.slice (some ⟨E, 1, none⟩) (L.length : Nat) 64) ∧ TextE neg d n 45 [UInt8.ofNat (48 + a / 100), UInt8.ofNat (48 + a / 10 % 10), UInt8.ofNat (48 + a % 10)] L ∧ BufAt w' E V L ∧ Below B w0 w' := by
  by_cases c0 : k = 1
  · subst c0
    refine (fe_1m3 E D n d a hk dp V neg w1 hB hD hDE hn20 ha0 ha hdp ha1).mono ?_
    rintro rr w' ⟨L, e1, e2, e3, e4⟩
    refine ⟨L, e1, ⟨_, Or.inl rfl, ?_⟩, e3, hw.trans (below_of_grown e4 hBE hBw)⟩
    rw [e2]
    simp [sgn]
  · obtain ⟨p, hp⟩ : ∃ p, k = p + 1 := ⟨k - 1, by omega⟩
    subst hp
    rw [show max (((p + 1 : Nat) : Int) - 1) 0 = (p : Int) by omega, show ((p + 1 : Nat) : Int) = (p : Int) + 1 by omega]
    refine (fe_mm3 E D n d a p (by omega) hk dp V neg w1 hB hD hDE hn20 ha0 ha hdp ha1).mono ?_
    rintro rr w' ⟨L, e1, e2, e3, e4⟩
    refine ⟨L, e1, ⟨_, Or.inr ⟨p, by omega, hk, rfl⟩, ?_⟩, e3, hw.trans (below_of_grown e4 hBE hBw)⟩
    rw [e2]
    simp [sgn]


theorem he_p2 (B E D k n d a : Nat) (dp : Int) (neg : Bool) (V : Value) (w0 w1 : World) (hBE : B ≤ E) (hn20 : n ≤ 20) (ha0 : 10 ≤ a) (ha : a < 100) (hdp : dp - 1 = (a : Int))
    (hDE : D ≠ E) (hk1 : 1 ≤ k) (hk : k ≤ n) (hD : DigAt w1 D n d) (hB : BufAt w1 E V []) (hw : Below B w0 w1) (hBw : B ≤ w1.heap.size) :
    Calls Tryd.prog 24 #[.slice (some ⟨E, 1, none⟩) 0 64, .bool neg, .slice (some ⟨D, 0, none⟩) 32 32, .int .i64 dp, .int .i64 k, .int .i64 (max ((k : Int) - 1) 0), .int .u8 101, .bool true] w1 fun r w' => ∃ L, r = .returned (.slice (some ⟨E, 1, none⟩) (L.length : Nat) 64) ∧ TextE neg d n 43 [UInt8.ofNat (48 + a / 10), UInt8.ofNat (48 + a % 10)] L ∧ BufAt w' E V L ∧ Below B w0 w' := by
  by_cases c0 : k = 1
  · subst c0
    refine (fe_1p2 E D n d a hk dp V neg w1 hB hD hDE hn20 ha0 ha hdp).mono ?_
    rintro rr w' ⟨L, e1, e2, e3, e4⟩
    refine ⟨L, e1, ⟨_, Or.inl rfl, ?_⟩, e3, hw.trans (below_of_grown e4 hBE hBw)⟩
    rw [e2]
    simp [sgn]
  · obtain ⟨p, hp⟩ : ∃ p, k = p + 1 := ⟨k - 1, by omega⟩
    subst hp
    rw [show max (((p + 1 : Nat) : Int) - 1) 0 = (p : Int) by omega, show ((p + 1 : Nat) : Int) = (p : Int) + 1 by omega]
    refine (fe_mp2 E D n d a p (by omega) hk dp V neg w1 hB hD hDE hn20 ha0 ha hdp).mono ?_
    rintro rr w' ⟨L, e1, e2, e3, e4⟩
    refine ⟨L, e1, ⟨_, Or.inr ⟨p, by omega, hk, rfl⟩, ?_⟩, e3, hw.trans (below_of_grown e4 hBE hBw)⟩
    rw [e2]
    simp [sgn]


theorem he_p3 (B E D k n d a : Nat) (dp : Int) (neg : Bool) (V : Value) (w0 w1 : World) (hBE : B ≤ E) (hn20 : n ≤ 20) (ha0 : 100 ≤ a) (ha : a < 1000) (hdp : dp - 1 = (a : Int))
    (hDE : D ≠ E) (hk1 : 1 ≤ k) (hk : k ≤ n) (hD : DigAt w1 D n d) (hB : BufAt w1 E V []) (hw : Below B w0 w1) (hBw : B ≤ w1.heap.size) :
    Calls Tryd.prog 24 #[.slice (some ⟨E, 1, none⟩) 0 64, .bool neg, .slice (some ⟨D, 0, none⟩) 32 32, .int .i64 dp, .int .i64 k, .int .i64 (max ((k : Int) - 1) 0), .int .u8 101, .bool true] w1 fun r w' => ∃ L, r = .returned (.slice (some ⟨E, 1, none⟩) (L.length : Nat) 64) ∧ TextE neg d n 43 [UInt8.ofNat (48 + a / 100), UInt8.ofNat (48 + a / 10 % 10), UInt8.ofNat (48 + a % 10)] L ∧ BufAt w' E V L ∧ Below B w0 w' := by
  by_cases c0 : k = 1
  · subst c0
    refine (fe_1p3 E D n d a hk dp V neg w1 hB hD hDE hn20 ha0 ha hdp).mono ?_
    rintro rr w' ⟨L, e1, e2, e3, e4⟩
    refine ⟨L, e1, ⟨_, Or.inl rfl, ?_⟩, e3, hw.trans (below_of_grown e4 hBE hBw)⟩
    rw [e2]
    simp [sgn]
  · obtain ⟨p, hp⟩ : ∃ p, k = p + 1 := ⟨k - 1, by omega⟩
    subst hp
    rw [show max (((p + 1 : Nat) : Int) - 1) 0 = (p : Int) by omega, show ((p + 1 : Nat) : Int) = (p : Int) + 1 by omega]
    refine (fe_mp3 E D n d a p (by omega) hk dp V neg w1 hB hD hDE hn20 ha0 ha hdp).mono ?_
    rintro rr w' ⟨L, e1, e2, e3, e4⟩
    refine ⟨L, e1, ⟨_, Or.inr ⟨p, by omega, hk, rfl⟩, ?_⟩, e3, hw.trans (below_of_grown e4 hBE hBw)⟩
    rw [e2]
    simp [sgn]

end Go.Proofs.YtkincdcknmdboaaDoor
