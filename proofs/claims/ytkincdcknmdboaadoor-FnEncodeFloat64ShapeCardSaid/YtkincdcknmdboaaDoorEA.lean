/- encodeFloat64 at every finite double that is not nought: the text's shape. -/
import Derived.Test.YtkincdcknmdboaaDoorEC
import Derived.Test.YtkincdcknmdboaaDoorSA
import Derived.Test.YtkincdcknmdboaaDoorTH
namespace Go.Proofs.YtkincdcknmdboaaDoor
open Go Go.RowKit Flt
set_option linter.unusedVariables false
set_option linter.unusedSimpArgs false

theorem ft_f (B E x a m sh M d n : Nat) (neg : Bool) (e2 ef q dp : Int) (V : Value) (PL : List UInt8 → Prop) (w0 w : World) (hx : x = (if neg then 9223372036854775808 else 0) + a) (h1 : a < 9218868437227405312) (hT : Takes a m sh M e2 ef)
    (hd1 : 1 ≤ d) (hd2 : d < 18446744073709551616) (hn : Lib.nDigits d = n) (hq0 : -1000 ≤ q) (hq1 : q ≤ 1000) (hdp : (n : Int) + q = dp)
    (hB : BufAt w E V []) (hw : Below B w0 w) (hBE : B ≤ E) (hBw : B ≤ w.heap.size)
    (HT : Lib.TabBelow Tryd.prog B w0 "internal/strconv.uint64pow10" .u64 Lib.pow10Tab)
    (HSH : ∀ w1, Below B w0 w1 → B ≤ w1.heap.size → Calls Tryd.prog 34 #[.int .u64 M, .int .i64 ef] w1 fun r w' => r = .returned (.tuple #[.int .u64 d, .int .i64 q]) ∧ Below w1.heap.size w1 w')
    (HFE : ∀ (D k : Nat) (w1 : World), B ≤ D → D ≠ E → 1 ≤ k → k ≤ n → (∀ j, k ≤ j → j < n → Lib.dg d (n - 1 - j) = 48) → Lib.dg d (n - k) ≠ 48 → DigAt w1 D n d → BufAt w1 E V [] → Below B w0 w1 → B ≤ w1.heap.size →
      Calls Tryd.prog 24 #[.slice (some ⟨E, 1, none⟩) 0 64, .bool neg, .slice (some ⟨D, 0, none⟩) 32 32, .int .i64 dp, .int .i64 k, .int .i64 (max ((k : Int) - dp) 0), .int .u8 102, .bool true] w1 fun r w' => ∃ L, r = .returned (.slice (some ⟨E, 1, none⟩) (L.length : Nat) 64) ∧ PL L ∧ BufAt w' E V L ∧ Below B w0 w') :
    Calls Tryd.prog 19 #[.slice (some ⟨E, 1, none⟩) 0 64, .float .f64 x, .int .u8 102, .int .i64 (-1)] w fun r w' => ∃ L, r = .returned (.slice (some ⟨E, 1, none⟩) (L.length : Nat) 64) ∧ PL L ∧ BufAt w' E V L ∧ Below B w0 w' := by
  obtain ⟨t1, t2, t3, t4, t5, t6, t7⟩ := hT
  have hP := parts_of x (a / 4503599627370496) (a % 4503599627370496) neg (by rw [hx]; omega) (by omega) (by omega)
  rcases t1 with ⟨u1, u2, u3⟩ | ⟨u1, u2, u3⟩
  · exact ft_f_n B E x _ _ _ _ m sh M d n neg e2 ef q dp V PL w0 w hP u1 u2 t2 t3 t4 t5 t6 u3 t7 hd1 hd2 hn hq0 hq1 hdp hB hw hBE hBw HT HSH HFE
  · exact ft_f_s B E x _ _ _ _ m sh M d n neg e2 ef q dp V PL w0 w hP u1 u2 t2 t3 t4 t5 t6 u3 t7 hd1 hd2 hn hq0 hq1 hdp hB hw hBE hBw HT HSH HFE

theorem ft_e (B E x a m sh M d n : Nat) (neg : Bool) (e2 ef q dp : Int) (V : Value) (PL : List UInt8 → Prop) (w0 w : World) (hx : x = (if neg then 9223372036854775808 else 0) + a) (h1 : a < 9218868437227405312) (hT : Takes a m sh M e2 ef)
    (hd1 : 1 ≤ d) (hd2 : d < 18446744073709551616) (hn : Lib.nDigits d = n) (hq0 : -1000 ≤ q) (hq1 : q ≤ 1000) (hdp : (n : Int) + q = dp)
    (hB : BufAt w E V []) (hw : Below B w0 w) (hBE : B ≤ E) (hBw : B ≤ w.heap.size)
    (HT : Lib.TabBelow Tryd.prog B w0 "internal/strconv.uint64pow10" .u64 Lib.pow10Tab)
    (HSH : ∀ w1, Below B w0 w1 → B ≤ w1.heap.size → Calls Tryd.prog 34 #[.int .u64 M, .int .i64 ef] w1 fun r w' => r = .returned (.tuple #[.int .u64 d, .int .i64 q]) ∧ Below w1.heap.size w1 w')
    (HFE : ∀ (D k : Nat) (w1 : World), B ≤ D → D ≠ E → 1 ≤ k → k ≤ n → (∀ j, k ≤ j → j < n → Lib.dg d (n - 1 - j) = 48) → Lib.dg d (n - k) ≠ 48 → DigAt w1 D n d → BufAt w1 E V [] → Below B w0 w1 → B ≤ w1.heap.size →
      Calls Tryd.prog 24 #[.slice (some ⟨E, 1, none⟩) 0 64, .bool neg, .slice (some ⟨D, 0, none⟩) 32 32, .int .i64 dp, .int .i64 k, .int .i64 (max ((k : Int) - 1) 0), .int .u8 101, .bool true] w1 fun r w' => ∃ L, r = .returned (.slice (some ⟨E, 1, none⟩) (L.length : Nat) 64) ∧ PL L ∧ BufAt w' E V L ∧ Below B w0 w') :
    Calls Tryd.prog 19 #[.slice (some ⟨E, 1, none⟩) 0 64, .float .f64 x, .int .u8 101, .int .i64 (-1)] w fun r w' => ∃ L, r = .returned (.slice (some ⟨E, 1, none⟩) (L.length : Nat) 64) ∧ PL L ∧ BufAt w' E V L ∧ Below B w0 w' := by
  obtain ⟨t1, t2, t3, t4, t5, t6, t7⟩ := hT
  have hP := parts_of x (a / 4503599627370496) (a % 4503599627370496) neg (by rw [hx]; omega) (by omega) (by omega)
  rcases t1 with ⟨u1, u2, u3⟩ | ⟨u1, u2, u3⟩
  · exact ft_e_n B E x _ _ _ _ m sh M d n neg e2 ef q dp V PL w0 w hP u1 u2 t2 t3 t4 t5 t6 u3 t7 hd1 hd2 hn hq0 hq1 hdp hB hw hBE hBw HT HSH HFE
  · exact ft_e_s B E x _ _ _ _ m sh M d n neg e2 ef q dp V PL w0 w hP u1 u2 t2 t3 t4 t5 t6 u3 t7 hd1 hd2 hn hq0 hq1 hdp hB hw hBE hBw HT HSH HFE

/-- the length of a text in the buffer -/
theorem post_len {B E : Nat} {V : Value} {PL : List UInt8 → Prop} {w0 : World} {f : FuncId} {args : Array Value} {w : World} (h : Calls Tryd.prog f args w (BufPost B E V PL w0)) :
    Calls Tryd.prog f args w (BufPost B E V (fun L => PL L ∧ L.length ≤ 64) w0) :=
  h.mono (fun r w' ⟨L, h1, h2, h3, h4⟩ => ⟨L, h1, ⟨h2, h3.1⟩, h3, h4⟩)

/-! ## the order of doubles, by their bits -/
theorem fin_nan {a : Nat} (h : a < 9218868437227405312) : ¬ nan a := by
  have : mg a = a := Nat.mod_eq_of_lt (show a < 2 ^ 63 by have : (2 : Nat) ^ 63 = 9223372036854775808 := rfl; omega)
  unfold nan; rw [this]; omega
theorem ord_lt {a c : Nat} (ha : a < 9218868437227405312) (hc : c < 9218868437227405312) (h : a < c) : FloatKind.f64.format.order a c = some .lt :=
  order_lt (fin_nan ha) (fin_nan hc) (by rw [V_bits a (by omega), V_bits c (by omega)]; have := vr_lt h; omega)
theorem ord_gt {a c : Nat} (ha : a < 9218868437227405312) (hc : c < 9218868437227405312) (h : c < a) : FloatKind.f64.format.order a c = some .gt :=
  order_gt (fin_nan ha) (fin_nan hc) (by rw [V_bits a (by omega), V_bits c (by omega)]; have := vr_lt h; omega)
theorem ord_eq {a : Nat} (ha : a < 9218868437227405312) : FloatKind.f64.format.order a a = some .eq := by
  have h1 := eq_eq (fin_nan ha) (fin_nan ha)
  rw [decide_eq_true rfl] at h1
  exact eq_of_beq h1

theorem V_signed (x a : Nat) (neg : Bool) (hx : x = (if neg then 9223372036854775808 else 0) + a) (h1 : a < 9218868437227405312) : V x = (if neg then -(vr a : Int) else vr a) ∧ ¬ nan x := by
  have h63 : (2 : Nat) ^ 63 = 9223372036854775808 := rfl
  have hm : mg x = a := by unfold mg; rw [h63, hx]; cases neg <;> simp <;> omega
  have hs : sg x = neg := by
    unfold sg
    rw [h63, hx]
    cases neg
    · simp; omega
    · simp; omega
  refine ⟨by unfold V; rw [hm, hs], ?_⟩
  unfold nan
  rw [hm]
  omega

theorem max_fin (x a : Nat) (neg : Bool) (hx : x = (if neg then 9223372036854775808 else 0) + a) (h1 : a < 9218868437227405312) (w : World) : (Builtin.max_ #[23, 23] 23 #[.float .f64 x, .float .f64 18442240474082181119]).run Tryd.prog w = .ok (.float .f64 x) w := by
  by_cases c : x = 18442240474082181119
  · rw [c]; kernel_rfl
  · obtain ⟨hV, hn⟩ := V_signed x a neg hx h1
    have n1 : ¬ nan 18442240474082181119 := by decide
    refine max_no x (order_gt hn n1 ?_) w
    rw [V_NM, hV]
    have hb := big_max
    have hU := one_pos
    cases neg
    · simp; omega
    · have hlt : a < 9218868437227405311 := by simp at hx; omega
      have := vr_lt hlt
      simp
      omega

theorem min_fin (x a : Nat) (neg : Bool) (hx : x = (if neg then 9223372036854775808 else 0) + a) (h1 : a < 9218868437227405312) (w : World) : (Builtin.min_ #[23, 23] 23 #[.float .f64 x, .float .f64 9218868437227405311]).run Tryd.prog w = .ok (.float .f64 x) w := by
  by_cases c : x = 9218868437227405311
  · rw [c]; kernel_rfl
  · obtain ⟨hV, hn⟩ := V_signed x a neg hx h1
    have n1 : ¬ nan 9218868437227405311 := by decide
    refine min_no x (order_lt hn n1 ?_) w
    rw [V_bits 9218868437227405311 (by decide), hV]
    have hb := big_max
    have hU := one_pos
    cases neg
    · have hlt : a < 9218868437227405311 := by simp at hx; omega
      have := vr_lt hlt
      simp
      omega
    · simp; omega

theorem nd19 (d : Nat) (h1 : 1 ≤ d) (h : d < 1152921504606846976) : Lib.nDigits d ≤ 19 := by
  have h2 := pow_le_of_nDigits d h1
  rcases Nat.lt_or_ge 19 (Lib.nDigits d) with h3 | h3
  · have h4 : 10 ^ 19 ≤ 10 ^ (Lib.nDigits d - 1) := Nat.pow_le_pow_right (by decide) (by omega)
    omega
  · exact h3
theorem nd15 (d : Nat) (h : 100000000000000 ≤ d) : 15 ≤ Lib.nDigits d := by
  have h2 := Lib.lt_pow_nDigits d
  rcases Nat.lt_or_ge (Lib.nDigits d) 15 with h3 | h3
  · have h4 : 10 ^ Lib.nDigits d ≤ 10 ^ 14 := Nat.pow_le_pow_right (by decide) (by omega)
    omega
  · exact h3

theorem tail4' (P : List UInt8) (a b c d : UInt8) (L : List UInt8) (h : L = P ++ [a, b, c, d]) : L.length = P.length + 4 ∧ L.getD (P.length + 0) 0 = a ∧ L.getD (P.length + 1) 0 = b ∧ L.getD (P.length + 2) 0 = c := by
  subst h
  refine ⟨by simp, ?_, ?_, ?_⟩ <;> simp [List.getD, List.getElem?_append_right]

theorem dh2 (a : Nat) (h0 : 10 ≤ a) (h : a < 100) : DH [UInt8.ofNat (48 + a / 10), UInt8.ofNat (48 + a % 10)] := by
  have e1 := ofNat48 (a / 10) (by omega)
  have e2 := ofNat48 (a % 10) (by omega)
  refine ⟨fun c hc => ?_, _, _, rfl, by omega⟩
  simp only [List.mem_cons, List.not_mem_nil, or_false] at hc
  rcases hc with rfl | rfl <;> omega
theorem dh3 (a : Nat) (h0 : 100 ≤ a) (h : a < 1000) : DH [UInt8.ofNat (48 + a / 100), UInt8.ofNat (48 + a / 10 % 10), UInt8.ofNat (48 + a % 10)] := by
  have e1 := ofNat48 (a / 100) (by omega)
  have e2 := ofNat48 (a / 10 % 10) (by omega)
  have e3 := ofNat48 (a % 10) (by omega)
  refine ⟨fun c hc => ?_, _, _, rfl, by omega⟩
  simp only [List.mem_cons, List.not_mem_nil, or_false] at hc
  rcases hc with rfl | rfl | rfl <;> omega
theorem dh1 (a : Nat) (h0 : 1 ≤ a) (h : a < 10) : DH [UInt8.ofNat (48 + a)] := by
  have e1 := ofNat48 a h
  refine ⟨fun c hc => ?_, _, _, rfl, by omega⟩
  rw [List.mem_singleton.1 hc]
  omega

def exOf (a : Nat) : Bool := decide (a < 4517329193108106637) || decide (4921056587992461136 ≤ a)

def EncPost (b : Nat) (PL : List UInt8 → Prop) (w : World) : Ending → World → Prop := fun r w' => r = .returned (.tuple #[]) ∧ ∃ L, PL L ∧ Lib.IsBuilderF 32 5 b b (Lib.byteCells L) w' ∧ Below b w w'

theorem EncPost.imp {b : Nat} {PL PQ : List UInt8 → Prop} {w : World} {f : FuncId} {args : Array Value} (h : Calls Tryd.prog f args w (EncPost b PL w)) (hp : ∀ L, PL L → PQ L) : Calls Tryd.prog f args w (EncPost b PQ w) :=
  h.mono (fun r w' ⟨h1, L, h2, h3⟩ => ⟨h1, L, hp L h2, h3⟩)

theorem enc_fin (x a : Nat) (neg : Bool) (hx : x = (if neg then 9223372036854775808 else 0) + a) (h0 : 0 < a) (h1 : a < 9218868437227405312) (b E : Nat) (w : World) (hbE : b < E)
    (hbk : w.heap[b]? = some (.cells #[.pointer none, .slice none 0 0] 32 (0, 0)))
    (hB : BufAt w E (.iface 29 (.pointer (some ⟨b, 0, none⟩))) [])
    (HT : Lib.TabBelow Tryd.prog (b + 1) w "internal/strconv.uint64pow10" .u64 Lib.pow10Tab) (HP : TabAll w) (hG : 3 < b + 1) :
    Calls Tryd.prog 9 #[.pointer (some ⟨E, 0, none⟩), .float .f64 x] w (EncPost b (fun L => Shape neg (exOf a) L ∧ L.length ≤ 64) w) := by
  obtain ⟨m, sh, M, d, e2, ef, q, hT, hS, hl1, hl2, hl3, hl4, hl5, hl6, hl7, hl8⟩ := short_of a h0 h1
  obtain ⟨n, hn⟩ : ∃ n, Lib.nDigits d = n := ⟨_, rfl⟩
  have hn1 := Lib.nDigits_pos d
  have hn19 := nd19 d hl1 hl2
  have hn15 := nd15 d
  rw [hn] at hn1 hn19 hn15
  obtain ⟨dp, hdp⟩ : ∃ dp, (n : Int) + q = dp := ⟨_, rfl⟩
  have hxlt : x < 18446744073709551616 := by rw [hx]; cases neg <;> simp <;> omega
  have hA := andnot_sign x hxlt
  rw [show x % 9223372036854775808 = a by rw [hx]; cases neg <;> simp <;> omega] at hA
  have hself := order_self (V_signed x a neg hx h1).2
  have hmx := max_fin x a neg hx h1
  have hmn := min_fin x a neg hx h1
  have o3 : (FloatKind.f64.format.order a 0 != some .eq) = true := by rw [ord_gt h1 (by decide) h0]; rfl
  have HSH : ∀ w1, Below (b + 1) w w1 → b + 1 ≤ w1.heap.size → Calls Tryd.prog 34 #[.int .u64 M, .int .i64 ef] w1 fun r w' => r = .returned (.tuple #[.int .u64 d, .int .i64 q]) ∧ Below w1.heap.size w1 w' := fun w1 g1 _ => hS w1 (HP.below g1 hG)
  by_cases cs : a < 4517329193108106637
  · have o4 : (FloatKind.f64.format.order a 4517329193108106637 == some .lt) = true := by rw [ord_lt h1 (by decide) cs]; rfl
    have hex : exOf a = true := by unfold exOf; rw [decide_eq_true cs]; rfl
    rw [hex]
    have hq := hl5 cs
    obtain ⟨e, he⟩ : ∃ e : Nat, dp - 1 = -(e : Int) := ⟨(1 - dp).toNat, by omega⟩
    by_cases c1 : e < 10
    · have e1 : 1 ≤ e := by omega
      refine enc_e_small_cl b E x x x a (fun L => TextE neg d n 45 [48, UInt8.ofNat (48 + e)] L ∧ L.length ≤ 64) _ w hbE hbk hB hA hself hmx hmn o3 o4 ?_ (fun w1 g1 g2 g3 => app_out (b + 1) E x 101 _ _ w w1 (post_len (ft_e (b + 1) E x a m sh M d n neg e2 ef q dp _ _ w w1 hx h1 hT hl1 (by omega) hn (by omega) (by omega) hdp g2 g1 (by omega) g3 HT HSH (fun D k w2 f1 f2 f3 f4 f5 f6 f7 f8 f9 f10 => he_m1 (b + 1) E D k n d e dp neg _ w w2 (by omega) (by omega) c1 e1 he f2 f3 f4 f7 f8 f9 f10))))
      rintro L ⟨⟨I, hI, hL⟩, h64⟩
      refine ⟨sgn neg ++ I, UInt8.ofNat (48 + e), by rw [hL]; simp, ?_, ?_⟩
      · exact textE_shape ⟨I, hI, by simp⟩ hl1 hn (Or.inr rfl) (dh1 e e1 c1)
      · rw [hL] at h64
        simp at h64 ⊢
        omega
    · by_cases c2 : e < 100
      · refine EncPost.imp (enc_e_small_k2 b E x x x a (fun L => TextE neg d n 45 [UInt8.ofNat (48 + e / 10), UInt8.ofNat (48 + e % 10)] L ∧ L.length ≤ 64) w hbE hbk hB hA hself hmx hmn o3 o4 ?_ (fun w1 g1 g2 g3 => app_out (b + 1) E x 101 _ _ w w1 (post_len (ft_e (b + 1) E x a m sh M d n neg e2 ef q dp _ _ w w1 hx h1 hT hl1 (by omega) hn (by omega) (by omega) hdp g2 g1 (by omega) g3 HT HSH (fun D k w2 f1 f2 f3 f4 f5 f6 f7 f8 f9 f10 => he_m2 (b + 1) E D k n d e dp neg _ w w2 (by omega) (by omega) (by omega) c2 (by omega) he f2 f3 f4 f7 f8 f9 f10))))) (fun L h => ⟨textE_shape h.1 hl1 hn (Or.inr rfl) (dh2 e (by omega) c2), h.2⟩)
        rintro L ⟨⟨I, hI, hL⟩, h64⟩
        obtain ⟨q1, q2, q3, q4⟩ := tail4' (sgn neg ++ I) 101 45 (UInt8.ofNat (48 + e / 10)) (UInt8.ofNat (48 + e % 10)) L (by rw [hL]; simp)
        refine ⟨_, q1, by rw [q2]; rfl, by rw [q3]; rfl, ?_⟩
        rw [q4, ofNat48 _ (by omega)]
        omega
      · refine EncPost.imp (enc_e_small_k4 b E x x x a (fun L => TextE neg d n 45 [UInt8.ofNat (48 + e / 100), UInt8.ofNat (48 + e / 10 % 10), UInt8.ofNat (48 + e % 10)] L ∧ L.length ≤ 64) w hbE hbk hB hA hself hmx hmn o3 o4 ?_ (fun w1 g1 g2 g3 => app_out (b + 1) E x 101 _ _ w w1 (post_len (ft_e (b + 1) E x a m sh M d n neg e2 ef q dp _ _ w w1 hx h1 hT hl1 (by omega) hn (by omega) (by omega) hdp g2 g1 (by omega) g3 HT HSH (fun D k w2 f1 f2 f3 f4 f5 f6 f7 f8 f9 f10 => he_m3 (b + 1) E D k n d e dp neg _ w w2 (by omega) (by omega) (by omega) (by omega) (by omega) he f2 f3 f4 f7 f8 f9 f10))))) (fun L h => ⟨textE_shape h.1 hl1 hn (Or.inr rfl) (dh3 e (by omega) (by omega)), h.2⟩)
        rintro L ⟨⟨I, hI, hL⟩, h64⟩
        obtain ⟨q1, q2, q3, q4⟩ := tail4' (sgn neg ++ I ++ [101]) 45 (UInt8.ofNat (48 + e / 100)) (UInt8.ofNat (48 + e / 10 % 10)) (UInt8.ofNat (48 + e % 10)) L (by rw [hL]; simp)
        exact ⟨_, q1, by rw [q2]; decide⟩
  · have o4 : (FloatKind.f64.format.order a 4517329193108106637 == some .lt) = false := by
      rcases Nat.lt_or_ge 4517329193108106637 a with h | h
      · rw [ord_gt h1 (by decide) h]; rfl
      · obtain rfl : a = 4517329193108106637 := by omega
        rw [ord_eq h1]; rfl
    by_cases cg : 4921056587992461136 ≤ a
    · have o5 : (FloatKind.f64.format.order a 4921056587992461136 == some .gt || FloatKind.f64.format.order a 4921056587992461136 == some .eq) = true := by
        rcases Nat.lt_or_ge 4921056587992461136 a with h | h
        · rw [ord_gt h1 (by decide) h]; rfl
        · obtain rfl : a = 4921056587992461136 := by omega
          rw [ord_eq h1]; rfl
      have hex : exOf a = true := by unfold exOf; rw [decide_eq_true cg]; simp
      rw [hex]
      obtain ⟨hq, hd14⟩ := hl8 cg
      have hn15 := hn15 hd14
      obtain ⟨e, he⟩ : ∃ e : Nat, dp - 1 = (e : Int) := ⟨(dp - 1).toNat, by omega⟩
      by_cases c2 : e < 100
      · refine EncPost.imp (enc_e_great_k3 b E x x x a (fun L => TextE neg d n 43 [UInt8.ofNat (48 + e / 10), UInt8.ofNat (48 + e % 10)] L ∧ L.length ≤ 64) w hbE hbk hB hA hself hmx hmn o3 o4 o5 ?_ (fun w1 g1 g2 g3 => app_out (b + 1) E x 101 _ _ w w1 (post_len (ft_e (b + 1) E x a m sh M d n neg e2 ef q dp _ _ w w1 hx h1 hT hl1 (by omega) hn (by omega) (by omega) hdp g2 g1 (by omega) g3 HT HSH (fun D k w2 f1 f2 f3 f4 f5 f6 f7 f8 f9 f10 => he_p2 (b + 1) E D k n d e dp neg _ w w2 (by omega) (by omega) (by omega) c2 he f2 f3 f4 f7 f8 f9 f10))))) (fun L h => ⟨textE_shape h.1 hl1 hn (Or.inl rfl) (dh2 e (by omega) c2), h.2⟩)
        rintro L ⟨⟨I, hI, hL⟩, h64⟩
        obtain ⟨q1, q2, q3, q4⟩ := tail4' (sgn neg ++ I) 101 43 (UInt8.ofNat (48 + e / 10)) (UInt8.ofNat (48 + e % 10)) L (by rw [hL]; simp)
        exact ⟨_, q1, by rw [q2]; rfl, by rw [q3]; decide⟩
      · refine EncPost.imp (enc_e_great_k4 b E x x x a (fun L => TextE neg d n 43 [UInt8.ofNat (48 + e / 100), UInt8.ofNat (48 + e / 10 % 10), UInt8.ofNat (48 + e % 10)] L ∧ L.length ≤ 64) w hbE hbk hB hA hself hmx hmn o3 o4 o5 ?_ (fun w1 g1 g2 g3 => app_out (b + 1) E x 101 _ _ w w1 (post_len (ft_e (b + 1) E x a m sh M d n neg e2 ef q dp _ _ w w1 hx h1 hT hl1 (by omega) hn (by omega) (by omega) hdp g2 g1 (by omega) g3 HT HSH (fun D k w2 f1 f2 f3 f4 f5 f6 f7 f8 f9 f10 => he_p3 (b + 1) E D k n d e dp neg _ w w2 (by omega) (by omega) (by omega) (by omega) he f2 f3 f4 f7 f8 f9 f10))))) (fun L h => ⟨textE_shape h.1 hl1 hn (Or.inl rfl) (dh3 e (by omega) (by omega)), h.2⟩)
        rintro L ⟨⟨I, hI, hL⟩, h64⟩
        obtain ⟨q1, q2, q3, q4⟩ := tail4' (sgn neg ++ I ++ [101]) 43 (UInt8.ofNat (48 + e / 100)) (UInt8.ofNat (48 + e / 10 % 10)) (UInt8.ofNat (48 + e % 10)) L (by rw [hL]; simp)
        exact ⟨_, q1, by rw [q2]; decide⟩
    · have o5 : (FloatKind.f64.format.order a 4921056587992461136 == some .gt || FloatKind.f64.format.order a 4921056587992461136 == some .eq) = false := by
        rw [ord_lt h1 (by decide) (by omega)]; rfl
      have hex : exOf a = false := by unfold exOf; rw [decide_eq_false cs, decide_eq_false cg]; rfl
      rw [hex]
      have q1 := hl6 (by omega)
      have q2 := hl7 (by omega)
      exact enc_f b E x x x a true false (fun L => Shape neg false L ∧ L.length ≤ 64) w hbE hbk hB hA hself hmx hmn o3 o4 rfl o5 (fun w1 g1 g2 g3 => app_out (b + 1) E x 102 _ _ w w1 (post_len (ft_f (b + 1) E x a m sh M d n neg e2 ef q dp _ _ w w1 hx h1 hT hl1 (by omega) hn (by omega) (by omega) hdp g2 g1 (by omega) g3 HT HSH (fun D k w2 f1 f2 f3 f4 f5 f6 f7 f8 f9 f10 => hf_any (b + 1) E D k n d dp neg _ w w2 (by omega) hl1 hn (by omega) (by omega) (by omega) f2 f3 f4 f7 f8 f9 f10))))
end Go.Proofs.YtkincdcknmdboaaDoor
