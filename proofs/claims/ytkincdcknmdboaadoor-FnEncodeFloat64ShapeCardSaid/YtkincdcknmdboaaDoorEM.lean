/- encodeFloat64 at the noughts, at the infinities and at what is no number. -/
import Derived.Test.YtkincdcknmdboaaDoorEA
import Derived.Test.YtkincdcknmdboaaDoorWN
namespace Go.Proofs.YtkincdcknmdboaaDoor
open Go Go.RowKit Flt
set_option linter.unusedVariables false
set_option linter.unusedSimpArgs false

theorem plain_max : shortR (usc 18446744073709549568 18408377700990114896 15715055142665777285 8) (usc (18446744073709549568 - 1024) 18408377700990114896 15715055142665777285 8) (usc (18446744073709549568 + 1024) 18408377700990114896 15715055142665777285 8) (18446744073709549568 / 2048 % 2) (-292) = (17976931348623157, 292) := by decide +kernel
theorem row_max : Go.Pinned.pow10Rows[56]? = some (18408377700990114896, 15715055142665777285) := by decide +kernel

theorem short_max : ShortAt 18446744073709549568 960 17976931348623157 292 := by
  intro w hT
  have hc := hT 56 _ _ row_max
  refine (short_B 18446744073709549568 18408377700990114896 15715055142665777285 56 8 960 292 (-971) w (by decide) (by decide) (by decide) (by decide) (by decide) (by decide) (by decide) (by decide) (by decide) (by decide) (by decide) (by decide) (by decide) (by decide) (by decide) (by decide) (by decide) (by decide) hc.1 hc.2 hT.lt).mono ?_
  rintro r w' ⟨d', q', g1, g2, g3⟩
  obtain ⟨rfl, rfl⟩ := Prod.mk.inj (g2.trans plain_max)
  exact ⟨g1, g3⟩

def maxText : List UInt8 := [49, 46, 55, 57, 55, 54, 57, 51, 49, 51, 52, 56, 54, 50, 51, 49, 53, 55, 101, 43, 51, 48, 56]

theorem max_takes : Takes 9218868437227405311 9007199254740991 11 18446744073709549568 1012 960 := by
  refine ⟨Or.inl ⟨by decide, by decide, by decide⟩, by decide, ?_, by decide, by decide, by decide, by decide⟩
  rw [bitLen_of 9007199254740991 52 (by decide) (by decide) (by decide)]
  rfl

theorem max_digits : Lib.nDigits 17976931348623157 = 17 := by
  simp [Lib.nDigits_big, Lib.nDigits_small]

theorem enc_inf (neg : Bool) (xi xm x : Nat) (hx : x = (if neg then 9223372036854775808 else 0) + 9218868437227405311)
    (o0 : (FloatKind.f64.format.order xi xi != some .eq) = false)
    (hmx : ∀ w : World, (Builtin.max_ #[23, 23] 23 #[.float .f64 xi, .float .f64 18442240474082181119]).run Tryd.prog w = .ok (.float .f64 xm) w)
    (hmn : ∀ w : World, (Builtin.min_ #[23, 23] 23 #[.float .f64 xm, .float .f64 9218868437227405311]).run Tryd.prog w = .ok (.float .f64 x) w)
    (b E : Nat) (w : World) (hbE : b < E)
    (hbk : w.heap[b]? = some (.cells #[.pointer none, .slice none 0 0] 32 (0, 0)))
    (hB : BufAt w E (.iface 29 (.pointer (some ⟨b, 0, none⟩))) [])
    (HT : Lib.TabBelow Tryd.prog (b + 1) w "internal/strconv.uint64pow10" .u64 Lib.pow10Tab) (HP : TabAll w) (hG : 3 < b + 1) :
    Calls Tryd.prog 9 #[.pointer (some ⟨E, 0, none⟩), .float .f64 xi] w (EncPost b (fun L => L = sgn neg ++ maxText) w) := by
  have hxlt : x < 18446744073709551616 := by rw [hx]; cases neg <;> simp
  have hA := andnot_sign x hxlt
  rw [show x % 9223372036854775808 = 9218868437227405311 by rw [hx]; cases neg <;> simp] at hA
  have h1 : 9218868437227405311 < 9218868437227405312 := by decide
  have o3 : (FloatKind.f64.format.order 9218868437227405311 0 != some .eq) = true := by rw [ord_gt h1 (by decide) (by decide)]; rfl
  have o4 : (FloatKind.f64.format.order 9218868437227405311 4517329193108106637 == some .lt) = false := by rw [ord_gt h1 (by decide) (by decide)]; rfl
  have o5 : (FloatKind.f64.format.order 9218868437227405311 4921056587992461136 == some .gt || FloatKind.f64.format.order 9218868437227405311 4921056587992461136 == some .eq) = true := by rw [ord_gt h1 (by decide) (by decide)]; rfl
  have HSH : ∀ w1, Below (b + 1) w w1 → b + 1 ≤ w1.heap.size → Calls Tryd.prog 34 #[.int .u64 (18446744073709549568 : Nat), .int .i64 960] w1 fun r w' => r = .returned (.tuple #[.int .u64 (17976931348623157 : Nat), .int .i64 292]) ∧ Below w1.heap.size w1 w' := fun w1 g1 _ => short_max w1 (HP.below g1 hG)
  refine EncPost.imp (enc_e_great_k4 b E xi xm x 9218868437227405311 (fun L => L = sgn neg ++ maxText) w hbE hbk hB hA o0 hmx hmn o3 o4 o5 ?_ (fun w1 g1 g2 g3 => app_out (b + 1) E x 101 _ _ w w1 (ft_e (b + 1) E x 9218868437227405311 9007199254740991 11 18446744073709549568 17976931348623157 17 neg 1012 960 292 309 _ _ w w1 hx h1 max_takes (by decide) (by decide) max_digits (by decide) (by decide) (by decide) g2 g1 (by omega) g3 HT HSH (fun D k w2 f1 f2 f3 f4 f5 f6 f7 f8 f9 f10 => ?_)))) (fun L h => h)
  · rintro L rfl
    exact ⟨(sgn neg).length + 19, by simp [maxText], by cases neg <;> decide⟩
  · obtain rfl : k = 16 + 1 := by
      rcases Nat.lt_or_ge k 17 with h | h
      · exact absurd (f5 16 (by omega) (by decide)) (by decide)
      · omega
    refine (fe_mp3 E D 17 17976931348623157 308 16 (by decide) (by decide) 309 _ neg w2 f8 f7 f2 (by decide) (by decide) (by decide) (by decide)).mono ?_
    rintro rr w' ⟨L, e1, e2, e3, e4⟩
    refine ⟨L, e1, ?_, e3, f9.trans (below_of_grown e4 (by omega) f10)⟩
    rw [e2]
    cases neg <;> decide

theorem enc_zero (neg : Bool) (x : Nat) (hx : x = (if neg then 9223372036854775808 else 0)) (b E : Nat) (w : World) (hbE : b < E)
    (hbk : w.heap[b]? = some (.cells #[.pointer none, .slice none 0 0] 32 (0, 0)))
    (hB : BufAt w E (.iface 29 (.pointer (some ⟨b, 0, none⟩))) []) :
    Calls Tryd.prog 9 #[.pointer (some ⟨E, 0, none⟩), .float .f64 x] w (EncPost b (fun L => Shape neg false L ∧ L.length ≤ 64) w) := by
  have hx0 : x = (if neg then 9223372036854775808 else 0) + 0 := hx
  have hxlt : x < 18446744073709551616 := by rw [hx]; cases neg <;> simp
  have hA := andnot_sign x hxlt
  rw [show x % 9223372036854775808 = 0 by rw [hx]; cases neg <;> simp] at hA
  have hP : Parts x (if neg then 1 else 0) ((if neg then 2048 else 0) + 0) 0 0 neg := parts_of x 0 0 neg hx0 (by decide) (by decide)
  refine enc_f b E x x x 0 false true (fun L => Shape neg false L ∧ L.length ≤ 64) w hbE hbk hB hA (order_self (V_signed x 0 neg hx0 (by decide)).2) (max_fin x 0 neg hx0 (by decide)) (min_fin x 0 neg hx0 (by decide)) (by decide +kernel) (by decide +kernel) rfl (by decide +kernel) (fun w1 h1 h2 h3 => ?_)
  exact app_out (b + 1) E x 102 _ _ w w1 (post_len (ft_zero (b + 1) E x _ _ neg _ _ (Shape.z neg) w w1 hP h2 h1 (by omega) h3))
end Go.Proofs.YtkincdcknmdboaaDoor
