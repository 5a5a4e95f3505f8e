/- The walks of the law FnEncodeFloat64Shape. -/
import Derived.Test.YtkincdcknmdboaaDoorZS
namespace Go.Proofs.YtkincdcknmdboaaDoor
open Go Go.RowKit Flt
set_option linter.unusedVariables false
set_option linter.unusedSimpArgs false

/-- what the law's checks answer at a text -/
def Good (neg ex : Bool) (s : ByteArray) : Prop :=
  (∀ w, Calls Tryd.prog 7 #[.string s] w fun r w' => r = .returned (.bool true) ∧ w = w') ∧
  (∀ w, Calls Tryd.prog 8 #[.string s, .int .u8 101] w fun r w' => r = .returned (.bool ex) ∧ w = w') ∧
  ∃ hs : 0 < s.size, (((s[0]'hs).toNat : Int) == 45) = neg

theorem good_of {neg ex : Bool} {L : List UInt8} (h : Shape neg ex L) (h64 : L.length ≤ 64) : Good neg ex ⟨L.toArray⟩ := by
  refine ⟨fun w => json_shape h h64 w, fun w => has_shape h h64 w, ?_⟩
  obtain ⟨hl, h1⟩ := first_of h
  refine ⟨hl, ?_⟩
  rw [ba_get L 0 hl]
  cases neg
  · rw [beq_eq_false_iff_ne]
    intro e
    exact absurd (h1.1 (by omega)) (by decide)
  · rw [beq_iff_eq]
    have := h1.2 rfl
    omega

theorem zz_good {x : Nat} {neg ex : Bool} {w : World} (h : Calls Tryd.prog 5 #[.float .f64 x] w (ZZPost (fun L => Shape neg ex L ∧ L.length ≤ 64) w)) :
    Calls Tryd.prog 5 #[.float .f64 x] w fun r w' => ∃ s, r = .returned (.string s) ∧ Good neg ex s ∧ Below w.heap.size w w' :=
  h.mono (fun r w' ⟨L, h1, h2, h3⟩ => ⟨_, h1, good_of h2.1 h2.2, h3⟩)

set_option maxRecDepth 100000 in
theorem law_nan (f : Nat) (o0 : (FloatKind.f64.format.order f f != some .eq) = true) (w : World) :
    Calls Tryd.prog 4 #[.float .f64 f] w fun e w' => e = .returned (.bool true) ∧ Below w.heap.size w w' := by
  have HZ := Lib.hid (zz_nan f o0 w)
  go_enter Tryd.func4, Tryd.ntmps4
  go_wp2_with (first | (go_at_call 5; refine HZ.out.mono ?_; rintro r wa ⟨L, rfl, rfl, B⟩; have HB1 := Lib.hid B; clear B))
  go_ret
  exact ⟨rfl, HB1.out⟩

set_option maxRecDepth 100000 in
theorem law_pinf (w : World) (hT : Lib.TabIs Tryd.prog w "internal/strconv.uint64pow10" .u64 Lib.pow10Tab) (hP : TabAll w) :
    Calls Tryd.prog 4 #[.float .f64 9218868437227405312] w fun e w' => e = .returned (.bool true) ∧ Below w.heap.size w w' := by
  have HZ := Lib.hid (zz_pinf w hT hP)
  clear hT hP
  have o0 : (FloatKind.f64.format.order 9218868437227405312 9218868437227405312 != some .eq) = false := by decide +kernel
  have o1 : (FloatKind.f64.format.order 9218868437227405312 9218868437227405311 == some .gt) = true := by decide +kernel
  have o2 : (FloatKind.f64.format.order 9218868437227405312 18442240474082181119 == some .lt) = false := by decide +kernel
  go_enter Tryd.func4, Tryd.ntmps4
  go_wp2_with (first | (go_at_call 5; refine HZ.out.mono ?_; rintro r wa ⟨L, rfl, rfl, B⟩; have HB1 := Lib.hid B; clear B))
  go_ret
  exact ⟨rfl, HB1.out⟩

set_option maxRecDepth 100000 in
theorem law_ninf (w : World) (hT : Lib.TabIs Tryd.prog w "internal/strconv.uint64pow10" .u64 Lib.pow10Tab) (hP : TabAll w) :
    Calls Tryd.prog 4 #[.float .f64 18442240474082181120] w fun e w' => e = .returned (.bool true) ∧ Below w.heap.size w w' := by
  have HZ := Lib.hid (zz_ninf w hT hP)
  clear hT hP
  have o0 : (FloatKind.f64.format.order 18442240474082181120 18442240474082181120 != some .eq) = false := by decide +kernel
  have o1 : (FloatKind.f64.format.order 18442240474082181120 9218868437227405311 == some .gt) = false := by decide +kernel
  have o2 : (FloatKind.f64.format.order 18442240474082181120 18442240474082181119 == some .lt) = true := by decide +kernel
  go_enter Tryd.func4, Tryd.ntmps4
  go_wp2_with (first | (go_at_call 5; refine HZ.out.mono ?_; rintro r wa ⟨L, rfl, rfl, B⟩; have HB1 := Lib.hid B; clear B))
  go_ret
  exact ⟨rfl, HB1.out⟩

set_option maxRecDepth 100000 in
theorem law_pz (w : World) :
    Calls Tryd.prog 4 #[.float .f64 0] w fun e w' => e = .returned (.bool true) ∧ Below w.heap.size w w' := by
  have HZ := Lib.hid (zz_good (zz_zero false 0 rfl w))
  have o0 : (FloatKind.f64.format.order 0 0 != some .eq) = false := by decide +kernel
  have o1 : (FloatKind.f64.format.order 0 9218868437227405311 == some .gt) = false := by decide +kernel
  have o2 : (FloatKind.f64.format.order 0 18442240474082181119 == some .lt) = false := by decide +kernel
  have o4 : (FloatKind.f64.format.order 0 0 == some .lt) = false := by decide +kernel
  have o5 : (FloatKind.f64.format.order 0 0 == some .eq) = true := by decide +kernel
  have o6 : (FloatKind.f64.format.order 0 0 != some .eq) = false := by decide +kernel
  have o8 : (FloatKind.f64.format.order 0 4921056587992461136 == some .gt || FloatKind.f64.format.order 0 4921056587992461136 == some .eq) = false := by decide +kernel
  have o9 : ∀ w : World, (binOp BinOp.quo 23 (.float .f64 4607182418800017408) (.float .f64 0)).run Tryd.prog w = .ok (.float .f64 9218868437227405312) w := fun w => by kernel_rfl
  have o10 : (FloatKind.f64.format.order 9218868437227405312 0 == some .lt) = false := by decide +kernel
  go_enter Tryd.func4, Tryd.ntmps4
  go_wp2_with (first | (go_at_call 5; refine HZ.out.mono ?_; rintro r wa ⟨s, rfl, ⟨hj, hh, hs, hc⟩, B⟩; have HJ := Lib.hid hj; have HH := Lib.hid hh; have HB1 := Lib.hid B; clear B hj hh) | (go_at_call 7; refine (HJ.out _).mono ?_; rintro r w2 ⟨rfl, rfl⟩) | (go_at_call 8; refine (HH.out _).mono ?_; rintro r w3 ⟨rfl, rfl⟩))
  go_ret
  exact ⟨rfl, HB1.out⟩

set_option maxRecDepth 100000 in
theorem law_nz (w : World) :
    Calls Tryd.prog 4 #[.float .f64 9223372036854775808] w fun e w' => e = .returned (.bool true) ∧ Below w.heap.size w w' := by
  have HZ := Lib.hid (zz_good (zz_zero true 9223372036854775808 rfl w))
  have o0 : (FloatKind.f64.format.order 9223372036854775808 9223372036854775808 != some .eq) = false := by decide +kernel
  have o1 : (FloatKind.f64.format.order 9223372036854775808 9218868437227405311 == some .gt) = false := by decide +kernel
  have o2 : (FloatKind.f64.format.order 9223372036854775808 18442240474082181119 == some .lt) = false := by decide +kernel
  have o4 : (FloatKind.f64.format.order 9223372036854775808 0 == some .lt) = false := by decide +kernel
  have o5 : (FloatKind.f64.format.order 9223372036854775808 0 == some .eq) = true := by decide +kernel
  have o6 : (FloatKind.f64.format.order 9223372036854775808 0 != some .eq) = false := by decide +kernel
  have o8 : (FloatKind.f64.format.order 9223372036854775808 4921056587992461136 == some .gt || FloatKind.f64.format.order 9223372036854775808 4921056587992461136 == some .eq) = false := by decide +kernel
  have o9 : ∀ w : World, (binOp BinOp.quo 23 (.float .f64 4607182418800017408) (.float .f64 9223372036854775808)).run Tryd.prog w = .ok (.float .f64 18442240474082181120) w := fun w => by kernel_rfl
  have o10 : (FloatKind.f64.format.order 18442240474082181120 0 == some .lt) = true := by decide +kernel
  go_enter Tryd.func4, Tryd.ntmps4
  go_wp2_with (first | (go_at_call 5; refine HZ.out.mono ?_; rintro r wa ⟨s, rfl, ⟨hj, hh, hs, hc⟩, B⟩; have HJ := Lib.hid hj; have HH := Lib.hid hh; have HB1 := Lib.hid B; clear B hj hh) | (go_at_call 7; refine (HJ.out _).mono ?_; rintro r w2 ⟨rfl, rfl⟩) | (go_at_call 8; refine (HH.out _).mono ?_; rintro r w3 ⟨rfl, rfl⟩))
  go_ret
  exact ⟨rfl, HB1.out⟩

set_option maxRecDepth 100000 in
theorem law_pos_sm (f : Nat) (o0 : (FloatKind.f64.format.order f f != some .eq) = false) (o1 : (FloatKind.f64.format.order f 9218868437227405311 == some .gt) = false) (o2 : (FloatKind.f64.format.order f 18442240474082181119 == some .lt) = false)
    (o4 : (FloatKind.f64.format.order f 0 == some .lt) = false) (o5 : (FloatKind.f64.format.order f 0 == some .eq) = false) (o6 : (FloatKind.f64.format.order f 0 != some .eq) = true) (o7 : (FloatKind.f64.format.order f 4517329193108106637 == some .lt) = true) (w : World)
    (h : Calls Tryd.prog 5 #[.float .f64 f] w fun r w' => ∃ s, r = .returned (.string s) ∧ Good false true s ∧ Below w.heap.size w w') :
    Calls Tryd.prog 4 #[.float .f64 f] w fun e w' => e = .returned (.bool true) ∧ Below w.heap.size w w' := by
  have HZ := Lib.hid h
  clear h
  go_enter Tryd.func4, Tryd.ntmps4
  go_wp2_with (first | (go_at_call 5; refine HZ.out.mono ?_; rintro r wa ⟨s, rfl, ⟨hj, hh, hs, hc⟩, B⟩; have HJ := Lib.hid hj; have HH := Lib.hid hh; have HB1 := Lib.hid B; clear B hj hh) | (go_at_call 7; refine (HJ.out _).mono ?_; rintro r w2 ⟨rfl, rfl⟩) | (go_at_call 8; refine (HH.out _).mono ?_; rintro r w3 ⟨rfl, rfl⟩))
  go_ret
  exact ⟨rfl, HB1.out⟩

set_option maxRecDepth 100000 in
theorem law_pos_mid (f : Nat) (o0 : (FloatKind.f64.format.order f f != some .eq) = false) (o1 : (FloatKind.f64.format.order f 9218868437227405311 == some .gt) = false) (o2 : (FloatKind.f64.format.order f 18442240474082181119 == some .lt) = false)
    (o4 : (FloatKind.f64.format.order f 0 == some .lt) = false) (o5 : (FloatKind.f64.format.order f 0 == some .eq) = false) (o6 : (FloatKind.f64.format.order f 0 != some .eq) = true) (o7 : (FloatKind.f64.format.order f 4517329193108106637 == some .lt) = false) (o8 : (FloatKind.f64.format.order f 4921056587992461136 == some .gt || FloatKind.f64.format.order f 4921056587992461136 == some .eq) = false) (w : World)
    (h : Calls Tryd.prog 5 #[.float .f64 f] w fun r w' => ∃ s, r = .returned (.string s) ∧ Good false false s ∧ Below w.heap.size w w') :
    Calls Tryd.prog 4 #[.float .f64 f] w fun e w' => e = .returned (.bool true) ∧ Below w.heap.size w w' := by
  have HZ := Lib.hid h
  clear h
  go_enter Tryd.func4, Tryd.ntmps4
  go_wp2_with (first | (go_at_call 5; refine HZ.out.mono ?_; rintro r wa ⟨s, rfl, ⟨hj, hh, hs, hc⟩, B⟩; have HJ := Lib.hid hj; have HH := Lib.hid hh; have HB1 := Lib.hid B; clear B hj hh) | (go_at_call 7; refine (HJ.out _).mono ?_; rintro r w2 ⟨rfl, rfl⟩) | (go_at_call 8; refine (HH.out _).mono ?_; rintro r w3 ⟨rfl, rfl⟩))
  go_ret
  exact ⟨rfl, HB1.out⟩

set_option maxRecDepth 100000 in
theorem law_pos_gr (f : Nat) (o0 : (FloatKind.f64.format.order f f != some .eq) = false) (o1 : (FloatKind.f64.format.order f 9218868437227405311 == some .gt) = false) (o2 : (FloatKind.f64.format.order f 18442240474082181119 == some .lt) = false)
    (o4 : (FloatKind.f64.format.order f 0 == some .lt) = false) (o5 : (FloatKind.f64.format.order f 0 == some .eq) = false) (o6 : (FloatKind.f64.format.order f 0 != some .eq) = true) (o7 : (FloatKind.f64.format.order f 4517329193108106637 == some .lt) = false) (o8 : (FloatKind.f64.format.order f 4921056587992461136 == some .gt || FloatKind.f64.format.order f 4921056587992461136 == some .eq) = true) (w : World)
    (h : Calls Tryd.prog 5 #[.float .f64 f] w fun r w' => ∃ s, r = .returned (.string s) ∧ Good false true s ∧ Below w.heap.size w w') :
    Calls Tryd.prog 4 #[.float .f64 f] w fun e w' => e = .returned (.bool true) ∧ Below w.heap.size w w' := by
  have HZ := Lib.hid h
  clear h
  go_enter Tryd.func4, Tryd.ntmps4
  go_wp2_with (first | (go_at_call 5; refine HZ.out.mono ?_; rintro r wa ⟨s, rfl, ⟨hj, hh, hs, hc⟩, B⟩; have HJ := Lib.hid hj; have HH := Lib.hid hh; have HB1 := Lib.hid B; clear B hj hh) | (go_at_call 7; refine (HJ.out _).mono ?_; rintro r w2 ⟨rfl, rfl⟩) | (go_at_call 8; refine (HH.out _).mono ?_; rintro r w3 ⟨rfl, rfl⟩))
  go_ret
  exact ⟨rfl, HB1.out⟩

set_option maxRecDepth 100000 in
theorem law_neg_sm (f : Nat) (o0 : (FloatKind.f64.format.order f f != some .eq) = false) (o1 : (FloatKind.f64.format.order f 9218868437227405311 == some .gt) = false) (o2 : (FloatKind.f64.format.order f 18442240474082181119 == some .lt) = false)
    (a : Nat) (o4 : (FloatKind.f64.format.order f 0 == some .lt) = true) (o6 : (FloatKind.f64.format.order a 0 != some .eq) = true) (oN : ∀ w : World, (Op.unary UnOp.neg (.float .f64 f)).run Tryd.prog w = .ok (.float .f64 a) w) (o7 : (FloatKind.f64.format.order a 4517329193108106637 == some .lt) = true) (w : World)
    (h : Calls Tryd.prog 5 #[.float .f64 f] w fun r w' => ∃ s, r = .returned (.string s) ∧ Good true true s ∧ Below w.heap.size w w') :
    Calls Tryd.prog 4 #[.float .f64 f] w fun e w' => e = .returned (.bool true) ∧ Below w.heap.size w w' := by
  have HZ := Lib.hid h
  clear h
  go_enter Tryd.func4, Tryd.ntmps4
  go_wp2_with (first | (go_at_call 5; refine HZ.out.mono ?_; rintro r wa ⟨s, rfl, ⟨hj, hh, hs, hc⟩, B⟩; have HJ := Lib.hid hj; have HH := Lib.hid hh; have HB1 := Lib.hid B; clear B hj hh) | (go_at_call 7; refine (HJ.out _).mono ?_; rintro r w2 ⟨rfl, rfl⟩) | (go_at_call 8; refine (HH.out _).mono ?_; rintro r w3 ⟨rfl, rfl⟩))
  go_ret
  exact ⟨rfl, HB1.out⟩

set_option maxRecDepth 100000 in
theorem law_neg_mid (f : Nat) (o0 : (FloatKind.f64.format.order f f != some .eq) = false) (o1 : (FloatKind.f64.format.order f 9218868437227405311 == some .gt) = false) (o2 : (FloatKind.f64.format.order f 18442240474082181119 == some .lt) = false)
    (a : Nat) (o4 : (FloatKind.f64.format.order f 0 == some .lt) = true) (o6 : (FloatKind.f64.format.order a 0 != some .eq) = true) (oN : ∀ w : World, (Op.unary UnOp.neg (.float .f64 f)).run Tryd.prog w = .ok (.float .f64 a) w) (o7 : (FloatKind.f64.format.order a 4517329193108106637 == some .lt) = false) (o8 : (FloatKind.f64.format.order a 4921056587992461136 == some .gt || FloatKind.f64.format.order a 4921056587992461136 == some .eq) = false) (w : World)
    (h : Calls Tryd.prog 5 #[.float .f64 f] w fun r w' => ∃ s, r = .returned (.string s) ∧ Good true false s ∧ Below w.heap.size w w') :
    Calls Tryd.prog 4 #[.float .f64 f] w fun e w' => e = .returned (.bool true) ∧ Below w.heap.size w w' := by
  have HZ := Lib.hid h
  clear h
  go_enter Tryd.func4, Tryd.ntmps4
  go_wp2_with (first | (go_at_call 5; refine HZ.out.mono ?_; rintro r wa ⟨s, rfl, ⟨hj, hh, hs, hc⟩, B⟩; have HJ := Lib.hid hj; have HH := Lib.hid hh; have HB1 := Lib.hid B; clear B hj hh) | (go_at_call 7; refine (HJ.out _).mono ?_; rintro r w2 ⟨rfl, rfl⟩) | (go_at_call 8; refine (HH.out _).mono ?_; rintro r w3 ⟨rfl, rfl⟩))
  go_ret
  exact ⟨rfl, HB1.out⟩

set_option maxRecDepth 100000 in
theorem law_neg_gr (f : Nat) (o0 : (FloatKind.f64.format.order f f != some .eq) = false) (o1 : (FloatKind.f64.format.order f 9218868437227405311 == some .gt) = false) (o2 : (FloatKind.f64.format.order f 18442240474082181119 == some .lt) = false)
    (a : Nat) (o4 : (FloatKind.f64.format.order f 0 == some .lt) = true) (o6 : (FloatKind.f64.format.order a 0 != some .eq) = true) (oN : ∀ w : World, (Op.unary UnOp.neg (.float .f64 f)).run Tryd.prog w = .ok (.float .f64 a) w) (o7 : (FloatKind.f64.format.order a 4517329193108106637 == some .lt) = false) (o8 : (FloatKind.f64.format.order a 4921056587992461136 == some .gt || FloatKind.f64.format.order a 4921056587992461136 == some .eq) = true) (w : World)
    (h : Calls Tryd.prog 5 #[.float .f64 f] w fun r w' => ∃ s, r = .returned (.string s) ∧ Good true true s ∧ Below w.heap.size w w') :
    Calls Tryd.prog 4 #[.float .f64 f] w fun e w' => e = .returned (.bool true) ∧ Below w.heap.size w w' := by
  have HZ := Lib.hid h
  clear h
  go_enter Tryd.func4, Tryd.ntmps4
  go_wp2_with (first | (go_at_call 5; refine HZ.out.mono ?_; rintro r wa ⟨s, rfl, ⟨hj, hh, hs, hc⟩, B⟩; have HJ := Lib.hid hj; have HH := Lib.hid hh; have HB1 := Lib.hid B; clear B hj hh) | (go_at_call 7; refine (HJ.out _).mono ?_; rintro r w2 ⟨rfl, rfl⟩) | (go_at_call 8; refine (HH.out _).mono ?_; rintro r w3 ⟨rfl, rfl⟩))
  go_ret
  exact ⟨rfl, HB1.out⟩

end Go.Proofs.YtkincdcknmdboaaDoor
