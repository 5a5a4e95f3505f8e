/- The walk of encodeFloat64, format f. -/
import Derived.Test.YtkincdcknmdboaaDoorAF
import Derived.Test.YtkincdcknmdboaaDoorBW
namespace Go.Proofs.YtkincdcknmdboaaDoor
open Go.RowKit
set_option linter.unusedVariables false
set_option linter.unusedSimpArgs false

theorem inv_write (b : Nat) (w : World) : (method 228 29 (.pointer (some ⟨b, 0, none⟩)) "Write").run Tryd.prog w = .ok (82, .pointer (some ⟨b, 0, none⟩)) w := by kernel_rfl

set_option maxRecDepth 100000 in
theorem isnan_no (x : Nat) (h : (FloatKind.f64.format.order x x != some .eq) = false) (w : World) :
    Calls Tryd.prog 12 #[.float .f64 x] w fun r w' => r = .returned (.bool false) ∧ w = w' := by
  go_enter Tryd.func12, Tryd.ntmps12
  go_wp2_with fail
  go_ret
  exact ⟨rfl, rfl⟩

theorem mbits (x : Nat) (w : World) : (callFunc 16 #[.float .f64 x]).run Tryd.prog w = .ok (.value (.int .u64 x)) w := by kernel_rfl
theorem mfrom (x : Nat) (w : World) : (callFunc 15 #[.int .u64 x]).run Tryd.prog w = .ok (.value (.float .f64 x)) w := by kernel_rfl

set_option maxRecDepth 100000 in
theorem abs_any (x a : Nat) (h : bits .andNot .u64 x 9223372036854775808 = (a : Int)) (w : World) :
    Calls Tryd.prog 13 #[.float .f64 x] w fun r w' => r = .returned (.float .f64 a) ∧ w = w' := by
  have h1 := mbits x
  have h2 := mfrom a
  go_enter Tryd.func13, Tryd.ntmps13
  go_wp2_with fail
  go_ret
  exact ⟨rfl, rfl⟩

set_option maxHeartbeats 1000000 in
set_option maxRecDepth 100000 in
theorem enc_f (b E xi xm x a : Nat) (nz lt : Bool) (PL : List UInt8 → Prop) (w : World) (hbE : b < E)
    (hbk : w.heap[b]? = some (.cells #[.pointer none, .slice none 0 0] 32 (0, 0)))
    (hB : BufAt w E (.iface 29 (.pointer (some ⟨b, 0, none⟩))) [])
    (ha : bits .andNot .u64 x 9223372036854775808 = (a : Int))
    (o0 : (FloatKind.f64.format.order xi xi != some .eq) = false)
    (hmx : ∀ w : World, (Builtin.max_ #[23, 23] 23 #[.float .f64 xi, .float .f64 18442240474082181119]).run Tryd.prog w = .ok (.float .f64 xm) w)
    (hmn : ∀ w : World, (Builtin.min_ #[23, 23] 23 #[.float .f64 xm, .float .f64 9218868437227405311]).run Tryd.prog w = .ok (.float .f64 x) w)
    (o3 : (FloatKind.f64.format.order a 0 != some .eq) = nz) (o4 : (FloatKind.f64.format.order a 4517329193108106637 == some .lt) = lt) (o6 : (nz && lt) = false)
    (o5 : (FloatKind.f64.format.order a 4921056587992461136 == some .gt || FloatKind.f64.format.order a 4921056587992461136 == some .eq) = false)
    (HAF : ∀ w1, Below (b + 1) w w1 → BufAt w1 E (.iface 29 (.pointer (some ⟨b, 0, none⟩))) [] → b + 1 ≤ w1.heap.size → Calls Tryd.prog 14 #[.slice (some ⟨E, 1, none⟩) 0 64, .float .f64 x, .int .u8 102, .int .i64 (-1), .int .i64 64] w1 (BufPost (b + 1) E (.iface 29 (.pointer (some ⟨b, 0, none⟩))) PL w)) :
    Calls Tryd.prog 9 #[.pointer (some ⟨E, 0, none⟩), .float .f64 xi] w fun r w' => r = .returned (.tuple #[]) ∧ ∃ L, PL L ∧ Lib.IsBuilderF 32 5 b b (Lib.byteCells L) w' ∧ Below b w w' := by
  have HN := Lib.hid (isnan_no xi o0)
  have HA := Lib.hid (abs_any x a ha)
  have HI := inv_write b
  have HK := Lib.hid hbk
  have HB := Lib.hid hB
  have HF := Lib.hid HAF
  have hbl : b < w.heap.size := (Array.getElem?_eq_some_iff.1 hbk).1
  clear hbk hB HAF o0 ha
  have HBw : b + 1 ≤ w.heap.size := hbl
  cases nz
  · clear o6
    clear o4
    go_enter Tryd.func9, Tryd.ntmps9
    go_wp2_with (first | (go_at_call 12; refine (HN.out _).mono ?_; rintro r w2 ⟨rfl, rfl⟩) | (go_at_call 13; refine (HA.out _).mono ?_; rintro r w2 ⟨rfl, rfl⟩) | (go_at_call 14; refine (HF.out w (Below.refl _ _) HB.out HBw).mono ?_; rintro r w4 ⟨L, rfl, h1, h2, h3⟩; have HP := Lib.hid h1; have c4 := h2.2.1; have HB4 := Lib.hid h2; have HW4 := Lib.hid h3; have HR4 := Lib.hid (write_fresh b b E _ L w4 (Nat.le_refl _) (Nat.le_trans (Nat.le_of_lt hbl) h3.size) (by omega) ((h3.block b (Nat.lt_succ_self b)).trans HK.out) h2); clear h1 h2 h3) | (go_at_call 82; refine HR4.out.mono ?_; rintro r w5 ⟨⟨y, rfl⟩, h1, h2⟩; have HI5 := Lib.hid h1; have HW5 := Lib.hid h2; clear h1 h2))
    go_end0
    exact ⟨rfl, L, HP.out, HI5.out, (HW4.out.mono (Nat.le_succ b)).trans HW5.out⟩
  · cases lt
    · clear o6
      go_enter Tryd.func9, Tryd.ntmps9
      go_wp2_with (first | (go_at_call 12; refine (HN.out _).mono ?_; rintro r w2 ⟨rfl, rfl⟩) | (go_at_call 13; refine (HA.out _).mono ?_; rintro r w2 ⟨rfl, rfl⟩) | (go_at_call 14; refine (HF.out w (Below.refl _ _) HB.out HBw).mono ?_; rintro r w4 ⟨L, rfl, h1, h2, h3⟩; have HP := Lib.hid h1; have c4 := h2.2.1; have HB4 := Lib.hid h2; have HW4 := Lib.hid h3; have HR4 := Lib.hid (write_fresh b b E _ L w4 (Nat.le_refl _) (Nat.le_trans (Nat.le_of_lt hbl) h3.size) (by omega) ((h3.block b (Nat.lt_succ_self b)).trans HK.out) h2); clear h1 h2 h3) | (go_at_call 82; refine HR4.out.mono ?_; rintro r w5 ⟨⟨y, rfl⟩, h1, h2⟩; have HI5 := Lib.hid h1; have HW5 := Lib.hid h2; clear h1 h2))
      go_end0
      exact ⟨rfl, L, HP.out, HI5.out, (HW4.out.mono (Nat.le_succ b)).trans HW5.out⟩
    · simp at o6
end Go.Proofs.YtkincdcknmdboaaDoor
