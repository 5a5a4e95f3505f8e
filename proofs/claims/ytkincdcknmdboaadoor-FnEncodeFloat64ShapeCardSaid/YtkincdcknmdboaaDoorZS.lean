/- ZZencodeFloat64 at every double. -/
import Derived.Test.YtkincdcknmdboaaDoorEM
import Derived.Test.YtkincdcknmdboaaDoorZZ
namespace Go.Proofs.YtkincdcknmdboaaDoor
open Go Go.RowKit Flt
set_option linter.unusedVariables false
set_option linter.unusedSimpArgs false

set_option maxRecDepth 100000 in
theorem zz_pl (x : Nat) (PL : List UInt8 → Prop) (w : World)
    (h : Calls Tryd.prog 9 #[.pointer (some ⟨w.heap.size + 1, 0, none⟩), .float .f64 x] (W1 w) (EncPost w.heap.size PL (W1 w))) :
    Calls Tryd.prog 5 #[.float .f64 x] w fun r w' => ∃ L, r = .returned (.string ⟨L.toArray⟩) ∧ PL L ∧ Below w.heap.size w w' := by
  have H := Lib.hid h
  have hW := Lib.hid (W1_below w)
  have hS := W1_size w
  clear h
  go_enter Tryd.func5, Tryd.ntmps5
  go_wp2_with (first | (go_at_call 9; refine H.out.mono ?_; rintro r w2 ⟨rfl, L', h1, h2, h3⟩; have HI := Lib.hid h2; have HL := Lib.hid h1; have HW2 := Lib.hid h3; have h4 := h3.size; have HS := Lib.hid (Tryd.Builder_String_any_k w.heap.size w.heap.size L' w2 h2 (by omega)); clear h1 h2 h3) | (go_at_call 10; refine HS.out.mono ?_; rintro r w3 ⟨rfl, h5, h6, h7⟩; have HW3 := Lib.hid h6; clear h5 h6 h7))
  go_ret
  exact ⟨L', rfl, HL.out, (hW.out.trans HW2.out).trans HW3.out⟩

def ZZPost (PL : List UInt8 → Prop) (w : World) : Ending → World → Prop := fun r w' => ∃ L, r = .returned (.string ⟨L.toArray⟩) ∧ PL L ∧ Below w.heap.size w w'

theorem zz_fin (x a : Nat) (neg : Bool) (hx : x = (if neg then 9223372036854775808 else 0) + a) (h0 : 0 < a) (h1 : a < 9218868437227405312) (w : World) (hT : Lib.TabIs Tryd.prog w "internal/strconv.uint64pow10" .u64 Lib.pow10Tab) (hP : TabAll w) :
    Calls Tryd.prog 5 #[.float .f64 x] w (ZZPost (fun L => Shape neg (exOf a) L ∧ L.length ≤ 64) w) := by
  have hTB : Lib.TabBelow Tryd.prog (w.heap.size + 1) (W1 w) "internal/strconv.uint64pow10" .u64 Lib.pow10Tab := fun w' h => (Lib.tabBelow_of_tabIs hT) w' ((W1_below w).trans (h.mono (Nat.le_succ _)))
  have hG := hP.lt
  exact zz_pl x _ w (enc_fin x a neg hx h0 h1 _ _ _ (Nat.lt_succ_self _) (W1_bk w) (W1_buf w) hTB (hP.below (W1_below w) hG) (by omega))

theorem zz_zero (neg : Bool) (x : Nat) (hx : x = (if neg then 9223372036854775808 else 0)) (w : World) :
    Calls Tryd.prog 5 #[.float .f64 x] w (ZZPost (fun L => Shape neg false L ∧ L.length ≤ 64) w) :=
  zz_pl x _ w (enc_zero neg x hx _ _ _ (Nat.lt_succ_self _) (W1_bk w) (W1_buf w))

theorem zz_pinf (w : World) (hT : Lib.TabIs Tryd.prog w "internal/strconv.uint64pow10" .u64 Lib.pow10Tab) (hP : TabAll w) :
    Calls Tryd.prog 5 #[.float .f64 9218868437227405312] w (ZZPost (fun L => L = maxText) w) := by
  have hTB : Lib.TabBelow Tryd.prog (w.heap.size + 1) (W1 w) "internal/strconv.uint64pow10" .u64 Lib.pow10Tab := fun w' h => (Lib.tabBelow_of_tabIs hT) w' ((W1_below w).trans (h.mono (Nat.le_succ _)))
  have hG := hP.lt
  exact zz_pl _ _ w (enc_inf false 9218868437227405312 9218868437227405312 9218868437227405311 rfl (by decide +kernel) (fun w => by kernel_rfl) (fun w => by kernel_rfl) _ _ _ (Nat.lt_succ_self _) (W1_bk w) (W1_buf w) hTB (hP.below (W1_below w) hG) (by omega))

theorem zz_ninf (w : World) (hT : Lib.TabIs Tryd.prog w "internal/strconv.uint64pow10" .u64 Lib.pow10Tab) (hP : TabAll w) :
    Calls Tryd.prog 5 #[.float .f64 18442240474082181120] w (ZZPost (fun L => L = 45 :: maxText) w) := by
  have hTB : Lib.TabBelow Tryd.prog (w.heap.size + 1) (W1 w) "internal/strconv.uint64pow10" .u64 Lib.pow10Tab := fun w' h => (Lib.tabBelow_of_tabIs hT) w' ((W1_below w).trans (h.mono (Nat.le_succ _)))
  have hG := hP.lt
  exact zz_pl _ _ w (enc_inf true 18442240474082181120 18442240474082181119 18442240474082181119 rfl (by decide +kernel) (fun w => by kernel_rfl) (fun w => by kernel_rfl) _ _ _ (Nat.lt_succ_self _) (W1_bk w) (W1_buf w) hTB (hP.below (W1_below w) hG) (by omega))

theorem zz_nan (x : Nat) (o0 : (FloatKind.f64.format.order x x != some .eq) = true) (w : World) :
    Calls Tryd.prog 5 #[.float .f64 x] w (ZZPost (fun L => L = [110, 117, 108, 108]) w) :=
  zz_pl x _ w (enc_nan _ _ x _ (Nat.lt_succ_self _) (W1_bk w) (W1_buf w) o0)
end Go.Proofs.YtkincdcknmdboaaDoor
