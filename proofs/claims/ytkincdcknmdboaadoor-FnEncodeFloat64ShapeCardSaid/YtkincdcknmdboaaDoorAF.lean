/- The walks of AppendFloat and of ftoa64 at a zero. -/
import Derived.Test.YtkincdcknmdboaaDoorFT
namespace Go.Proofs.YtkincdcknmdboaaDoor
open Go.RowKit
set_option linter.unusedVariables false
set_option linter.unusedSimpArgs false

def BufPost (B E : Nat) (V : Value) (PL : List UInt8 → Prop) (w0 : World) : Ending → World → Prop := fun r w' => ∃ L, r = .returned (.slice (some ⟨E, 1, none⟩) (L.length : Nat) 64) ∧ PL L ∧ BufAt w' E V L ∧ Below B w0 w'

set_option maxRecDepth 100000 in
theorem app_in (B E x fc : Nat) (V : Value) (PL : List UInt8 → Prop) (w0 w : World)
    (h : Calls Tryd.prog 19 #[.slice (some ⟨E, 1, none⟩) 0 64, .float .f64 x, .int .u8 fc, .int .i64 (-1)] w (BufPost B E V PL w0)) :
    Calls Tryd.prog 17 #[.slice (some ⟨E, 1, none⟩) 0 64, .float .f64 x, .int .u8 fc, .int .i64 (-1), .int .i64 64] w (BufPost B E V PL w0) := by
  have H := Lib.hid h
  clear h
  go_enter Tryd.func17, Tryd.ntmps17
  go_wp2_with (first | (go_at_call 19; refine H.out.mono ?_; rintro r w6 ⟨L, rfl, h1, h2, h3⟩; have HP6 := Lib.hid h1; have HB6 := Lib.hid h2; have HW6 := Lib.hid h3; clear h1 h2 h3))
  go_ret
  exact ⟨L, rfl, HP6.out, HB6.out, HW6.out⟩

set_option maxRecDepth 100000 in
theorem app_out (B E x fc : Nat) (V : Value) (PL : List UInt8 → Prop) (w0 w : World)
    (h : Calls Tryd.prog 19 #[.slice (some ⟨E, 1, none⟩) 0 64, .float .f64 x, .int .u8 fc, .int .i64 (-1)] w (BufPost B E V PL w0)) :
    Calls Tryd.prog 14 #[.slice (some ⟨E, 1, none⟩) 0 64, .float .f64 x, .int .u8 fc, .int .i64 (-1), .int .i64 64] w (BufPost B E V PL w0) := by
  have H := Lib.hid (app_in B E x fc V PL w0 w h)
  clear h
  go_enter Tryd.func14, Tryd.ntmps14
  go_wp2_with (first | (go_at_call 17; refine H.out.mono ?_; rintro r w6 ⟨L, rfl, h1, h2, h3⟩; have HP6 := Lib.hid h1; have HB6 := Lib.hid h2; have HW6 := Lib.hid h3; clear h1 h2 h3))
  go_ret
  exact ⟨L, rfl, HP6.out, HB6.out, HW6.out⟩

set_option maxRecDepth 100000 in
theorem ft_zero (B E x sg y : Nat) (neg : Bool) (V : Value) (PL : List UInt8 → Prop) (hPL : PL ((if neg then [45] else []) ++ [48])) (w0 w : World) (hP : Parts x sg y 0 0 neg) (hB : BufAt w E V []) (hw : Below B w0 w) (hBE : B ≤ E) (hBw : B ≤ w.heap.size) :
    Calls Tryd.prog 19 #[.slice (some ⟨E, 1, none⟩) 0 64, .float .f64 x, .int .u8 102, .int .i64 (-1)] w (BufPost B E V PL w0) := by
  obtain ⟨b1, b2, b3, b4, b5, b6, b7, b8, b9, b0⟩ := hP
  have hfb := fbits x
  have HF : Hid (∀ n, Calls Tryd.prog 24 #[.slice (some ⟨E, 1, none⟩) 0 64, .bool neg, .slice none 0 0, .int .i64 0, .int .i64 0, .int .i64 (-1), .int .u8 102, .bool true] (w.drewN n) fun res w' => ∃ L : List UInt8, res = .returned (.slice (some ⟨E, 1, none⟩) L.length 64) ∧ PL L ∧ BufAt w' E V L ∧ Below B w0 w') := Lib.hid (fun n => by
    have h := ff_zero E 0 0 0 V neg (w.drewN n) hB
    refine h.mono ?_
    rintro r w' ⟨L, h1, h2, h3, h4⟩
    exact ⟨L, h1, h2 ▸ hPL, h3, (below_drewN hw n).trans (below_of_grown h4 hBE hBw)⟩)
  clear hB hw hPL
  go_enter Tryd.func19, Tryd.ntmps19
  go_wp2_with fail
  go_quiet (fail)
  go_wp2_with (first | (go_at_call 24; refine (HF.out _).mono ?_; rintro r w6 ⟨L, rfl, h1, h2, h3⟩; have HP6 := Lib.hid h1; have HB6 := Lib.hid h2; have HW6 := Lib.hid h3; clear h1 h2 h3))
  go_ret
  exact ⟨L, rfl, HP6.out, HB6.out, HW6.out⟩
end Go.Proofs.YtkincdcknmdboaaDoor
