/- ZZencodeFloat64 at a whole number gives what itoaB2 gives. -/
import Derived.Test.YtkincdcknmdboaaDoorEI
import Derived.Test.YtkincdcknmdboaaDoorZZ
import Derived.Test.YtkincdcknmdboaaDoorIZ
namespace Go.Proofs.YtkincdcknmdboaaDoor
open Go Go.RowKit
set_option linter.unusedVariables false
set_option linter.unusedSimpArgs false

theorem dgo_dec : ∀ (f u : Nat) (D : List UInt8), 0 < u → u < 10 ^ f → dgo f u D = Lib.decDigits u ++ D
  | 0, u, D, h, h' => by simp at h'; omega
  | f + 1, u, D, h, h' => by
    rw [dgo_step _ _ _ h]
    by_cases h9 : u < 10
    · rw [show u / 10 = 0 by omega, dgo_zero, Lib.decDigits, dif_pos h9, show u % 10 = u by omega]
      rfl
    · rw [dgo_dec f (u / 10) _ (by omega) (Nat.div_lt_of_lt_mul (by rw [Nat.pow_succ] at h'; rwa [Nat.mul_comm]))]
      conv => rhs; rw [Lib.decDigits, dif_neg h9]
      simp

theorem itoaL_text (n : Int) (h : n.natAbs ≤ 9007199254740992) : itoaL n = textOf n := by
  have hd : digs n.natAbs = Lib.decDigits n.natAbs := by
    unfold digs
    by_cases z : n.natAbs = 0
    · rw [z, if_pos rfl, Lib.decDigits, dif_pos (by decide)]; rfl
    · rw [if_neg z, dgo_dec 24 _ [] (by omega) (by omega), List.append_nil]
  unfold itoaL textOf
  rw [hd]
  by_cases c : n < 0
  · rw [if_pos c, if_pos (by simpa using c)]; rfl
  · rw [if_neg c, if_neg (by simpa using c)]; rfl

theorem strOf_mk (D : List UInt8) : strOf D = ⟨D.toArray⟩ := by
  have h := strOf_list D
  generalize strOf D = s at h
  cases s with
  | mk a =>
    have h2 : a.toList = D := h
    rw [← h2]

theorem zz_int (n : Int) (hn : n.natAbs ≤ 9007199254740992) (w : World) (hT : Lib.TabIs Tryd.prog w "internal/strconv.uint64pow10" .u64 Lib.pow10Tab) (hP : TabP w) :
    Calls Tryd.prog 5 #[.float .f64 (Flt.ofInt n)] w fun r w' => r = .returned (.string (itoaB n)) ∧ Below w.heap.size w w' := by
  have hTB : Lib.TabBelow Tryd.prog (w.heap.size + 1) (W1 w) "internal/strconv.uint64pow10" .u64 Lib.pow10Tab := fun w' h => (Lib.tabBelow_of_tabIs hT) w' ((W1_below w).trans (h.mono (Nat.le_succ _)))
  have hG := hP.lt
  have e : itoaB n = ⟨(textOf n).toArray⟩ := by unfold itoaB; rw [itoaL_text n hn, strOf_mk]
  rw [e]
  refine zz_any _ (textOf n) w ?_
  by_cases z : n = 0
  · subst z
    have e0 : Flt.ofInt 0 = 0 := by decide
    rw [e0]
    exact enc_int0 _ _ _ (Nat.lt_succ_self _) (W1_bk w) (W1_buf w)
  · exact enc_int1 n z hn _ _ _ (Nat.lt_succ_self _) (W1_bk w) (W1_buf w) hTB (hP.below (W1_below w) hG) (by omega)
end Go.Proofs.YtkincdcknmdboaaDoor
