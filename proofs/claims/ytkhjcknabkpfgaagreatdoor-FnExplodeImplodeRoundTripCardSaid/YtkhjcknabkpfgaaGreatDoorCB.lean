/- string(b) of a row of bytes that the call owns, nil or not. -/
import Derived.Laws.IdiomStrings
import Derived.Laws.OwnMore
import Derived.WalkKit
import Derived.Lib.UnsafeStr
import Derived.Lib.Hide
namespace Go.Proofs.YtkhjcknabkpfgaaGreatDoor
open Go.RowKit
set_option linter.unusedVariables false

theorem conv_owns {P : Program} (w : World) (src dst e : TypeId) (base : Nat) (v : Value) (l : List UInt8) (hs : P.underlying src = some (.slice e)) (he : P.underlying e = some (.int .u8)) (hd : P.underlying dst = some .string)
    (h : w.ownsRow base e 1 v l.length (Lib.byteCells l)) : (convert src dst v).run P w = .ok (.string ⟨l.toArray⟩) w := by
  rcases h.2 with ⟨rfl, h2⟩ | ⟨g, cap, cur, rfl, _⟩
  · obtain rfl : l = [] := List.length_eq_zero_iff.1 h2
    rw [run_convert_bytes_string w src dst e none 0 0 hs he hd]
    rfl
  · refine run_convert_bytes_back w src dst e ⟨g, 0, none⟩ cap l hs he hd fun j hj => ?_
    have := h.cellAt j (by omega)
    have e1 : (⟨g, 0, none⟩ : Addr).add j = ⟨g, j, none⟩ := by
      rcases Nat.eq_zero_or_pos j with z | z
      · subst z; simp [Addr.add]
      · simp [Addr.add, Nat.ne_of_gt z]
    rw [e1, this]
    simp [Lib.byteCells, hj]
end Go.Proofs.YtkhjcknabkpfgaaGreatDoor
