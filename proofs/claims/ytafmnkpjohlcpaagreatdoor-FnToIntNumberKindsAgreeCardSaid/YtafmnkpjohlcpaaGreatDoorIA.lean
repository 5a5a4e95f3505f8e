/- The plain side of writing a number's digits from the last one on into twenty cells. -/
import Derived.Lib.Hide
import Derived.WalkKit
import Derived.Laws.BytesString
import Derived.Laws.Cells
import Derived.Test.YtafmnkpjohlcpaaGreatDoorPN
namespace Go.Proofs.YtafmnkpjohlcpaaGreatDoor
open Go
set_option linter.unusedVariables false

/-- from cell i on the cells hold the digits that with u ahead of them are N -/
def ItoaInv (L N u i : Nat) (C : Array Value) : Prop :=
  ∃ D : List UInt8, i + D.length = L ∧ u < 10 ^ i ∧ dval u D = N ∧ (∀ c ∈ D, dig c) ∧ ∀ j, j < D.length → C[i + j]? = some (.int .u8 ((D.getD j 0).toNat : Int))

theorem itoa_start (L N : Nat) (C : Array Value) (h : N < 10 ^ L) : ItoaInv L N N L C :=
  ⟨[], by simp, h, rfl, by simp, by simp⟩

theorem itoa_pos {L N u i : Nat} {C : Array Value} (h : ItoaInv L N u i C) (hu : 0 < u) : 1 ≤ i := by
  obtain ⟨D, _, h2, _⟩ := h
  rcases Nat.eq_zero_or_pos i with z | z
  · rw [z] at h2; simp at h2; omega
  · exact z

theorem digit_toNat (d : Nat) (h : d < 10) : (UInt8.ofNat (48 + d)).toNat = 48 + d := by
  rw [UInt8.toNat_ofNat']; omega

theorem itoa_step {L N u m : Nat} {C : Array Value} (h : ItoaInv L N u (m + 1) C) (hC : m < C.size) : ItoaInv L N (u / 10) m (C.setIfInBounds m (.int .u8 (48 + (u : Int) % 10))) := by
  obtain ⟨D, h1, h2, h3, h4, h5⟩ := h
  have hd := digit_toNat (u % 10) (Nat.mod_lt _ (by decide))
  refine ⟨UInt8.ofNat (48 + u % 10) :: D, by simp; omega, ?_, ?_, ?_, ?_⟩
  · rw [Nat.pow_succ] at h2
    exact Nat.div_lt_of_lt_mul (by rw [Nat.mul_comm]; exact h2)
  · unfold dval
    rw [hd, ← h3]
    congr 1
    omega
  · intro c hc
    rcases List.mem_cons.1 hc with rfl | hc
    · unfold dig; rw [hd]; omega
    · exact h4 c hc
  · intro j hj
    cases j with
    | zero =>
      simp only [Nat.add_zero, List.getD_cons_zero, hd]
      rw [Array.getElem?_setIfInBounds_self_of_lt hC]
      congr 2
    | succ j =>
      rw [Array.getElem?_setIfInBounds_ne (by omega)]
      have := h5 j (by simp at hj; omega)
      rw [show m + (j + 1) = m + 1 + j by omega, this]
      simp

theorem itoa_end {L N i : Nat} {C : Array Value} (h : ItoaInv L N 0 i C) (hN : 0 < N) :
    ∃ D : List UInt8, D ≠ [] ∧ i + D.length = L ∧ dval 0 D = N ∧ (∀ c ∈ D, dig c) ∧ ∀ j, j < D.length → C[i + j]? = some (.int .u8 ((D.getD j 0).toNat : Int)) := by
  obtain ⟨D, h⟩ := h
  refine ⟨D, ?_, h.1, h.2.2.1, h.2.2.2⟩
  intro hD
  have h3 := h.2.2.1
  rw [hD] at h3
  unfold dval at h3
  omega

theorem pushes (D : List UInt8) : ∀ s : ByteArray, ((D.map fun c => (c.toNat : Int)).foldl (fun r n => r.push (UInt8.ofNat n.toNat)) s).data.toList = s.data.toList ++ D := by
  induction D with
  | nil => intro s; simp
  | cons c D ih =>
    intro s
    simp only [List.map_cons, List.foldl_cons]
    rw [ih]
    simp [ByteArray.push]

/-- the string of a row of bytes -/
def strOf (D : List UInt8) : ByteArray := (D.map fun c => (c.toNat : Int)).foldl (fun r n => r.push (UInt8.ofNat n.toNat)) ByteArray.empty
theorem strOf_list (D : List UInt8) : (strOf D).data.toList = D := by unfold strOf; rw [pushes]; rfl
theorem size_list (s : ByteArray) : s.size = s.data.toList.length := by cases s; simp [ByteArray.size]

theorem conv_row {P : Program} (w : World) (src dst e : TypeId) (b i : Nat) (D : List UInt8) (cap : Nat) (hs : P.underlying src = some (.slice e)) (he : P.underlying e = some (.int .u8)) (hd : P.underlying dst = some .string)
    (hc : ∀ j, j < D.length → w.cell? ⟨b, i + j, none⟩ = some (.int .u8 ((D.getD j 0).toNat : Int))) :
    (convert src dst (.slice (some ⟨b, i, none⟩) D.length cap)).run P w = .ok (.string (strOf D)) w := by
  rw [run_convert_bytes_string w src dst e _ _ _ hs he hd]
  refine run_bytesToString w _ _ _ (D.map fun c => (c.toNat : Int)) ?_
  have := run_loadCells_list (P := P) (w := w) ⟨b, i, none⟩ ((D.map fun c => (c.toNat : Int)).map (Value.int .u8)) ?_
  · simpa using this
  · intro j v hv
    have hj : j < D.length := by
      have := (List.getElem?_eq_some_iff.1 hv).1
      simpa using this
    have := hc j hj
    rw [List.getElem?_map, List.getElem?_map] at hv
    rw [List.getD_eq_getElem?_getD] at this
    rw [List.getElem?_eq_getElem hj] at hv this
    simp only [Option.map_some, Option.some.injEq, Option.getD_some] at hv this
    rw [← hv]
    rcases Nat.eq_zero_or_pos j with z | z
    · subst z; simpa [Addr.add] using this
    · simpa [Addr.add, Nat.ne_of_gt z] using this
end Go.Proofs.YtafmnkpjohlcpaaGreatDoor
