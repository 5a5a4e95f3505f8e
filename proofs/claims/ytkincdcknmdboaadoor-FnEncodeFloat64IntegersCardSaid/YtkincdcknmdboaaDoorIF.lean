/- The decimal text of a number as a function: its digits, written from the last one on; and how a sign is flipped in it. -/
import Derived.Lib.Hide
import Derived.WalkKit
import Derived.Laws.BytesString
import Derived.Laws.Cells
namespace Go.Proofs.YtkincdcknmdboaaDoor
open Go
set_option linter.unusedVariables false

/-- write the digits of u ahead of D, at most f of them -/
def dgo : Nat → Nat → List UInt8 → List UInt8
  | 0, _, D => D
  | f + 1, u, D => if u = 0 then D else dgo f (u / 10) (UInt8.ofNat (48 + u % 10) :: D)

/-- the digits of N -/
def digs (N : Nat) : List UInt8 := if N = 0 then [48] else dgo 24 N []
/-- the decimal text of n, as a list -/
def itoaL (n : Int) : List UInt8 := if n < 0 then 45 :: digs n.natAbs else digs n.natAbs

theorem dgo_zero (f : Nat) (D : List UInt8) : dgo f 0 D = D := by
  cases f <;> simp [dgo]
theorem dgo_step (f u : Nat) (D : List UInt8) (h : 0 < u) : dgo (f + 1) u D = dgo f (u / 10) (UInt8.ofNat (48 + u % 10) :: D) := by
  show (if u = 0 then D else _) = _
  rw [if_neg (by omega)]
/-- more room writes the same -/
theorem dgo_more : ∀ (f u : Nat) (D : List UInt8), u < 10 ^ f → ∀ g, f ≤ g → dgo g u D = dgo f u D
  | 0, u, D, h, g, hg => by
    have : u = 0 := by simpa using h
    subst this
    rw [dgo_zero, dgo_zero]
  | f + 1, u, D, h, g, hg => by
    obtain ⟨g, rfl⟩ : ∃ m, g = m + 1 := ⟨g - 1, by omega⟩
    rcases Nat.eq_zero_or_pos u with z | z
    · subst z; rw [dgo_zero, dgo_zero]
    · rw [dgo_step _ _ _ z, dgo_step _ _ _ z]
      exact dgo_more f (u / 10) _ (Nat.div_lt_of_lt_mul (by rw [Nat.pow_succ] at h; rwa [Nat.mul_comm])) g (by omega)

theorem dgo_len : ∀ (f u : Nat) (D : List UInt8), u < 10 ^ f → (dgo f u D).length ≤ D.length + f
  | 0, u, D, h => by simp [dgo]
  | f + 1, u, D, h => by
    rcases Nat.eq_zero_or_pos u with z | z
    · subst z; rw [dgo_zero]; omega
    · rw [dgo_step _ _ _ z]
      have := dgo_len f (u / 10) (UInt8.ofNat (48 + u % 10) :: D) (Nat.div_lt_of_lt_mul (by rw [Nat.pow_succ] at h; rwa [Nat.mul_comm]))
      simp at this ⊢
      omega

theorem digit_nat (d : Nat) (h : d < 10) : (UInt8.ofNat (48 + d)).toNat = 48 + d := by
  rw [UInt8.toNat_ofNat']; omega

/-- the digits of a number above nought begin with one that is not nought -/
theorem dgo_head : ∀ (f u : Nat) (D : List UInt8), 0 < u → u < 10 ^ f → ∃ c r, dgo f u D = c :: r ∧ 49 ≤ c.toNat ∧ c.toNat ≤ 57
  | 0, u, D, h, h' => by simp at h'; omega
  | f + 1, u, D, h, h' => by
    rw [dgo_step _ _ _ h]
    rcases Nat.eq_zero_or_pos (u / 10) with z | z
    · rw [z, dgo_zero]
      have := digit_nat (u % 10) (by omega)
      exact ⟨_, D, rfl, by rw [this]; omega, by rw [this]; omega⟩
    · exact dgo_head f (u / 10) _ z (Nat.div_lt_of_lt_mul (by rw [Nat.pow_succ] at h'; rwa [Nat.mul_comm]))

theorem digs_head (N : Nat) (h : 0 < N) (h' : N < 10 ^ 24) : ∃ c r, digs N = c :: r ∧ 49 ≤ c.toNat ∧ c.toNat ≤ 57 := by
  unfold digs
  rw [if_neg (by omega)]
  exact dgo_head 24 N [] h h'
theorem digs_len (N : Nat) (h' : N < 10 ^ 24) : (digs N).length ≤ 24 := by
  unfold digs
  split
  · simp
  · have := dgo_len 24 N [] h'
    simpa using this
theorem digs_pos (N : Nat) (h' : N < 10 ^ 24) : 0 < (digs N).length := by
  rcases Nat.eq_zero_or_pos N with z | z
  · subst z; decide
  · obtain ⟨c, r, e, _⟩ := digs_head N z h'
    rw [e]; simp

theorem pushes (D : List UInt8) : ∀ s : ByteArray, ((D.map fun c => (c.toNat : Int)).foldl (fun r n => r.push (UInt8.ofNat n.toNat)) s).data.toList = s.data.toList ++ D := by
  induction D with
  | nil => intro s; simp
  | cons c D ih =>
    intro s
    simp only [List.map_cons, List.foldl_cons]
    rw [ih]
    simp [ByteArray.push]

/-- the string of a row of bytes -/
def strOf (D : List UInt8) : ByteArray := (D.map fun c => (c.toNat : Int)).foldl (fun r n => r.push (UInt8.ofNat n.toNat)) ByteArray.empty
theorem strOf_list (D : List UInt8) : (strOf D).data.toList = D := by unfold strOf; rw [pushes]; rfl
theorem size_list (s : ByteArray) : s.size = s.data.toList.length := by cases s; simp [ByteArray.size]
theorem strOf_size (D : List UInt8) : (strOf D).size = D.length := by rw [size_list, strOf_list]
theorem ba_ext {s t : ByteArray} (h : s.data.toList = t.data.toList) : s = t := by
  cases s; cases t; congr 1; exact Array.ext' h
theorem strOf_eta (s : ByteArray) : strOf s.data.toList = s := ba_ext (strOf_list _)
theorem get_list (s : ByteArray) (k : Nat) (h : k < s.size) : (s[k]'h) = s.data.toList.getD k 0 := by
  have hk : k < s.data.toList.length := by rw [← size_list]; exact h
  rw [List.getD_eq_getElem?_getD, List.getElem?_eq_getElem hk]
  cases s
  rfl
theorem ba_append (s t : ByteArray) : (s ++ t).data.toList = s.data.toList ++ t.data.toList := by
  simp [ByteArray.data_append]
theorem ba_extract (s : ByteArray) (a b : Nat) : (s.extract a b).data.toList = (s.data.toList.take b).drop a := by
  rw [ByteArray.data_extract, Array.toList_extract]
  simp [List.drop_take]

/-- the decimal text of n -/
def itoaB (n : Int) : ByteArray := strOf (itoaL n)
theorem itoaB_list (n : Int) : (itoaB n).data.toList = itoaL n := strOf_list _
theorem itoaL_len (n : Int) (h : n.natAbs < 10 ^ 24) : (itoaL n).length ≤ 25 ∧ 0 < (itoaL n).length := by
  have h1 := digs_len n.natAbs h
  have h2 := digs_pos n.natAbs h
  unfold itoaL
  split
  · simp; omega
  · omega

/-- from cell i on the cells hold digits, and the rest of them is still to be written -/
def ItoaInv (L N u i : Nat) (C : Array Value) : Prop :=
  ∃ D : List UInt8, i + D.length = L ∧ u < 10 ^ i ∧ dgo i u D = dgo L N [] ∧ ∀ j, j < D.length → C[i + j]? = some (.int .u8 ((D.getD j 0).toNat : Int))

theorem itoa_start (L N : Nat) (C : Array Value) (h : N < 10 ^ L) : ItoaInv L N N L C := ⟨[], by simp, h, rfl, by simp⟩
theorem itoa_pos {L N u i : Nat} {C : Array Value} (h : ItoaInv L N u i C) (hu : 0 < u) : 1 ≤ i := by
  obtain ⟨D, _, h2, _⟩ := h
  rcases Nat.eq_zero_or_pos i with z | z
  · rw [z] at h2; simp at h2; omega
  · exact z
theorem itoa_step {L N u m : Nat} {C : Array Value} (h : ItoaInv L N u (m + 1) C) (hu : 0 < u) (hC : m < C.size) : ItoaInv L N (u / 10) m (C.setIfInBounds m (.int .u8 (48 + (u : Int) % 10))) := by
  obtain ⟨D, h1, h2, h3, h5⟩ := h
  have hd := digit_nat (u % 10) (Nat.mod_lt _ (by decide))
  refine ⟨UInt8.ofNat (48 + u % 10) :: D, by simp; omega, ?_, ?_, ?_⟩
  · rw [Nat.pow_succ] at h2
    exact Nat.div_lt_of_lt_mul (by rw [Nat.mul_comm]; exact h2)
  · rw [← h3, dgo_step _ _ _ hu]
  · intro j hj
    cases j with
    | zero =>
      simp only [Nat.add_zero, List.getD_cons_zero, hd]
      rw [Array.getElem?_setIfInBounds_self_of_lt hC]
      congr 2
    | succ j =>
      rw [Array.getElem?_setIfInBounds_ne (by omega)]
      have := h5 j (by simp at hj; omega)
      rw [show m + (j + 1) = m + 1 + j by omega, this]
      simp
theorem itoa_end {L N i : Nat} {C : Array Value} (h : ItoaInv L N 0 i C) :
    i + (dgo L N []).length = L ∧ ∀ j, j < (dgo L N []).length → C[i + j]? = some (.int .u8 (((dgo L N []).getD j 0).toNat : Int)) := by
  obtain ⟨D, h1, h2, h3, h5⟩ := h
  rw [dgo_zero] at h3
  subst h3
  exact ⟨h1, h5⟩

theorem conv_row {P : Program} (w : World) (src dst e : TypeId) (b i : Nat) (D : List UInt8) (cap : Nat) (hs : P.underlying src = some (.slice e)) (he : P.underlying e = some (.int .u8)) (hd : P.underlying dst = some .string)
    (hc : ∀ j, j < D.length → w.cell? ⟨b, i + j, none⟩ = some (.int .u8 ((D.getD j 0).toNat : Int))) :
    (convert src dst (.slice (some ⟨b, i, none⟩) D.length cap)).run P w = .ok (.string (strOf D)) w := by
  rw [run_convert_bytes_string w src dst e _ _ _ hs he hd]
  refine run_bytesToString w _ _ _ (D.map fun c => (c.toNat : Int)) ?_
  have := run_loadCells_list (P := P) (w := w) ⟨b, i, none⟩ ((D.map fun c => (c.toNat : Int)).map (Value.int .u8)) ?_
  · simpa using this
  · intro j v hv
    have hj : j < D.length := by
      have := (List.getElem?_eq_some_iff.1 hv).1
      simpa using this
    have := hc j hj
    rw [List.getElem?_map, List.getElem?_map] at hv
    rw [List.getD_eq_getElem?_getD] at this
    rw [List.getElem?_eq_getElem hj] at hv this
    simp only [Option.map_some, Option.some.injEq, Option.getD_some] at hv this
    rw [← hv]
    rcases Nat.eq_zero_or_pos j with z | z
    · subst z; simpa [Addr.add] using this
    · simpa [Addr.add, Nat.ne_of_gt z] using this

/-! ### flipping the sign -/
theorem itoa_flip_neg (n : Int) (h : n < 0) : itoaL n = 45 :: itoaL (-n) := by
  unfold itoaL
  rw [if_pos h, if_neg (by omega), Int.natAbs_neg]
theorem itoa_pos_head (n : Int) (h : 0 < n) (h' : n.natAbs < 10 ^ 24) : ∃ c r, itoaL n = c :: r ∧ 49 ≤ c.toNat ∧ c.toNat ≤ 57 := by
  unfold itoaL
  rw [if_neg (by omega)]
  exact digs_head _ (by omega) h'
end Go.Proofs.YtkincdcknmdboaaDoor
