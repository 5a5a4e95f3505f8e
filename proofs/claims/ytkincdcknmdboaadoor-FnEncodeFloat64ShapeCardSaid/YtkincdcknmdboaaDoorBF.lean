/- A buffer of 64 bytes that lies in a block of the call's own, one cell in: appends that fit. -/
import Derived.ArgAppend
import Derived.OwnWalk
import Derived.Maps.AppendAt
import Derived.Test.YtkincdcknmdboaaDoorSF
namespace Go.Proofs.YtkincdcknmdboaaDoor
open Go.RowKit
set_option linter.unusedVariables false

/-- the cells of the block E: the first one holds V, the next ones the bytes L; 64 may be written -/
def BufAt (w : World) (E : Nat) (V : Value) (L : List UInt8) : Prop :=
  L.length ≤ 64 ∧ w.cell? ⟨E, 0, none⟩ = some V ∧ (∀ j, j < 64 → (w.cell? ⟨E, 1 + j, none⟩).isSome = true ∧ w.frozen? ⟨E, 1 + j, none⟩ = false) ∧
    ∀ j, j < L.length → w.cell? ⟨E, 1 + j, none⟩ = some (.int .u8 ((L.getD j 0).toNat : Int))

theorem grown_setCell (w : World) (E o : Nat) (v : Value) : w.grownBy (w.setCell ⟨E, o, none⟩ v) (some E) :=
  ⟨rfl, rfl, rfl, by simp, fun k _ hk => heap_setCell_other w ⟨E, o, none⟩ k v (fun e => hk (by simp [e]))⟩

theorem grown_setCells (E : Nat) : ∀ (vs : List Value) (o : Nat) (w : World), w.grownBy (w.setCells E o vs) (some E)
  | [], _, w => World.grownBy.refl w _
  | v :: vs, o, w => (grown_setCell w E o v).trans (grown_setCells E vs (o + 1) (w.setCell ⟨E, o, none⟩ v))

theorem BufAt.grown {w w' : World} {E : Nat} {V : Value} {L : List UInt8} (h : BufAt w E V L) (hg : w.grownBy w' none) : BufAt w' E V L := by
  obtain ⟨h1, h2, h3, h4⟩ := h
  have hlt : E < w.heap.size := World.block_lt_of_cell? w _ h2
  have hb : w'.heap[E]? = w.heap[E]? := hg.block E hlt (by simp)
  have hc : ∀ i, w'.cell? ⟨E, i, none⟩ = w.cell? ⟨E, i, none⟩ := fun i => World.cell?_of_block hb
  have hf : ∀ i, w'.frozen? ⟨E, i, none⟩ = w.frozen? ⟨E, i, none⟩ := fun i => World.frozen?_of_block hb
  exact ⟨h1, by rw [hc, h2], fun j hj => by rw [hc, hf]; exact h3 j hj, fun j hj => by rw [hc]; exact h4 j hj⟩

theorem BufAt.app {w : World} {E : Nat} {V : Value} {L : List UInt8} (h : BufAt w E V L) (N : List UInt8) (hN : L.length + N.length ≤ 64) :
    BufAt (w.setCells E (1 + L.length) (Lib.byteCells N)) E V (L ++ N) := by
  obtain ⟨h1, h2, h3, h4⟩ := h
  have hl : (Lib.byteCells N).length = N.length := Lib.byteCells_length N
  have out := fun (i : Nat) (hi : i < 1 + L.length ∨ 1 + L.length + N.length ≤ i) => World.cell?_setCells_out E (Lib.byteCells N) (1 + L.length) w ⟨E, i, none⟩ (fun _ _ => by rw [hl]; exact hi)
  have inn := World.cell?_setCells_in E (Lib.byteCells N) (1 + L.length) w (fun j hj => by rw [hl] at hj; rw [show 1 + L.length + j = 1 + (L.length + j) by omega]; exact (h3 _ (by omega)).1)
  refine ⟨by rw [List.length_append]; exact hN, by rw [out 0 (by omega)]; exact h2, fun j hj => ⟨?_, by rw [World.frozen?_setCells]; exact (h3 j hj).2⟩, fun j hj => ?_⟩
  · by_cases q : j < L.length ∨ L.length + N.length ≤ j
    · rw [out (1 + j) (by omega)]; exact (h3 j hj).1
    · have := inn (j - L.length) (by rw [hl]; omega)
      rw [show 1 + L.length + (j - L.length) = 1 + j by omega] at this
      rw [this]; rfl
  · rw [List.length_append] at hj
    by_cases q : j < L.length
    · rw [out (1 + j) (by omega), h4 j q]
      simp [List.getD, List.getElem?_append_left q]
    · have := inn (j - L.length) (by rw [hl]; omega)
      rw [show 1 + L.length + (j - L.length) = 1 + j by omega] at this
      rw [this]
      have hj2 : j - L.length < N.length := by omega
      simp [Lib.byteCells, List.getD, List.getElem?_append_right (show L.length ≤ j by omega), hj2]

theorem byteCells_at (N : List UInt8) (j : Nat) (u : Value) (h : (Lib.byteCells N)[j]? = some u) : j < N.length ∧ u = .int .u8 ((N.getD j 0).toNat : Int) := by
  have hj : j < (Lib.byteCells N).length := (List.getElem?_eq_some_iff.1 h).1
  rw [Lib.byteCells_length] at hj
  refine ⟨hj, ?_⟩
  simp [Lib.byteCells, hj] at h
  simp [List.getD, hj, ← h]

theorem info_u8 : (Tryd.prog.info? 5).map (fun i => (i.zero, i.size, i.bytes)) = some (some (.int .u8 0), 1, 1) := by kernel_rfl

/-- append of some bytes onto the buffer -/
theorem append_buf (w : World) {ops : Array Oper} {rest : List Oper} {o : Oper} {a : Act} {Q : Exit → Act → World → Prop} (hgd : o.guard = none) (s x : Operand)
    (ho : o.op = .call { callee := .builtin .append, args := #[s, x], argTypes := #[30, 30] })
    (E : Nat) (V : Value) (L N : List UInt8) (n : Nat) (hn : L.length = n) (hs : a.eval s = .slice (some ⟨E, 1, none⟩) n 64) (hB : BufAt w E V L) (ad : Addr) (m c : Nat) (hm : N.length = m) (hx : a.eval x = .slice (some ad) m c)
    (hc : ∀ j, j < m → w.cell? (ad.add j) = some (.int .u8 ((N.getD j 0).toNat : Int))) (h64 : n + m ≤ 64)
    (h : ∀ w', BufAt w' E V (L ++ N) → w.grownBy w' (some E) → wpList Tryd.prog ops Q rest (a.put o.dst (.slice (some ⟨E, 1, none⟩) (n + m) 64)) w') : wpList Tryd.prog ops Q (o :: rest) a w := by
  obtain ⟨i, hi, hzz⟩ := Option.map_eq_some_iff.1 info_u8
  simp only [Prod.mk.injEq] at hzz
  obtain ⟨hz, hsz, hby⟩ := hzz
  subst hn hm
  have hl : (Lib.byteCells N).length = N.length := Lib.byteCells_length N
  have hr := run_append_room_cells (P := Tryd.prog) w 30 o.type 5 i Tryd.underlying30 hi E 1 L.length 64 ad N.length c (Lib.byteCells N) (by rw [hsz, hl, Nat.mul_one])
    (fun j u hu => by obtain ⟨hj, rfl⟩ := byteCells_at N j u hu; exact hc j hj) (fun u hu => by simp only [Lib.byteCells, List.mem_map] at hu; obtain ⟨b, _, rfl⟩ := hu; rfl) h64
    (fun j hj => by rw [hl] at hj; rw [hsz, Nat.mul_one, show 1 + L.length + j = 1 + (L.length + j) by omega]; exact (hB.2.2.1 _ (by omega)).1)
    (fun j hj => by rw [hl] at hj; rw [hsz, Nat.mul_one, show 1 + L.length + j = 1 + (L.length + j) by omega]; exact (hB.2.2.1 _ (by omega)).2)
  rw [hsz, Nat.mul_one] at hr
  refine wpList_plain hgd fun K hK => ?_
  unfold Oper.wp execOp
  simp only [ho, resolve, invoke, builtin, Sem.run_bind, Sem.run_pure, Result.andThen_ok, List.map_toArray, List.map_cons, List.map_nil, hs, hx, hr]
  exact hK _ _ (h _ (hB.app N h64) (grown_setCells E _ _ w))

/-- append of one byte that the translation lays into a block of its own -/
theorem append_byte (w0 : World) {ops : Array Oper} {rest : List Oper} {o : Oper} {a : Act} {Q : Exit → Act → World → Prop} (hgd : o.guard = none) (s x : Operand)
    (ho : o.op = .call { callee := .builtin .append, args := #[s, x], argTypes := #[30, 30] })
    (E : Nat) (V : Value) (L : List UInt8) (b : UInt8) (z : Int) (hz : z = (b.toNat : Int)) (n : Nat) (hn : L.length = n) (hs : a.eval s = .slice (some ⟨E, 1, none⟩) n 64) (hB : BufAt w0 E V L) (hx : a.eval x = .slice (some ⟨w0.heap.size, 0, none⟩) 1 1)
    (h64 : n + 1 ≤ 64)
    (h : ∀ w', BufAt w' E V (L ++ [b]) → w0.grownBy w' (some E) → wpList Tryd.prog ops Q rest (a.put o.dst (.slice (some ⟨E, 1, none⟩) (n + 1) 64)) w') : wpList Tryd.prog ops Q (o :: rest) a (w0.alloc (.cells #[.int .u8 z] 5)) := by
  subst hz
  refine append_buf (w0.alloc (.cells #[.int .u8 (b.toNat : Int)] 5)) hgd s x ho E V L [b] n hn hs (hB.grown (World.grownBy_alloc _ _ _)) ⟨w0.heap.size, 0, none⟩ 1 1 rfl hx (fun j hj => ?_) h64 (fun w' h1 h2 => h w' h1 ((World.grownBy_alloc w0 _ _).trans h2))
  obtain rfl : j = 0 := by omega
  simp [Addr.add]
end Go.Proofs.YtkincdcknmdboaaDoor
