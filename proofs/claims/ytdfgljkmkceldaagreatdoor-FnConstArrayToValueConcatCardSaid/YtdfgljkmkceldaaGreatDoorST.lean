/- Slices of strings as parameters: what a walk is told of one; slices whose slots are known where there is an element. -/
import Derived.Deep.Strs
import Derived.Test.YtdfgljkmkceldaaGreatDoorSA
namespace Go.Proofs.YtdfgljkmkceldaaGreatDoor
open Go.RowKit Go.WideShapes Go.ChangeShapes
set_option linter.unusedVariables false

/-- v is a slice that holds the strings ss -/
def StrsAt (w : World) (v : Value) (ss : List ByteArray) : Prop :=
  (v = .slice none 0 0 ∧ ss = []) ∨
  ∃ (a : Addr) (cap : Nat), v = .slice (some a) ss.length cap ∧ ss.length ≤ cap ∧ cap ≤ maxLen ∧
    (∀ j, j < ss.length → w.cell? (a.add j) = some (.string (ss.getD j ByteArray.empty))) ∧ ∀ s ∈ ss, s.size ≤ maxLen

section
variable {H : Type} {enc : TypeId × Value → H} {P : Program}
theorem strs_at {W : World} {t e : TypeId} {v : Value} {d : DataW H} {ps : List MemPlace} (ht : P.underlying t = some (.slice e)) (he : P.underlying e = some .string) (hc : P.cellsOf e = 1)
    (hval : Value.okWide P W .any 0 t v) (h : DataW.Trod enc P W 0 (fun _ => true) true t v d ps) : ∃ ss, StrsAt W v ss := by
  obtain ⟨a0, len, cap, rfl⟩ := okWide_slice ht hval
  obtain ⟨fuel, hf⟩ := h
  rcases Go.Deep.open_strs ht he hc hf with ⟨hcs, hx⟩ | ⟨a, len', cap', m, Sx, hcs, _, hl, hm, hz, hx, hcell⟩
  · simp [Value.cells] at hcs
    obtain ⟨rfl, rfl, rfl⟩ := hcs
    exact ⟨[], Or.inl ⟨rfl, rfl⟩⟩
  · simp [Value.cells] at hcs
    obtain ⟨rfl, rfl, rfl⟩ := hcs
    simp only [if_true] at hz
    have hlz : ((List.range len).map Sx).length = len := by simp
    refine ⟨(List.range len).map Sx, Or.inr ⟨a, cap, by rw [hlz], by rw [hlz]; exact hl, hm, fun j hj => ?_, fun x hx' => ?_⟩⟩
    · rw [hlz] at hj
      rw [(hcell j (by omega)).1]
      simp [List.getD, hj]
    · simp only [List.mem_map, List.mem_range] at hx'
      obtain ⟨j, hj, rfl⟩ := hx'
      exact (hcell j (by omega)).2
end

/-- where there is an element the slice has an address, and its slots hold xs -/
def SlotsAt (w : World) (a : Option Addr) (xs : List Value) : Prop :=
  0 < xs.length → ∃ b off, a = some ⟨b, off, none⟩ ∧ ∀ j, j < xs.length → w.cell? ⟨b, off + j, none⟩ = some (xs.getD j .nilIface)

theorem SlotsAt.below {w w' : World} {a : Option Addr} {xs : List Value} (h : SlotsAt w a xs) (hb : Below w.heap.size w w') : SlotsAt w' a xs := fun hp => by
  obtain ⟨b, off, e, hc⟩ := h hp
  exact ⟨b, off, e, fun j hj => (hb.cell (World.block_lt_of_cell? w _ (hc j hj))).trans (hc j hj)⟩

/-- a string of the slice -/
theorem SlotsAt.str {w w' : World} {a : Option Addr} {ss : List ByteArray} (h : SlotsAt w a (ss.map Value.string)) (hb : Below w.heap.size w w') {k : Nat} (hk : k < ss.length) :
    ∃ b off, a = some ⟨b, off, none⟩ ∧ w'.cell? ⟨b, off + k, none⟩ = some (.string (ss.getD k ByteArray.empty)) := by
  obtain ⟨b, off, e, hc⟩ := h (by rw [List.length_map]; omega)
  have hc1 := hc k (by rw [List.length_map]; omega)
  exact ⟨b, off, e, (hb.cell (World.block_lt_of_cell? w _ hc1)).trans (hc1.trans (by simp [List.getD, hk]))⟩

/-- an int of the slice -/
theorem SlotsAt.int {w w' : World} {a : Option Addr} {q : IntKind} {zs : List Int} (h : SlotsAt w a (zs.map (Value.int q))) (hb : Below w.heap.size w w') {k : Nat} (hk : k < zs.length) :
    ∃ b off, a = some ⟨b, off, none⟩ ∧ w'.cell? ⟨b, off + k, none⟩ = some (.int q (zs.getD k 0)) := by
  obtain ⟨b, off, e, hc⟩ := h (by rw [List.length_map]; omega)
  have hc1 := hc k (by rw [List.length_map]; omega)
  exact ⟨b, off, e, (hb.cell (World.block_lt_of_cell? w _ hc1)).trans (hc1.trans (by simp [List.getD, hk]))⟩

theorem OwnAt.slots {w : World} {a : Option Addr} {n cap : Nat} {xs : List Value} (h : OwnAt w (.slice a n cap) xs) : SlotsAt w a xs := fun hp => h.at hp

theorem StrsAt.parts {w : World} {v : Value} {ss : List ByteArray} (h : StrsAt w v ss) :
    ∃ a cap, v = .slice a ss.length cap ∧ SlotsAt w a (ss.map Value.string) ∧ (a = none → cap = 0 ∧ ss = []) ∧ ss.length ≤ maxLen ∧ ∀ j, j < ss.length → (ss.getD j ByteArray.empty).size ≤ maxLen := by
  rcases h with ⟨rfl, rfl⟩ | ⟨⟨b, off, spot⟩, cap, rfl, h1, h2, h3, h4⟩
  · exact ⟨none, 0, rfl, fun hp => absurd hp (by simp), fun _ => ⟨rfl, rfl⟩, Nat.zero_le _, fun j hj => absurd hj (by simp)⟩
  · refine ⟨_, cap, rfl, fun hp => ?_, (fun e => by cases e), by omega, fun j hj => h4 _ ?_⟩
    · rw [List.length_map] at hp
      have hspot : spot = none := by simpa [Addr.add] using World.cell?_spot (h3 0 hp)
      subst hspot
      refine ⟨b, off, rfl, fun j hj => ?_⟩
      rw [List.length_map] at hj
      have := h3 j hj
      rw [show (⟨b, off + j, none⟩ : Addr) = (⟨b, off, none⟩ : Addr).add j from ?_, this]
      · simp [List.getD, hj]
      · rcases Nat.eq_zero_or_pos j with z | z
        · subst z; simp [Addr.add]
        · simp [Addr.add, Nat.ne_of_gt z]
    · rw [List.getD_eq_getElem?_getD, List.getElem?_eq_getElem hj]
      exact List.getElem_mem hj

theorem IntsAt.parts {w : World} {q : IntKind} {v : Value} {zs : List Int} (h : IntsAt w q v zs) :
    ∃ a cap, v = .slice a zs.length cap ∧ SlotsAt w a (zs.map (Value.int q)) ∧ (a = none → cap = 0 ∧ zs = []) ∧ zs.length ≤ maxLen ∧ ∀ n ∈ zs, (Lit.int q n).wf = true := by
  rcases h with ⟨rfl, rfl⟩ | ⟨a, cap, rfl, h1, h2, h3, h4⟩
  · exact ⟨none, 0, rfl, fun hp => absurd hp (by simp), fun _ => ⟨rfl, rfl⟩, Nat.zero_le _, fun n hn => absurd hn (by simp)⟩
  · refine ⟨some a, cap, rfl, fun hp => ?_, (fun e => by cases e), by omega, h4⟩
    rw [List.length_map] at hp
    obtain ⟨b, off, rfl, hc⟩ := IntsAt.slots h3 hp
    refine ⟨b, off, rfl, fun j hj => ?_⟩
    rw [List.length_map] at hj
    rw [hc j hj]
    simp [List.getD, hj]

theorem StrsAt.below {w w' : World} {v : Value} {ss : List ByteArray} (h : StrsAt w v ss) (hb : Below w.heap.size w w') : StrsAt w' v ss := by
  rcases h with h | ⟨a, cap, h1, h2, h3, h4, h5⟩
  · exact Or.inl h
  · exact Or.inr ⟨a, cap, h1, h2, h3, fun j hj => (hb.cell (World.block_lt_of_cell? w _ (h4 j hj))).trans (h4 j hj), h5⟩

/-- the sizes of the first k strings -/
def sumTo (ss : List ByteArray) : Nat → Nat
  | 0 => 0
  | k + 1 => sumTo ss k + (ss.getD k ByteArray.empty).size
theorem sumTo_mono (ss : List ByteArray) (k : Nat) : ∀ d, sumTo ss k ≤ sumTo ss (k + d)
  | 0 => Nat.le_refl _
  | d + 1 => Nat.le_trans (sumTo_mono ss k d) (Nat.le_add_right _ _)
theorem sumTo_le (ss : List ByteArray) {k n : Nat} (h : k ≤ n) : sumTo ss k ≤ sumTo ss n := by
  have := sumTo_mono ss k (n - k)
  rwa [show k + (n - k) = n by omega] at this

/-- is x among the strings? -/
def memB (ss : List ByteArray) (x : ByteArray) : Bool := decide (∃ j, j < ss.length ∧ ss.getD j ByteArray.empty = x)
end Go.Proofs.YtdfgljkmkceldaaGreatDoor
