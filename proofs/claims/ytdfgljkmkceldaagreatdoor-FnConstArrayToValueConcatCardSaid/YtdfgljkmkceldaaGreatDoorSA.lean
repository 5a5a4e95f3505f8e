/- Slices whose cells are known one by one: kept over Below; a row of one's own under stores and behind a cut. -/
import Derived.Below
import Derived.WalkKit
import Derived.Deep.OwnRows
import Derived.Test.YtdfgljkmkceldaaGreatDoorSL
namespace Go.Proofs.YtdfgljkmkceldaaGreatDoor
open Go.RowKit
set_option linter.unusedVariables false

/-- v is a slice whose cells hold xs -/
def OwnAt (w : World) (v : Value) (xs : List Value) : Prop :=
  (v = .slice none 0 0 ∧ xs = []) ∨
  ∃ (b off cap : Nat), v = .slice (some ⟨b, off, none⟩) xs.length cap ∧ xs.length ≤ cap ∧ cap ≤ maxLen ∧ ∀ j, j < xs.length → w.cell? ⟨b, off + j, none⟩ = some (xs.getD j .nilIface)

theorem OwnAt.below {w w' : World} {v : Value} {xs : List Value} (h : OwnAt w v xs) (hb : Below w.heap.size w w') : OwnAt w' v xs := by
  rcases h with h | ⟨b, off, cap, h1, h2, h3, h4⟩
  · exact Or.inl h
  · exact Or.inr ⟨b, off, cap, h1, h2, h3, fun j hj => (hb.cell (World.block_lt_of_cell? w _ (h4 j hj))).trans (h4 j hj)⟩

theorem IntsAt.shape {w : World} {k : IntKind} {v : Value} {zs : List Int} (h : IntsAt w k v zs) : ∃ a cap, v = .slice a zs.length cap := by
  rcases h with ⟨rfl, rfl⟩ | ⟨a, cap, rfl, h2⟩
  · exact ⟨none, 0, rfl⟩
  · exact ⟨_, cap, rfl⟩

theorem IntsAt.below {w w' : World} {k : IntKind} {v : Value} {zs : List Int} (h : IntsAt w k v zs) (hb : Below w.heap.size w w') : IntsAt w' k v zs := by
  rcases h with h | ⟨a, cap, h1, h2, h3, h4, h5⟩
  · exact Or.inl h
  · exact Or.inr ⟨a, cap, h1, h2, h3, fun j hj => (hb.cell (World.block_lt_of_cell? w _ (h4 j hj))).trans (h4 j hj), h5⟩

theorem OwnAt.shape {w : World} {v : Value} {xs : List Value} (h : OwnAt w v xs) {n : Nat} (hn : xs.length = n) : ∃ a cap, v = .slice a n cap := by
  rcases h with ⟨rfl, rfl⟩ | ⟨b, off, cap, rfl, h2, h3, h4⟩
  · exact ⟨none, 0, by simp at hn; subst hn; rfl⟩
  · exact ⟨_, cap, by rw [hn]⟩

/-- where there is an element the slice has an address -/
theorem OwnAt.at {w : World} {a : Option Addr} {n cap : Nat} {xs : List Value} (h : OwnAt w (.slice a n cap) xs) (hp : 0 < xs.length) :
    ∃ b off, a = some ⟨b, off, none⟩ ∧ ∀ j, j < xs.length → w.cell? ⟨b, off + j, none⟩ = some (xs.getD j .nilIface) := by
  rcases h with ⟨_, rfl⟩ | ⟨b, off, cap', e, h2, h3, h4⟩
  · simp at hp
  · simp only [Value.slice.injEq] at e
    exact ⟨b, off, e.1, h4⟩

/-- a row that the call made, all of it filled -/
theorem OwnAt.of_row {w : World} {b t n : Nat} {f : Nat → Value} {xs : List Value} (h : w.rowIs b t n f) (hn : xs.length = n) (hm : n ≤ maxLen) (hf : ∀ j, j < n → f j = xs.getD j .nilIface) : OwnAt w (.slice (some ⟨b, 0, none⟩) n n) xs :=
  Or.inr ⟨b, 0, n, by rw [hn], by omega, hm, fun j hj => by rw [Nat.zero_add, h.cell (by omega), hf j (by omega)]⟩

/-- a row that the call appended to -/
theorem OwnAt.of_owns {w : World} {base e : Nat} {v : Value} {n : Nat} {xs : List Value} (h : w.ownsRow base e 1 v n xs) : OwnAt w v xs := by
  have hl : xs.length = n := by have := h.1; omega
  rcases h.2 with ⟨h1, h2⟩ | ⟨g, cap, cur, h1, h2, h3, h4, h5, h6, h7⟩
  · exact Or.inl ⟨h1, List.length_eq_zero_iff.1 (by omega)⟩
  · subst h1
    refine Or.inr ⟨g, 0, cap, by rw [hl], by omega, h5, fun j hj => ?_⟩
    rw [Nat.zero_add, h.cellAt j (by omega), List.getD_eq_getElem?_getD, List.getElem?_eq_getElem hj]
    rfl

theorem Below.rowIs {B : Nat} {w w' : World} {b t n : Nat} {f : Nat → Value} (h : Below B w w') (hr : w.rowIs b t n f) (hb : b < B) : w'.rowIs b t n f := hr.of_block (h.block b hb)

theorem take_push {α : Type} (f : Int → α) (zs : List Int) (k : Nat) (h : k < zs.length) : (zs.take k).map f ++ [f (zs.getD k 0)] = (zs.take (k + 1)).map f := by
  rw [List.take_add_one, List.getElem?_eq_getElem h, List.map_append, List.getD_eq_getElem?_getD, List.getElem?_eq_getElem h]
  rfl

/-- slots of a slice that came in, where it is not empty -/
theorem IntsAt.slots {w : World} {k : IntKind} {a : Addr} {zs : List Int} (h : ∀ j, j < zs.length → w.cell? (a.add j) = some (.int k (zs.getD j 0))) (hp : 0 < zs.length) :
    ∃ b off, a = ⟨b, off, none⟩ ∧ ∀ j, j < zs.length → w.cell? ⟨b, off + j, none⟩ = some (.int k (zs.getD j 0)) := by
  obtain ⟨b, off, spot⟩ := a
  have hspot : spot = none := by simpa [Addr.add] using World.cell?_spot (h 0 hp)
  subst hspot
  refine ⟨b, off, rfl, fun j hj => ?_⟩
  have := h j hj
  rcases Nat.eq_zero_or_pos j with z | z
  · subst z; simpa [Addr.add] using this
  · simpa [Addr.add, Nat.ne_of_gt z] using this
end Go.Proofs.YtdfgljkmkceldaaGreatDoor
