/- Slices of ints as parameters: what a walk is told of one, and the row's last step where arguments are carried over Below. -/
import Derived.Below
import Derived.Carry
import Derived.ChangeSlices
import Derived.ChangeSame
import Derived.OpenShut
import Derived.OpenVars
import Derived.WalkKit
namespace Go.Proofs.YtdfgljkmkceldaaGreatDoor
open Go.RowKit Go.WideShapes Go.ChangeShapes
set_option linter.unusedVariables false

/-- v is a slice that holds the ints zs -/
def IntsAt (w : World) (k : IntKind) (v : Value) (zs : List Int) : Prop :=
  (v = .slice none 0 0 ∧ zs = []) ∨
  ∃ (a : Addr) (cap : Nat), v = .slice (some a) zs.length cap ∧ zs.length ≤ cap ∧ cap ≤ maxLen ∧
    (∀ j, j < zs.length → w.cell? (a.add j) = some (.int k (zs.getD j 0))) ∧ ∀ n ∈ zs, (Lit.int k n).wf = true

section
variable {H : Type} {enc : TypeId × Value → H} {P : Program}
/-- the row's last step: arguments and variables read again at the old blocks -/
theorem post_belowAll {f : Func} {s : ChangeSpec} {apart fresh handsOn : Bool} {W W' : World} {args : Array Value} {v : Value} {ds gs : List (DataW H)} {before pa pv : List MemPlace}
    (hW : DataW.Whole enc P f.params.toList s.vars apart W args.toList ds gs before)
    (hres : ∀ (b : Nat) (sp : Nat → Bool) (hd : Bool), DataW.TrodAll enc P W' b sp hd f.resultTypes.toList (v.resultList f.resultTypes.size) (s.fn H (ds ++ gs)).results [])
    (hargs : DataW.TrodAll enc P W' 0 (fun b => decide (b < W.heap.size)) true f.params.toList args.toList (s.fn H (ds ++ gs)).args pa)
    (hvars : DataW.TrodVars enc P W' (fun b => decide (b < W.heap.size)) s.vars (s.fn H (ds ++ gs)).vars pv)
    (hps : before = pa ++ pv) (hb : Below W.heap.size W W') :
    s.post enc P f apart fresh handsOn false W args v W' := by
  have hold : ∀ p ∈ before, (fun b => decide (b < W.heap.size)) p.block = true := fun p hp => by simpa using hW.lt p hp
  refine ⟨ds, gs, before, [], pa, pv, hW, hres _ _ _, hargs, hvars, World.keptBut_mono (fun p hp => ⟨hp, ?_⟩) (hb.frame (· ∈ before)), fun h => by cases h⟩
  rw [hps, List.mem_append] at hp
  exact Or.inr hp

theorem ints_at {W : World} {t e : TypeId} {k : IntKind} {v : Value} {d : DataW H} {ps : List MemPlace} (ht : P.underlying t = some (.slice e)) (he : P.underlying e = some (.int k)) (hc : P.cellsOf e = 1)
    (hval : Value.okWide P W .any 0 t v) (h : DataW.Trod enc P W 0 (fun _ => true) true t v d ps) : ∃ zs, IntsAt W k v zs := by
  obtain ⟨a0, len, cap, rfl⟩ := okWide_slice ht hval
  obtain ⟨fuel, hf⟩ := h
  rcases open_ints ht he hc hf with ⟨hcs, hx⟩ | ⟨a, len', cap', zs, hcs, _, hl, hm, hz, hx, hcell, hwz⟩
  · simp [Value.cells] at hcs
    obtain ⟨rfl, rfl, rfl⟩ := hcs
    exact ⟨[], Or.inl ⟨rfl, rfl⟩⟩
  · simp [Value.cells] at hcs
    obtain ⟨rfl, rfl, rfl⟩ := hcs
    simp only [if_true] at hz
    have hlz : (zs.take len).length = len := by simp; omega
    refine ⟨zs.take len, Or.inr ⟨a, cap, by rw [hlz], by rw [hlz]; exact hl, hm, fun j hj => ?_, fun x hx' => hwz x (List.mem_of_mem_take hx')⟩⟩
    rw [hlz] at hj
    rw [hcell j (by omega)]
    simp [List.getD, hj]
end
end Go.Proofs.YtdfgljkmkceldaaGreatDoor
