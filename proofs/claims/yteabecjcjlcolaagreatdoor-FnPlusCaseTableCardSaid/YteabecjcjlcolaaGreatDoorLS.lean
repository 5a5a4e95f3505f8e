/- The laid variable leafSize holds eight. -/
import Derived.Test.YteabecjcjlcolaaGreatDoorRows
import Derived.ProofKit
import Derived.WalkKit
import Derived.OpenShut
import Derived.ChangeArms
import Derived.LaidMore
import Derived.Lay
import Derived.Stop.Joined
import Derived.MakeChecks
namespace Go.Proofs.YteabecjcjlcolaaGreatDoor
open Go.RowKit Go.WideShapes Go.ChangeShapes
set_option linter.unusedVariables false

theorem laid_int {P : Program} {w : World} {nm : String} {k : IntKind} {z : Int} {g : Nat} {t : TypeId} (hg : P.globalNamed nm = some g) (ht : (P.globals[g]?).map (·.type) = some t) (hu : P.underlying t = some (.int k)) :
    ∀ {l : List (String × DataW Unit)} {ps : List MemPlace}, DataW.LaidVars P w l ps → (nm, DataW.lit (.int k z)) ∈ l → w.cell? ⟨g, 0, none⟩ = some (.int k z)
  | [], _, _, hm => by cases hm
  | (n', d') :: r, ps, h, hm => by
    obtain ⟨g', t', cs, fuel, p, q, h1, h2, h3, h4, h5, _⟩ := h
    rcases List.mem_cons.1 hm with e | e
    · cases e
      rw [hg] at h1
      obtain rfl := Option.some.inj h1
      rw [ht] at h2
      obtain rfl := Option.some.inj h2
      obtain ⟨n, hc, hx, _⟩ := DataW.trod_int hu h4
      have hn : n = z := by
        have := congrArg Prod.fst hx
        simp at this
        exact this.symm
      subst hn
      have hcs : cs = #[.int k n] := by
        cases cs
        simp at hc
        rw [hc]
      subst hcs
      unfold World.var? at h3
      rw [hg] at h3
      simp only [Option.bind_some] at h3
      unfold World.cell?
      split at h3
      · rename_i c e f hh
        simp only [Option.some.injEq] at h3
        subst h3
        simp only [hh]
        rfl
      · cases h3
    · exact laid_int hg ht hu h5 e

theorem leaf_of (w : World) (l : List (String × DataW Unit)) (hp : (l.all fun x => x.2.handleName?.isNone) = true) (hm : ("github.com/itchyny/gojq/pub/bigall.leafSize", DataW.lit (.int .i64 8)) ∈ l) (h : laidMetH Tryz.prog l w) : w.cell? ⟨1, 0, none⟩ = some (.int .i64 8) := by
  rw [MakeChecks.laidMetH_plain _ _ _ hp] at h
  obtain ⟨ps, hv, _⟩ := h
  exact laid_int (t := 3) (by kernel_rfl) (by kernel_rfl) Tryz.underlying3 hv hm

theorem len5 {α : Type} (l : List α) {n : Nat} (h : l.length = n) (hn : n = 5 := by rfl) : ∃ a b c d e, l = [a, b, c, d, e] := by
  subst hn
  match l, h with
  | [a, b, c, d, e], _ => exact ⟨a, b, c, d, e, rfl⟩
end Go.Proofs.YteabecjcjlcolaaGreatDoor
