/- The laid tables: uint64pow10 as the contract asks it, pow10Tab's cells. -/
import Derived.Test.YtkincdcknmdboaaDoorRows
import Derived.ProofKit
import Derived.WalkKit
import Derived.OpenShut
import Derived.ChangeArms
import Derived.ChangeSame
import Derived.LaidMore
import Derived.Lay
import Derived.Stop.Joined
import Derived.MakeChecks
import Derived.Lib.LaidTab
import Derived.Test.YtkincdcknmdboaaDoorEI
namespace Go.Proofs.YtkincdcknmdboaaDoor
open Go.RowKit Go.WideShapes Go.ChangeShapes
set_option linter.unusedVariables false

theorem laid_tab {P : Program} {w : World} {nm : String} {k : IntKind} {zs : List Int} {g : Nat} {t e : TypeId} {n : Nat} (hg : P.globalNamed nm = some g) (hty : (P.globals[g]?).map (·.type) = some t) (ht : P.underlying t = some (.array n e)) (he : P.underlying e = some (.int k)) (hce : P.cellsOf e = 1) (hct : P.cellsOf t = n) :
    ∀ {l : List (String × DataW Unit)} {ps : List MemPlace}, DataW.LaidVars P w l ps → (nm, Lib.tabData k zs) ∈ l → Lib.TabIs P w nm k zs
  | [], _, _, hm => by cases hm
  | (n', d') :: r, ps, h, hm => by
    obtain ⟨g', t', cs, fuel, p, q, h1, h2, h3, h4, h5, _⟩ := h
    rcases List.mem_cons.1 hm with e | e
    · cases e
      obtain rfl := Option.some.inj (hg.symm.trans h1)
      obtain rfl := Option.some.inj (hty.symm.trans h2)
      unfold Lib.TabIs
      rw [h3, ← Lib.cells_of_tab ht he hce hct h4]
    · exact laid_tab hg hty ht he hce hct h5 e

theorem cells_of_pairs {H : Type} {enc : TypeId × Value → H} {P : Program} {w : World} {base : Nat} {sp : Nat → Bool} {held : Bool} {fuel : Nat} {t e u : TypeId} {f0 f1 : Field} {n : Nat} {cs : List Value} {rows : List (Nat × Nat)} {p : List MemPlace}
    (ht : P.underlying t = some (.array n e)) (he : P.underlying e = some (.struct #[f0, f1])) (h0t : f0.type = u) (h1t : f1.type = u) (h0o : f0.offset = 0) (h1o : f1.offset = 1) (hu : P.underlying u = some (.int .u64)) (hcu : P.cellsOf u = 1) (hce : P.cellsOf e = 2)
    (h : DataW.trod enc P w base sp held fuel t cs = some (.agg (rows.map fun x => .agg [.lit (.int .u64 x.1), .lit (.int .u64 x.2)]), p)) (i a b : Nat) (hi : rows[i]? = some (a, b)) : cs[i * 2]? = some (.int .u64 a) ∧ cs[i * 2 + 1]? = some (.int .u64 b) := by
  cases fuel with
  | zero => simp [DataW.trod] at h
  | succ fuel =>
    simp only [DataW.trod, ht, hce] at h
    split at h
    · rename_i hl
      obtain ⟨xs, hm, hx⟩ := Option.map_eq_some_iff.1 h
      have hxs : xs.map (·.1) = rows.map fun x => (DataW.agg [.lit (.int .u64 x.1), .lit (.int .u64 x.2)] : DataW H) := by
        have := congrArg Prod.fst hx
        simpa using this
      have hxl : xs.length = n := by simpa using Lib.mapM_length hm
      have hrl : rows.length = n := by
        have := congrArg List.length hxs
        simp at this
        omega
      have hin : i < n := by rw [← hrl]; exact (List.getElem?_eq_some_iff.1 hi).1
      obtain ⟨y, hy, hf⟩ := Lib.mapM_at hm i i (by simp [hin])
      have hy1 : (xs.map (·.1))[i]? = some y.1 := by simp [hy]
      rw [hxs, List.getElem?_map, hi] at hy1
      simp only [Option.map_some, Option.some.injEq] at hy1
      obtain ⟨y0, y1, n', rfl, _, g0, g1⟩ := trod_struct2 he hf
      rw [h0t, h0o, hcu] at g0
      rw [h1t, h1o, hcu] at g1
      obtain ⟨z0, c0, rfl, _⟩ := DataW.trod_int hu g0
      obtain ⟨z1, c1, rfl, _⟩ := DataW.trod_int hu g1
      simp only [DataW.agg.injEq, List.cons.injEq, DataW.lit.injEq, Lit.int.injEq, true_and, and_true] at hy1
      obtain ⟨e0, e1⟩ := hy1
      subst e0 e1
      constructor
      · have := congrArg (·[0]?) c0
        simpa [List.getElem?_take, List.getElem?_drop] using this
      · have := congrArg (·[0]?) c1
        simpa [List.getElem?_take, List.getElem?_drop, Nat.add_comm] using this
    · cases h

theorem laid_pairs {P : Program} {w : World} {nm : String} {rows : List (Nat × Nat)} {g : Nat} {t e u : TypeId} {f0 f1 : Field} {n : Nat} (hg : P.globalNamed nm = some g) (hty : (P.globals[g]?).map (·.type) = some t)
    (ht : P.underlying t = some (.array n e)) (he : P.underlying e = some (.struct #[f0, f1])) (h0t : f0.type = u) (h1t : f1.type = u) (h0o : f0.offset = 0) (h1o : f1.offset = 1) (hu : P.underlying u = some (.int .u64)) (hcu : P.cellsOf u = 1) (hce : P.cellsOf e = 2) (i a b : Nat) (hi : rows[i]? = some (a, b)) :
    ∀ {l : List (String × DataW Unit)} {ps : List MemPlace}, DataW.LaidVars P w l ps → (nm, DataW.agg (rows.map fun x => .agg [.lit (.int .u64 x.1), .lit (.int .u64 x.2)])) ∈ l → w.cell? ⟨g, i * 2, none⟩ = some (.int .u64 a) ∧ w.cell? ⟨g, i * 2 + 1, none⟩ = some (.int .u64 b)
  | [], _, _, hm => by cases hm
  | (n', d') :: r, ps, h, hm => by
    obtain ⟨g', t', cs, fuel, p, q, h1, h2, h3, h4, h5, _⟩ := h
    rcases List.mem_cons.1 hm with e | e
    · cases e
      obtain rfl := Option.some.inj (hg.symm.trans h1)
      obtain rfl := Option.some.inj (hty.symm.trans h2)
      obtain ⟨c0, c1⟩ := cells_of_pairs ht he h0t h1t h0o h1o hu hcu hce h4 i a b hi
      have hv := World.var?_cell hg h3
      exact ⟨by simpa using (hv (i * 2)).trans (by simpa using c0), by simpa using (hv (i * 2 + 1)).trans (by simpa using c1)⟩
    · exact laid_pairs hg hty ht he h0t h1t h0o h1o hu hcu hce i a b hi h5 e

theorem rows_low : ∀ p, p < 17 → Go.Pinned.pow10Rows[p + 348]? = some (hiOf p, 0) := by decide +kernel

theorem tabs_of (w : World) (l : List (String × DataW Unit)) (hp : (l.all fun x => x.2.handleName?.isNone) = true)
    (hm1 : ("internal/strconv.uint64pow10", Lib.tabData .u64 Lib.pow10Tab) ∈ l) (hm2 : ("internal/strconv.pow10Tab", Go.Pinned.pow10Tab) ∈ l) (h : laidMetH Tryd.prog l w) :
    Lib.TabIs Tryd.prog w "internal/strconv.uint64pow10" .u64 Lib.pow10Tab ∧ TabP w := by
  rw [MakeChecks.laidMetH_plain _ _ _ hp] at h
  obtain ⟨ps, hv, _⟩ := h
  refine ⟨laid_tab (g := 2) (by kernel_rfl) (by kernel_rfl) Tryd.underlying89 Tryd.underlying41 (by kernel_rfl) (by kernel_rfl) hv hm1, fun p hp => ?_⟩
  exact laid_pairs (u := 41) (by kernel_rfl) (by kernel_rfl) Tryd.underlying99 Tryd.underlying98 rfl rfl rfl rfl Tryd.underlying41 (by kernel_rfl) (by kernel_rfl) (p + 348) (hiOf p) 0 (rows_low p (by omega)) hv hm2
end Go.Proofs.YtkincdcknmdboaaDoor
