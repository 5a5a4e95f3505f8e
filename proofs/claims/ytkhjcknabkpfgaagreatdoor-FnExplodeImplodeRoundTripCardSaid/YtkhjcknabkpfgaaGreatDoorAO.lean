/- 'append(b, x)' of one element onto a row of the call's own, as one law. -/
import Derived.WalkKit
import Derived.Below
import Derived.Laws.AppendOwn
import Derived.Lib.Hide
namespace Go.Proofs.YtkhjcknabkpfgaaGreatDoor
open Go.RowKit
set_option linter.unusedVariables false

theorem append_one {P : Program} (w0 : World) {ops : Array Oper} {rest : List Oper} {o : Oper} {a : Act} {Q : Exit → Act → World → Prop} (hgd : o.guard = none) (s x : Operand) (t : TypeId)
    (ho : o.op = .call { callee := .builtin .append, args := #[s, x], argTypes := #[t, t] })
    (base : Nat) (e : TypeId) (i : TypeInfo) (z : Value) (bytes : Nat) (ht : P.underlying t = some (.slice e)) (hi : P.info? e = some i) (hz : i.zero = some z)
    (hsize : i.size = 1) (hby : i.bytes = bytes) (hzs : z.cells.size = 1)
    (v : Value) (n : Nat) (xs : List Value) (hs : a.eval s = v) (hown : w0.ownsRow base e 1 v n xs)
    (u : Value) (hx : a.eval x = .slice (some ⟨w0.heap.size, 0, none⟩) 1 1) (h1 : u.oneCell' = true)
    (h63 : n + 1 ≤ maxLen) (hbytes : (n + 1) * bytes ≤ 140737488355328) (hbase : base ≤ w0.heap.size)
    (h : ∀ v' w', w'.ownsRow base e 1 v' (n + 1) (xs ++ [u]) → (w0.alloc (.cells #[u] e)).grownBy w' v.ownBlock → wpList P ops Q rest (a.put o.dst v') w') : wpList P ops Q (o :: rest) a (w0.alloc (.cells #[u] e)) := by
  refine wpList_append_own (w := w0.alloc (.cells #[u] e)) hgd s x t ho base e i z 1 bytes ht hi hz hsize hby hzs (by decide) v n xs hs (hown.alloc _) ⟨w0.heap.size, 0, none⟩ 1 1 [u] hx rfl ?_ ?_ h63 hbytes (by simp; omega) (fun v' w' h2 h3 _ => h v' w' h2 h3)
  · intro j y hj
    match j, hj with
    | 0, hj => simp at hj; subst hj; simp [Addr.add]
  · intro y hy
    simp at hy
    subst hy
    exact h1

/-- what is below the call's own blocks stands behind such an append -/
theorem below_one {B : Nat} {a w0 w' : World} {base : Nat} {e : TypeId} {v u : Value} {n : Nat} {xs : List Value} (hb : Below B a w0) (hg : (w0.alloc (.cells #[u] e)).grownBy w' v.ownBlock) (hown : w0.ownsRow base e 1 v n xs) (hB : B ≤ w0.heap.size) (hbase : B ≤ base) : Below B a w' :=
  (hb.alloc hB _).grown hg (by simp; omega) (fun j hj => Nat.le_trans hbase (hown.lt j hj).1)
end Go.Proofs.YtkhjcknabkpfgaaGreatDoor
