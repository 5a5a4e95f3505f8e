/- The walk of zzCopyInts: nil stays nil, else a new row of the same ints. -/
import Derived.Test.YtkhjcknabkpfgaaGreatDoorRows
import Derived.WalkKit
import Derived.ProofKit
import Derived.OpenShut
import Derived.WalkSpells
import Derived.WalkLawsBesides
import Derived.Outline
import Derived.Lib.Hide
import Derived.LoopTactic
import Derived.Deep.OwnRows
import Derived.Test.YtkhjcknabkpfgaaGreatDoorCom
import Derived.Test.YtkhjcknabkpfgaaGreatDoorSL
import Derived.Test.YtkhjcknabkpfgaaGreatDoorSA
namespace Go.Proofs.YtkhjcknabkpfgaaGreatDoor
open Go.RowKit
set_option linter.unusedVariables false

theorem info_int : (Tryz.prog.info? 3).map (fun i => (i.zero, i.size, i.bytes)) = some (some (.int .i64 0), 1, 8) := by kernel_rfl

def cloneF (zs : List Int) (k : Nat) (j : Nat) : Value := if j < k then .int .i64 (zs.getD j 0) else .int .i64 0

theorem clone_step {w : World} {b t n k : Nat} {zs : List Int} (h : w.rowIs b t n (cloneF zs k)) : (w.setCell ⟨b, k, none⟩ (.int .i64 (zs.getD k 0))).rowIs b t n (cloneF zs (k + 1)) := by
  refine (h.set k _).congr fun j hj => ?_
  unfold cloneF
  by_cases e : j = k
  · subst e; simp
  · simp only [if_neg e]
    by_cases l : j < k
    · rw [if_pos l, if_pos (by omega)]
    · rw [if_neg l, if_neg (by omega)]

theorem clone_done {w : World} {b t : Nat} {zs : List Int} (hm : zs.length ≤ maxLen) (h : w.rowIs b t zs.length (cloneF zs zs.length)) : OwnAt w (.slice (some ⟨b, 0, none⟩) zs.length zs.length) (zs.map (Value.int .i64)) := by
  refine OwnAt.of_row h (by simp) hm fun j hj => ?_
  unfold cloneF
  rw [if_pos hj]
  simp [List.getD, hj]

end Go.Proofs.YtkhjcknabkpfgaaGreatDoor
