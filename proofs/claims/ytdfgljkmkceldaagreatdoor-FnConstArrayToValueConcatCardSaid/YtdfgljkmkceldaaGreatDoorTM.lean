/- The walks of zzFlagTerms, ConstTerm.toValue and ConstArray.toValue. -/
import Derived.Test.YtdfgljkmkceldaaGreatDoorZT
namespace Go.Proofs.YtdfgljkmkceldaaGreatDoor
open Go.RowKit
set_option linter.unusedVariables false

/-- is the bit m of f laid? -/
def fbit (f m : Int) : Bool := bits .and .u8 f m != 0
def termObj (f : Int) (s : ByteArray) : Obj := .cells #[.pointer none, .pointer none, .string ⟨#[]⟩, .string s, .bool (fbit f 1), .bool (fbit f 2), .bool (fbit f 4)] 39
/-- what a constant converts to -/
def valF (f : Int) (s : ByteArray) : Value := if fbit f 1 then .nilIface else if fbit f 2 then .iface 4 (.bool true) else if fbit f 4 then .iface 4 (.bool false) else .iface 9 (.string s)

theorem term_cells {w : World} {b : Nat} {f : Int} {s : ByteArray} (h : w.heap[b]? = some (termObj f s)) :
    w.cell? ⟨b, 0, none⟩ = some (.pointer none) ∧ w.cell? ⟨b, 1, none⟩ = some (.pointer none) ∧ w.cell? ⟨b, 2, none⟩ = some (.string ⟨#[]⟩) ∧ w.cell? ⟨b, 3, none⟩ = some (.string s) ∧
    w.cell? ⟨b, 4, none⟩ = some (.bool (fbit f 1)) ∧ w.cell? ⟨b, 5, none⟩ = some (.bool (fbit f 2)) ∧ w.cell? ⟨b, 6, none⟩ = some (.bool (fbit f 4)) := by
  unfold termObj at h
  simp [World.cell?, h]

set_option maxRecDepth 100000 in
theorem term_any (b : Nat) (f : Int) (s : ByteArray) (w : World) (h : w.heap[b]? = some (termObj f s)) :
    Calls Tryz.prog 11 #[.pointer (some ⟨b, 0, none⟩)] w fun r w' => r = .returned (valF f s) ∧ w = w' := by
  obtain ⟨c0, c1, c2, c3, c4, c5, c6⟩ := term_cells h
  clear h
  unfold valF
  cases h1 : fbit f 1 <;> cases h2 : fbit f 2 <;> cases h4 : fbit f 4 <;> rw [h1] at c4 <;> rw [h2] at c5 <;> rw [h4] at c6
  all_goals
    clear h1 h2 h4
    go_enter Tryz.func11, Tryz.ntmps11
    go_wp2_with fail
    go_ret
    exact ⟨rfl, rfl⟩

def TermsAt (w : World) (B n : Nat) (fl : List Int) (ss : List ByteArray) : Prop :=
  ∀ j, j < n → w.cell? ⟨B, j, none⟩ = some (.pointer (some ⟨B + 1 + j, 0, none⟩)) ∧ w.heap[B + 1 + j]? = some (termObj (fl.getD j 0) (ss.getD j ByteArray.empty))

def ptrF (B k j : Nat) : Value := if j < k then .pointer (some ⟨B + 1 + j, 0, none⟩) else .pointer none

theorem ptr_step {w : World} {b t n k : Nat} (h : w.rowIs b t n (ptrF b k)) : (w.setCell ⟨b, k, none⟩ (.pointer (some ⟨b + 1 + k, 0, none⟩))).rowIs b t n (ptrF b (k + 1)) := by
  refine (h.set k _).congr fun j hj => ?_
  unfold ptrF
  by_cases e : j = k
  · subst e; simp
  · simp only [if_neg e]
    by_cases l : j < k
    · rw [if_pos l, if_pos (by omega)]
    · rw [if_neg l, if_neg (by omega)]

theorem terms_step {w wr : World} {k : Nat} {fl : List Int} {ss : List ByteArray} (hsz : wr.heap.size = w.heap.size + 1 + k) (h : ∀ j, j < k → wr.heap[w.heap.size + 1 + j]? = some (termObj (fl.getD j 0) (ss.getD j ByteArray.empty))) :
    ∀ j, j < k + 1 → ((wr.alloc (termObj (fl.getD k 0) (ss.getD k ByteArray.empty))).setCell ⟨w.heap.size, k, none⟩ (.pointer (some ⟨w.heap.size + 1 + k, 0, none⟩))).heap[w.heap.size + 1 + j]? = some (termObj (fl.getD j 0) (ss.getD j ByteArray.empty)) := by
  intro j hj
  rw [Below.heap_setCell _ _ _ _ (by show w.heap.size + 1 + j ≠ w.heap.size; omega)]
  by_cases e : j = k
  · subst e
    rw [← hsz]
    exact heap_alloc_new _ _
  · rw [(MapKept.heap_alloc wr _).2 _ (by omega)]
    exact h j (by omega)

theorem info_ptr : (Tryz.prog.info? 36).map (fun i => (i.zero, i.size, i.bytes)) = some (some (.pointer none), 1, 8) := by kernel_rfl

set_option maxRecDepth 100000 in
theorem terms_any (a : Option Addr) (cap : Nat) (a2 : Option Addr) (cap2 : Nat) (fl : List Int) (ss : List ByteArray) (n : Nat) (w : World) (h : SlotsAt w a (fl.map (Value.int .u8))) (h2 : SlotsAt w a2 (ss.map Value.string)) (hn1 : fl.length = n) (hn2 : ss.length = n) (hm : n ≤ 131072) :
    Calls Tryz.prog 9 #[.slice a n cap, .slice a2 n cap2] w fun r w' => ∃ B, r = .returned (.slice (some ⟨B, 0, none⟩) n n) ∧ TermsAt w' B n fl ss ∧ Below w.heap.size w w' := by
  have H := Lib.hid h
  have H2 := Lib.hid h2
  have HN1 := Lib.hid hn1
  have HN2 := Lib.hid hn2
  clear h h2 hn1 hn2
  have hmk := run_make_row' (P := Tryz.prog) 31 36 (.pointer none) 8 Tryz.underlying31 info_ptr rfl .i64 .i64 n (by omega) (by omega)
  have hrow0 := Lib.hid ((World.rowIs_made w (.pointer none) n 36).congr (g := ptrF w.heap.size 0) fun j hj => by simp [ptrF])
  have hb0 := Lib.hid ((Below.refl w.heap.size w).alloc (Nat.le_refl _) (.cells (madeCells #[.pointer none] n) 36))
  go_enter Tryz.func9, Tryz.ntmps9
  go_wp2_with fail
  go_loopw [6] (fun vi wr => ∃ k : Nat, vi = .int .i64 k ∧ k ≤ n ∧ wr.heap.size = w.heap.size + 1 + k ∧ Hid (wr.rowIs w.heap.size 36 n (ptrF w.heap.size k)) ∧ Hid (∀ j, j < k → wr.heap[w.heap.size + 1 + j]? = some (termObj (fl.getD j 0) (ss.getD j ByteArray.empty))) ∧ Hid (Below w.heap.size w wr)) (fun vi _ => n - (intOf vi).toNat)
  case atStart => exact ⟨0, rfl, Nat.zero_le _, by simp, hrow0, Lib.hid (fun j hj => absurd hj (by omega)), hb0⟩
  case round =>
    obtain ⟨k, rfl, hk, hsz, HR, HT, HB⟩ := hrel
    clear hmk hrow0 hb0
    by_cases hlt : k < n
    · obtain ⟨b, off, rfl, c1⟩ := H.out.int HB.out (k := k) (by rw [HN1.out]; exact hlt)
      obtain ⟨b2, off2, rfl, c2⟩ := H2.out.str HB.out (k := k) (by rw [HN2.out]; exact hlt)
      have HRA := Lib.hid (fun o => HR.out.alloc o)
      have c3 := fun o => (HRA.out o).cell hlt
      have c4 := fun o => (HRA.out o).frozen k
      have HRO := Lib.hid (ptr_step (HRA.out (termObj (fl.getD k 0) (ss.getD k ByteArray.empty))))
      have HTO := Lib.hid (terms_step hsz HT.out)
      have HBO := Lib.hid ((HB.out.alloc HB.out.size (termObj (fl.getD k 0) (ss.getD k ByteArray.empty))).setCell (p := ⟨w.heap.size, k, none⟩) (Nat.le_refl _) (.pointer (some ⟨w.heap.size + 1 + k, 0, none⟩)))
      obtain ⟨f, hf⟩ : ∃ f, f = fl.getD k 0 := ⟨_, rfl⟩
      obtain ⟨s, hs⟩ : ∃ s, s = ss.getD k ByteArray.empty := ⟨_, rfl⟩
      rw [← hf] at c1 HRO HBO HTO
      rw [← hs] at c2 HRO HBO HTO
      clear hf hs HRA
      go_wp2_with fail
      go_roundw
      case rel => exact ⟨k + 1, by go_num, by omega, by simp; omega, HRO, HTO, HBO⟩
      case measure => simp [intOf]; omega
    · obtain rfl : k = n := by omega
      go_wp2_with fail
      go_ret
      exact ⟨_, rfl, fun j hj => ⟨by rw [HR.out.cell hj]; unfold ptrF; rw [if_pos hj], HT.out j hj⟩, HB.out⟩
end Go.Proofs.YtdfgljkmkceldaaGreatDoor
