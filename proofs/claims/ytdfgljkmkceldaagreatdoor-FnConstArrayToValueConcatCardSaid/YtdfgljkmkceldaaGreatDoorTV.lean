/- The walks of ConstArray.toValue and its export. -/
import Derived.Test.YtdfgljkmkceldaaGreatDoorTM
namespace Go.Proofs.YtdfgljkmkceldaaGreatDoor
open Go.RowKit
set_option linter.unusedVariables false

theorem TermsAt.below {w w' : World} {B n : Nat} {fl : List Int} {ss : List ByteArray} (h : TermsAt w B n fl ss) (hb : Below w.heap.size w w') : TermsAt w' B n fl ss := fun j hj => by
  obtain ⟨h1, h2⟩ := h j hj
  exact ⟨(hb.cell (World.block_lt_of_cell? w _ h1)).trans h1, (hb.block _ (Array.getElem?_eq_some_iff.1 h2).1).trans h2⟩

def valRow (fl : List Int) (ss : List ByteArray) (k j : Nat) : Value := if j < k then valF (fl.getD j 0) (ss.getD j ByteArray.empty) else .nilIface
theorem val_step {w : World} {b t n k : Nat} {fl : List Int} {ss : List ByteArray} (h : w.rowIs b t n (valRow fl ss k)) : (w.setCell ⟨b, k, none⟩ (valF (fl.getD k 0) (ss.getD k ByteArray.empty))).rowIs b t n (valRow fl ss (k + 1)) := by
  refine (h.set k _).congr fun j hj => ?_
  unfold valRow
  by_cases e : j = k
  · subst e; simp
  · simp only [if_neg e]
    by_cases l : j < k
    · rw [if_pos l, if_pos (by omega)]
    · rw [if_neg l, if_neg (by omega)]

theorem valF_cases (f : Int) (s : ByteArray) : valF f s = .nilIface ∨ valF f s = .iface 4 (.bool true) ∨ valF f s = .iface 4 (.bool false) ∨ valF f s = .iface 9 (.string s) := by
  unfold valF
  cases fbit f 1 <;> cases fbit f 2 <;> cases fbit f 4 <;> simp

theorem info_any : (Tryz.prog.info? 20).map (fun i => (i.zero, i.size, i.bytes)) = some (some .nilIface, 1, 16) := by kernel_rfl

/-- the converted values lie in the block b -/
def ValsAt (w : World) (b n : Nat) (fl : List Int) (ss : List ByteArray) : Prop := ∀ j, j < n → w.cell? ⟨b, j, none⟩ = some (valF (fl.getD j 0) (ss.getD j ByteArray.empty))
theorem ValsAt.below {w w' : World} {b n : Nat} {fl : List Int} {ss : List ByteArray} (h : ValsAt w b n fl ss) (hb : Below w.heap.size w w') : ValsAt w' b n fl ss := fun j hj => (hb.cell (World.block_lt_of_cell? w _ (h j hj))).trans (h j hj)

set_option maxRecDepth 100000 in
theorem arr_any (A B n : Nat) (fl : List Int) (ss : List ByteArray) (w : World) (hA : w.cell? ⟨A, 0, none⟩ = some (.slice (some ⟨B, 0, none⟩) n n)) (hT : TermsAt w B n fl ss) (hm : n ≤ 1048576) :
    Calls Tryz.prog 10 #[.pointer (some ⟨A, 0, none⟩)] w fun r w' => r = .returned (.slice (some ⟨w.heap.size, 0, none⟩) n n) ∧ ValsAt w' w.heap.size n fl ss ∧ Below w.heap.size w w' := by
  have HT := Lib.hid hT
  have hA2 : ∀ o, (w.alloc o).cell? ⟨A, 0, none⟩ = some (.slice (some ⟨B, 0, none⟩) n n) := fun o => cell_alloc hA o
  clear hT
  have hmk := run_make_row' (P := Tryz.prog) 28 20 .nilIface 16 Tryz.underlying28 info_any rfl .i64 .i64 n (by omega) (by omega)
  have hrow0 := Lib.hid ((World.rowIs_made w .nilIface n 20).congr (g := valRow fl ss 0) fun j hj => by simp [valRow])
  have hb0 := Lib.hid ((Below.refl w.heap.size w).alloc (Nat.le_refl _) (.cells (madeCells #[.nilIface] n) 20))
  go_enter Tryz.func10, Tryz.ntmps10
  go_wp2_with fail
  go_loopw [17] (fun vi wr => ∃ k : Nat, vi = .int .i64 k ∧ k ≤ n ∧ Hid (wr.rowIs w.heap.size 20 n (valRow fl ss k)) ∧ Hid (Below w.heap.size w wr)) (fun vi _ => n - (intOf vi).toNat)
  case atStart => exact ⟨0, rfl, Nat.zero_le _, hrow0, hb0⟩
  case round =>
    obtain ⟨k, rfl, hk, HR, HB⟩ := hrel
    clear hmk hrow0 hb0 hA hA2
    by_cases hlt : k < n
    · obtain ⟨c1, c2⟩ := (HT.out.below HB.out) k hlt
      have HC := Lib.hid (fun w h => term_any (B + 1 + k) (fl.getD k 0) (ss.getD k ByteArray.empty) w h)
      have HC2 := Lib.hid c2
      clear c2
      have c3 := HR.out.cell hlt
      have c4 := HR.out.frozen k
      have HR2 := Lib.hid (val_step HR.out)
      have HB2 := Lib.hid (HB.out.setCell (p := ⟨w.heap.size, k, none⟩) (Nat.le_refl _) (valF (fl.getD k 0) (ss.getD k ByteArray.empty)))
      obtain ⟨x, hx⟩ : ∃ x, x = valF (fl.getD k 0) (ss.getD k ByteArray.empty) := ⟨_, rfl⟩
      rw [← hx] at HC HR2 HB2
      rcases valF_cases (fl.getD k 0) (ss.getD k ByteArray.empty) with e | e | e | e
      all_goals
        rw [e] at hx
        subst hx
        clear e
        go_wp2_with (go_at_call 11; refine (HC.out _ HC2.out).mono ?_; rintro r w2 ⟨rfl, rfl⟩)
        go_roundw
        case rel => exact ⟨k + 1, by go_num, by omega, HR2, HB2⟩
        case measure => simp [intOf]; omega
    · obtain rfl : k = n := by omega
      have HV : Hid (ValsAt wr w.heap.size k fl ss) := Lib.hid (fun j hj => by rw [HR.out.cell hj]; unfold valRow; rw [if_pos hj])
      go_wp2_with fail
      go_ret
      exact ⟨rfl, HV.out, HB.out⟩

set_option maxRecDepth 100000 in
theorem zarr_any (A B n : Nat) (fl : List Int) (ss : List ByteArray) (w : World) (hA : w.cell? ⟨A, 0, none⟩ = some (.slice (some ⟨B, 0, none⟩) n n)) (hT : TermsAt w B n fl ss) (hm : n ≤ 1048576) :
    Calls Tryz.prog 8 #[.pointer (some ⟨A, 0, none⟩)] w fun r w' => ∃ b, r = .returned (.slice (some ⟨b, 0, none⟩) n n) ∧ ValsAt w' b n fl ss ∧ Below w.heap.size w w' := by
  have HC := Lib.hid (arr_any A B n fl ss w hA hT hm)
  clear hA hT
  go_enter Tryz.func8, Tryz.ntmps8
  go_wp2_with (go_at_call 10; refine HC.out.mono ?_; rintro r w2 ⟨rfl, h2, B2⟩; have H2 := Lib.hid h2; have HB2 := Lib.hid B2; clear h2 B2)
  go_ret
  exact ⟨_, rfl, H2.out, HB2.out⟩

@[go_sem] theorem eqg_nil (a b : Nat) (w : World) : (eqGuard .neq 20 (.tmp a) (.tmp b) .nilIface .nilIface).run Tryz.prog w = .ok () w := by kernel_rfl
@[go_sem] theorem neq_nil (w : World) : (binOp .neq 20 .nilIface .nilIface).run Tryz.prog w = .ok (.bool false) w := by kernel_rfl
@[go_sem] theorem neq_bool (b : Bool) (w : World) : (binOp .neq 20 (.iface 4 (.bool b)) (.iface 4 (.bool b))).run Tryz.prog w = .ok (.bool false) w := by
  cases b <;> kernel_rfl
@[go_sem] theorem neq_string (s : ByteArray) (w : World) : (binOp .neq 20 (.iface 9 (.string s)) (.iface 9 (.string s))).run Tryz.prog w = .ok (.bool false) w := by
  have e : (s == s) = true := by
    rw [beq_toListBytes]
    simp
  have h : (binOp .neq 20 (.iface 9 (.string s)) (.iface 9 (.string s))).run Tryz.prog w = .ok (.bool (!(s == s))) w := by kernel_rfl
  rw [h, e]
  rfl

theorem box_cell (w : World) (v : Value) (t : TypeId) : (w.alloc (.cells #[v] t)).cell? ⟨w.heap.size, 0, none⟩ = some v := by
  rw [World.cell?_alloc_new]
  rfl

/-- the index of the joined lists -/
theorem join_left {α : Type} (A B : List α) (d : α) {k : Nat} (h : k < A.length) : (A ++ B).getD k d = A.getD k d := by
  simp [List.getD, List.getElem?_append_left h]
theorem join_right {α : Type} (A B : List α) (d : α) {n k : Nat} (h : A.length = n) : (A ++ B).getD (n + k) d = B.getD k d := by
  subst h
  simp [List.getD, List.getElem?_append_right]

theorem cloneU_step2 {w : World} {b t n k : Nat} {zs : List Int} {x : Int} (h : w.rowIs b t n (cloneU zs k)) (e : zs.getD k 0 = x) : (w.setCell ⟨b, k, none⟩ (.int .u8 x)).rowIs b t n (cloneU zs (k + 1)) := by
  rw [← e]; exact cloneU_step h
theorem cloneS_step2 {w : World} {b t n k : Nat} {zs : List ByteArray} {x : ByteArray} (h : w.rowIs b t n (cloneS zs k)) (e : zs.getD k ByteArray.empty = x) : (w.setCell ⟨b, k, none⟩ (.string x)).rowIs b t n (cloneS zs (k + 1)) := by
  rw [← e]; exact cloneS_step h
theorem row_other {w : World} {b t n : Nat} {f : Nat → Value} (h : w.rowIs b t n f) (a : Addr) (v : Value) (hb : b ≠ a.block) : (w.setCell a v).rowIs b t n f := h.of_block (Below.heap_setCell w a v b hb)

theorem make_u8 (n m : Nat) (hn : n ≤ 131072) (hm : m ≤ 131072) (w : World) : (Instr.makeSlice 22 (.int .i64 ((n : Int) + (m : Int))) (.int .i64 ((n : Int) + (m : Int)))).run Tryz.prog w = .ok (.slice (some ⟨w.heap.size, 0, none⟩) (n + m) (n + m)) (w.alloc (.cells (madeCells #[.int .u8 0] (n + m)) 5)) := by
  have h := run_make_row' (P := Tryz.prog) 22 5 (.int .u8 0) 1 Tryz.underlying22 info_u8 rfl .i64 .i64 (n + m) (by omega) (by omega) w
  rwa [Int.natCast_add] at h
theorem make_str (n m : Nat) (hn : n ≤ 131072) (hm : m ≤ 131072) (w : World) : (Instr.makeSlice 23 (.int .i64 ((n : Int) + (m : Int))) (.int .i64 ((n : Int) + (m : Int)))).run Tryz.prog w = .ok (.slice (some ⟨w.heap.size, 0, none⟩) (n + m) (n + m)) (w.alloc (.cells (madeCells #[.string ⟨#[]⟩] (n + m)) 9)) := by
  have h := run_make_row' (P := Tryz.prog) 23 9 (.string ⟨#[]⟩) 16 Tryz.underlying23 info_str rfl .i64 .i64 (n + m) (by omega) (by omega) w
  rwa [Int.natCast_add] at h

theorem rowU_slots {w : World} {b t : Nat} {zs : List Int} {n : Nat} (h : w.rowIs b t n (cloneU zs n)) (hn : zs.length = n) : SlotsAt w (some ⟨b, 0, none⟩) (zs.map (Value.int .u8)) := fun hp => ⟨b, 0, rfl, fun j hj => by
  rw [List.length_map] at hj
  rw [Nat.zero_add, h.cell (by omega)]
  unfold cloneU
  rw [if_pos (by omega)]
  simp [List.getD, hj]⟩
theorem rowS_slots {w : World} {b t : Nat} {zs : List ByteArray} {n : Nat} (h : w.rowIs b t n (cloneS zs n)) (hn : zs.length = n) : SlotsAt w (some ⟨b, 0, none⟩) (zs.map Value.string) := fun hp => ⟨b, 0, rfl, fun j hj => by
  rw [List.length_map] at hj
  rw [Nat.zero_add, h.cell (by omega)]
  unfold cloneS
  rw [if_pos (by omega)]
  simp [List.getD, hj]⟩
end Go.Proofs.YtdfgljkmkceldaaGreatDoor
