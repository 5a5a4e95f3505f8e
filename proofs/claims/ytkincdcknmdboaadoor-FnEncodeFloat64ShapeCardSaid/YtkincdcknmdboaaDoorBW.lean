/- The walks of strings.Builder's copyCheck and Write, at a fresh builder. -/
import Derived.Shelf.Strings.Builder1
import Derived.Laws.AppendOwn
import Derived.Deep.OwnRows
import Derived.Lib.FrozenHead
import Derived.Test.YtkincdcknmdboaaDoorSD
namespace Go.Proofs.YtkincdcknmdboaaDoor
open Go.RowKit
set_option linter.unusedVariables false
set_option linter.unusedSimpArgs false

theorem size_builder : (Tryd.prog.info? 32).map (·.size) = some 2 := by kernel_rfl
theorem lies_builder : liesAt Tryd.prog Tryd.prog.depth 32 (2 / Tryd.prog.cellsOf 32) 0 32 1 = true := by kernel_rfl

set_option maxHeartbeats 1000000 in
set_option maxRecDepth 100000 in
theorem cc_fresh (b : Nat) (w : World) (h0 : w.cell? ⟨b, 0, none⟩ = some (.pointer none)) (hsh : w.shape? b = some (32, 2)) (hfz : w.frozen? ⟨b, 0, none⟩ = false) :
    Calls Tryd.prog 84 #[.pointer (some ⟨b, 0, none⟩)] w fun e w' => e = .returned (.tuple #[]) ∧ w.setCell ⟨b, 0, none⟩ (.pointer (some ⟨b, 0, none⟩)) = w' := by
  obtain ⟨j, hj, hjs⟩ := Option.map_eq_some_iff.1 size_builder
  go_enter Tryd.func84, Tryd.ntmps84
  go_wp2
  rw [Lib.run_to_unsafe w ⟨b, 0, none⟩ Tryd.underlying29 Tryd.underlying125 hj (by rw [hjs]; decide) hsh (Nat.zero_lt_succ 1)]
  simp only [Result.andThen]
  rw [Oper.upon_value]
  go_wp2
  rw [run_callFunc_extern Tryd.func85 (by kernel_rfl) (by kernel_rfl) (by kernel_rfl) (e := Extern.AbiNoEscape.same) (by kernel_rfl)]
  rw [Lib.run_noEscape]
  simp only [Result.andThen]
  rw [Oper.upon_value]
  go_wp2
  rw [Lib.run_from_unsafe w ⟨b, 0, none⟩ Tryd.underlying125 Tryd.underlying29 hj hsh lies_builder]
  simp only [Result.andThen]
  rw [Oper.upon_value]
  go_wp2
  go_end0
  exact ⟨rfl, rfl⟩

theorem below_of_grown' {B E : Nat} {w w' : World} (h : w.grownBy w' (some E)) (hE : B ≤ E) (hs : B ≤ w.heap.size) : Below B w w' := by
  obtain ⟨h1, h2, h3, h4, h5⟩ := h
  exact ⟨h1, h2, h3, h4, fun k hk => h5 k (by omega) (by simp; omega)⟩

theorem row_setCell {w : World} {B : Nat} {e : TypeId} {v : Value} {n : Nat} {xs : List Value} (h : w.ownsRow B e 1 v n xs) (b o : Nat) (u : Value) (hne : v.ownBlock ≠ some b) : (w.setCell ⟨b, o, none⟩ u).ownsRow B e 1 v n xs := by
  obtain ⟨h1, h2⟩ := h
  refine ⟨h1, ?_⟩
  rcases h2 with h2 | ⟨g, cap, cur, rfl, hg, hh, h3⟩
  · exact Or.inl h2
  · refine Or.inr ⟨g, cap, cur, rfl, hg, ?_, h3⟩
    have hlt : g < w.heap.size := (Array.getElem?_eq_some_iff.1 hh).1
    have hgb : g ≠ b := fun e => hne (by rw [e]; rfl)
    rw [(grown_setCell w b o u).block g hlt (by simpa using hgb)]
    exact hh

theorem own_slice {w3 : World} {B n : Nat} {v2 : Value} {xs : List Value} {e : TypeId} (ho : w3.ownsRow B e 1 v2 n xs) : ∃ ao m cap, v2 = .slice ao m cap := by
  rcases ho.2 with ⟨e2, _⟩ | ⟨g, cap, cur, e2, _⟩
  · exact ⟨_, _, _, e2⟩
  · exact ⟨_, _, _, e2⟩

theorem own_ne {w1 w3 : World} {B b n : Nat} {v2 : Value} {xs : List Value} (ho : w3.ownsRow B 5 1 v2 n xs) {C : Array Value} (hb3 : w3.heap[b]? = w1.heap[b]?) (hk : w1.heap[b]? = some (.cells C 32 (0, 0))) : v2.ownBlock ≠ some b := by
  intro e
  rcases ho.2 with ⟨e2, _⟩ | ⟨g, cap, cur, e2, _, e4, _⟩
  · rw [e2] at e; exact absurd e (by simp [Value.ownBlock])
  · rw [e2] at e
    have e5 : g = b := by simpa [Value.ownBlock] using e
    rw [e5, hb3, hk] at e4
    simp at e4

set_option maxHeartbeats 1000000 in
set_option maxRecDepth 100000 in
/-- what is appended to a nil row lies in the builder -/
theorem write_fresh (B b E : Nat) (V : Value) (L : List UInt8) (w : World) (hBb : B ≤ b) (hBw : B ≤ w.heap.size) (hEb : E ≠ b) (hbk : w.heap[b]? = some (.cells #[.pointer none, .slice none 0 0] 32 (0, 0))) (hB : BufAt w E V L) :
    Calls Tryd.prog 82 #[.pointer (some ⟨b, 0, none⟩), .slice (some ⟨E, 1, none⟩) L.length 64] w fun r w' => (∃ x, r = .returned x) ∧ Lib.IsBuilderF 32 5 B b (Lib.byteCells L) w' ∧ Below B w w' := by
  obtain ⟨i, hi, hzz⟩ := Option.map_eq_some_iff.1 info_u8
  simp only [Prod.mk.injEq] at hzz
  obtain ⟨hz, hsz, hby⟩ := hzz
  have h64 := hB.1
  have hl : (Lib.byteCells L).length = L.length := Lib.byteCells_length L
  have hlt : b < w.heap.size := (Array.getElem?_eq_some_iff.1 hbk).1
  obtain ⟨w1, hw1⟩ : ∃ w1, w.setCell ⟨b, 0, none⟩ (.pointer (some ⟨b, 0, none⟩)) = w1 := ⟨_, rfl⟩
  have hk1 : w1.heap[b]? = some (.cells #[.pointer (some ⟨b, 0, none⟩), .slice none 0 0] 32 (0, 0)) := by
    rw [← hw1]; exact heap_setCell_same w b 0 _ _ (.pointer (some ⟨b, 0, none⟩)) hbk
  have hs1 : w1.heap.size = w.heap.size := by rw [← hw1]; simp
  have hg1 : w.grownBy w1 (some b) := by rw [← hw1]; exact grown_setCell w b 0 _
  have hB1 : ∀ j, j < L.length → w1.cell? ⟨E, 1 + j, none⟩ = some (.int .u8 ((L.getD j 0).toNat : Int)) := fun j hj => by
    have hEl : E < w.heap.size := World.block_lt_of_cell? w _ hB.2.1
    rw [World.cell?_of_block (hg1.block E hEl (by simpa using hEb))]
    exact hB.2.2.2 j hj
  have c0 : w.cell? ⟨b, 0, none⟩ = some (.pointer none) := by simp [World.cell?, hbk]
  have hsh : w.shape? b = some (32, 2) := by simp [World.shape?, hbk]
  have f0 : w.frozen? ⟨b, 0, none⟩ = false := by simp [World.frozen?, hbk]
  have c1 : w1.cell? ⟨b, 1, none⟩ = some (.slice none 0 0) := by simp [World.cell?, hk1]
  have CC := Lib.hid (cc_fresh b w c0 hsh f0)
  rw [hw1] at CC
  have HB0 : Hid (∀ j, j < L.length → w1.cell? ((⟨E, 1, none⟩ : Addr).add j) = some (.int .u8 ((L.getD j 0).toNat : Int))) := Lib.hid (fun j hj => by rw [show (⟨E, 1, none⟩ : Addr).add j = ⟨E, 1 + j, none⟩ from by cases j <;> rfl]; exact hB1 j hj)
  have HK1 := Lib.hid hk1
  have HG1 := Lib.hid hg1
  have HS1 := Lib.hid hs1
  have HI := Lib.hid hi
  clear hB1 hk1 hg1 hs1 hw1 hbk hB c0 hsh f0 hi
  go_enter Tryd.func82, Tryd.ntmps82
  go_wp2_with (first | (go_at_call 84; refine CC.out.mono ?_; rintro r w2 ⟨rfl, rfl⟩) | (at_builtin; refine wpList_append_own _ rfl _ _ 30 rfl B 5 i (.int .u8 0) 1 1 Tryd.underlying30 HI.out hz hsz hby rfl (by decide) (.slice none 0 0) 0 [] rfl (World.ownsRow_nil _ _ _ _) ⟨E, 1, none⟩ L.length 64 (Lib.byteCells L) rfl (by rw [hl, Nat.mul_one]) (fun j u hu => by obtain ⟨hj, rfl⟩ := byteCells_at L j u hu; exact HB0.out j hj) (fun u hu => by simp only [Lib.byteCells, List.mem_map] at hu; obtain ⟨c, _, rfl⟩ := hu; rfl) (by unfold maxLen; omega) (by omega) (by rw [HS1.out]; exact hBw) ?_; intro v2 w3 ho hg3 hnil; obtain ⟨ao, nn, cap, rfl⟩ := own_slice ho; have HNE := Lib.hid (own_ne ho (hg3.block b (by rw [HS1.out]; exact hlt) (by simp [Value.ownBlock])) HK1.out); have hk3 : w3.heap[b]? = some (.cells #[.pointer (some ⟨b, 0, none⟩), .slice none 0 0] 32 (0, 0)) := (hg3.block b (by rw [HS1.out]; exact hlt) (by simp [Value.ownBlock])).trans HK1.out; have HO := Lib.hid ho; have HG3 := Lib.hid hg3; have c3 : w3.frozen? ⟨b, 1, none⟩ = false := by { simp [World.frozen?, hk3] }; have c4 : w3.cell? ⟨b, 1, none⟩ = some (.slice none 0 0) := by { simp [World.cell?, hk3] }; have HK3 := Lib.hid hk3; clear ho hg3 hnil hk3))
  go_ret2
  refine ⟨⟨_, rfl⟩, Lib.IsBuilderF.of (Or.inr ⟨hBb, .slice ao nn cap, heap_setCell_same w3 b 1 _ _ (.slice ao nn cap) HK3.out, ?_, HNE.out⟩), ?_⟩
  · have h := row_setCell HO.out b 1 (.slice ao nn cap) HNE.out
    rw [hl]
    simpa using h
  · have h1 : Below B w w1 := below_of_grown' HG1.out hBb hBw
    have h2 : Below B w1 w3 := by
      obtain ⟨g1, g2, g3, g4, g5⟩ := HG3.out
      exact ⟨g1, g2, g3, g4, fun k hk => g5 k (by rw [HS1.out]; omega) (by simp [Value.ownBlock])⟩
    exact (h1.trans h2).setCell (p := ⟨b, 1, none⟩) hBb _
end Go.Proofs.YtkincdcknmdboaaDoor
