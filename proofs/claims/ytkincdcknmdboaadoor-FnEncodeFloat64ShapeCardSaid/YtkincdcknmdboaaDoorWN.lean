/- encodeFloat64 at a value that is no number: WriteString at a fresh builder. -/
import Derived.Test.YtkincdcknmdboaaDoorEN
namespace Go.Proofs.YtkincdcknmdboaaDoor
open Go.RowKit
set_option linter.unusedVariables false
set_option linter.unusedSimpArgs false

def nullS : ByteArray := ⟨#[110, 117, 108, 108]⟩
theorem nullS_cells : Lib.strCells nullS = Lib.byteCells [110, 117, 108, 108] := rfl

set_option maxHeartbeats 1000000 in
set_option maxRecDepth 100000 in
theorem wstr_fresh (B b : Nat) (w : World) (hBb : B ≤ b) (hBw : B ≤ w.heap.size) (hbk : w.heap[b]? = some (.cells #[.pointer none, .slice none 0 0] 32 (0, 0))) :
    Calls Tryd.prog 83 #[.pointer (some ⟨b, 0, none⟩), .string nullS] w fun r w' => (∃ x, r = .returned x) ∧ Lib.IsBuilderF 32 5 B b (Lib.byteCells [110, 117, 108, 108]) w' ∧ Below B w w' := by
  obtain ⟨i, hi, hzz⟩ := Option.map_eq_some_iff.1 info_u8
  simp only [Prod.mk.injEq] at hzz
  obtain ⟨hz, hsz, hby⟩ := hzz
  obtain ⟨s, hs⟩ : ∃ s, s = nullS := ⟨_, rfl⟩
  have hs4 : s.size = 4 := by rw [hs]; rfl
  have hsc : Lib.strCells s = Lib.byteCells [110, 117, 108, 108] := by rw [hs]; exact nullS_cells
  rw [← hs]
  have hl : (Lib.strCells s).length = 4 := by rw [hsc]; rfl
  have hlt : b < w.heap.size := (Array.getElem?_eq_some_iff.1 hbk).1
  obtain ⟨w1, hw1⟩ : ∃ w1, w.setCell ⟨b, 0, none⟩ (.pointer (some ⟨b, 0, none⟩)) = w1 := ⟨_, rfl⟩
  have hk1 : w1.heap[b]? = some (.cells #[.pointer (some ⟨b, 0, none⟩), .slice none 0 0] 32 (0, 0)) := by
    rw [← hw1]; exact heap_setCell_same w b 0 _ _ (.pointer (some ⟨b, 0, none⟩)) hbk
  have hs1 : w1.heap.size = w.heap.size := by rw [← hw1]; simp
  have hg1 : w.grownBy w1 (some b) := by rw [← hw1]; exact grown_setCell w b 0 _
  have c0 : w.cell? ⟨b, 0, none⟩ = some (.pointer none) := by simp [World.cell?, hbk]
  have hsh : w.shape? b = some (32, 2) := by simp [World.shape?, hbk]
  have f0 : w.frozen? ⟨b, 0, none⟩ = false := by simp [World.frozen?, hbk]
  have c1 : w1.cell? ⟨b, 1, none⟩ = some (.slice none 0 0) := by simp [World.cell?, hk1]
  have CC := Lib.hid (cc_fresh b w c0 hsh f0)
  rw [hw1] at CC
  have HK1 := Lib.hid hk1
  have HG1 := Lib.hid hg1
  have HS1 := Lib.hid hs1
  have HI := Lib.hid hi
  have HSC := Lib.hid hsc
  clear hk1 hg1 hs1 hw1 hbk c0 hsh f0 hi hs hsc
  go_enter Tryd.func83, Tryd.ntmps83
  go_wp2_with (first | (go_at_call 84; refine CC.out.mono ?_; rintro r w2 ⟨rfl, rfl⟩) | (at_builtin; refine Lib.wpList_append_own_string _ rfl _ _ 30 9 rfl B 5 i Tryd.underlying30 Tryd.underlying9 HI.out hz hsz hby (.slice none 0 0) 0 [] rfl (World.ownsRow_nil _ _ _ _) s rfl (by unfold maxLen; omega) (by omega) (by rw [HS1.out]; exact hBw) ?_; intro v2 w3 ho hg3 hnil; obtain ⟨ao, nn, cap, rfl⟩ := own_slice ho; have HNE := Lib.hid (own_ne ho (hg3.block b (by rw [HS1.out]; exact hlt) (by simp [Value.ownBlock])) HK1.out); have hk3 : w3.heap[b]? = some (.cells #[.pointer (some ⟨b, 0, none⟩), .slice none 0 0] 32 (0, 0)) := (hg3.block b (by rw [HS1.out]; exact hlt) (by simp [Value.ownBlock])).trans HK1.out; have HO := Lib.hid ho; have HG3 := Lib.hid hg3; have c3 : w3.frozen? ⟨b, 1, none⟩ = false := by { simp [World.frozen?, hk3] }; have c4 : w3.cell? ⟨b, 1, none⟩ = some (.slice none 0 0) := by { simp [World.cell?, hk3] }; have HK3 := Lib.hid hk3; clear ho hg3 hnil hk3))
  go_ret2
  refine ⟨⟨_, rfl⟩, Lib.IsBuilderF.of (Or.inr ⟨hBb, .slice ao nn cap, heap_setCell_same w3 b 1 _ _ (.slice ao nn cap) HK3.out, ?_, HNE.out⟩), ?_⟩
  · have h := row_setCell HO.out b 1 (.slice ao nn cap) HNE.out
    rw [← HSC.out, hl, ← hs4]
    simpa using h
  · have h1 : Below B w w1 := below_of_grown' HG1.out hBb hBw
    have h2 : Below B w1 w3 := by
      obtain ⟨g1, g2, g3, g4, g5⟩ := HG3.out
      exact ⟨g1, g2, g3, g4, fun k hk => g5 k (by rw [HS1.out]; omega) (by simp [Value.ownBlock])⟩
    exact (h1.trans h2).setCell (p := ⟨b, 1, none⟩) hBb _

theorem inv_wstr (b : Nat) (w : World) : (method 228 29 (.pointer (some ⟨b, 0, none⟩)) "WriteString").run Tryd.prog w = .ok (83, .pointer (some ⟨b, 0, none⟩)) w := by kernel_rfl

set_option maxRecDepth 100000 in
theorem isnan_yes (x : Nat) (h : (FloatKind.f64.format.order x x != some .eq) = true) (w : World) :
    Calls Tryd.prog 12 #[.float .f64 x] w fun r w' => r = .returned (.bool true) ∧ w = w' := by
  go_enter Tryd.func12, Tryd.ntmps12
  go_wp2_with fail
  go_ret
  exact ⟨rfl, rfl⟩

set_option maxHeartbeats 1000000 in
set_option maxRecDepth 100000 in
theorem enc_nan (b E xi : Nat) (w : World) (hbE : b < E)
    (hbk : w.heap[b]? = some (.cells #[.pointer none, .slice none 0 0] 32 (0, 0)))
    (hB : BufAt w E (.iface 29 (.pointer (some ⟨b, 0, none⟩))) [])
    (o0 : (FloatKind.f64.format.order xi xi != some .eq) = true) :
    Calls Tryd.prog 9 #[.pointer (some ⟨E, 0, none⟩), .float .f64 xi] w fun r w' => r = .returned (.tuple #[]) ∧ ∃ L, L = [110, 117, 108, 108] ∧ Lib.IsBuilderF 32 5 b b (Lib.byteCells L) w' ∧ Below b w w' := by
  have HN := Lib.hid (isnan_yes xi o0)
  have HI := inv_wstr b
  have v4 := hB.2.1
  have hbl : b < w.heap.size := (Array.getElem?_eq_some_iff.1 hbk).1
  have HW := Lib.hid (wstr_fresh b b w (Nat.le_refl _) (Nat.le_of_lt hbl) hbk)
  obtain ⟨s, hs⟩ : ∃ s, s = nullS := ⟨_, rfl⟩
  clear hbk hB o0
  go_enter Tryd.func9, Tryd.ntmps9
  go_wp2_with (first | (go_at_call 12; refine (HN.out _).mono ?_; rintro r w2 ⟨rfl, rfl⟩) | (go_at_call 83; refine HW.out.mono ?_; rintro r w5 ⟨⟨y, rfl⟩, h1, h2⟩; have HI5 := Lib.hid h1; have HW5 := Lib.hid h2; clear h1 h2))
  (try simp only [Exit.inBlock, Exit.then])
  refine bodyPost_ret (results_none rfl _ _ _) rfl ?_
  exact ⟨rfl, _, rfl, HI5.out, HW5.out⟩
end Go.Proofs.YtkincdcknmdboaaDoor
