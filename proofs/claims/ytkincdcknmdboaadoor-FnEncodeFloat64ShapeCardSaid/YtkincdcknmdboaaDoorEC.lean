/- The walk of encodeFloat64, format e. -/
import Derived.Test.YtkincdcknmdboaaDoorEN
namespace Go.Proofs.YtkincdcknmdboaaDoor
open Go.RowKit
set_option linter.unusedVariables false
set_option linter.unusedSimpArgs false

theorem BufAt.tail {w : World} {E : Nat} {V : Value} {L : List UInt8} (h : BufAt w E V L) (j i : Nat) (hj : L.length = j + 4) (hi : i < 4) : w.cell? ⟨E, 1 + (j + i), none⟩ = some (.int .u8 ((L.getD (j + i) 0).toNat : Int)) := h.2.2.2 (j + i) (by omega)


theorem tail4 (P : List UInt8) (c : UInt8) (j : Nat) (L : List UInt8) (hL : L = P ++ [101, 45, 48, c]) (hj : P.length = j) : L.getD (j + 0) 0 = 101 ∧ L.getD (j + 1) 0 = 45 ∧ L.getD (j + 2) 0 = 48 ∧ L.getD (j + 3) 0 = c := by
  subst hL hj
  refine ⟨?_, ?_, ?_, ?_⟩ <;> simp [List.getD, List.getElem?_append_right]


theorem BufAt.pre {w : World} {E : Nat} {V : Value} {L N : List UInt8} (h : BufAt w E V (L ++ N)) : BufAt w E V L := by
  obtain ⟨h1, h2, h3, h4⟩ := h
  rw [List.length_append] at h1 h4
  refine ⟨by omega, h2, h3, fun j hj => ?_⟩
  have h := h4 j (by omega)
  rw [show (L ++ N).getD j 0 = L.getD j 0 by simp [List.getD, List.getElem?_append_left hj]] at h
  exact h
theorem BufAt.cleaned {w : World} {E : Nat} {V : Value} {P : List UInt8} {c : UInt8} {j : Nat} (h : BufAt w E V (P ++ [101, 45, 48, c])) (hj : P.length = j) : BufAt (w.setCell ⟨E, 1 + (j + 2), none⟩ (.int .u8 (c.toNat : Int))) E V (P ++ [101, 45, c]) := by
  have h64 := h.1
  have h1 : BufAt w E V (P ++ [101, 45]) := BufAt.pre (N := [48, c]) (h.cast (by simp))
  have h2 := h1.app [c] (by simp at h64 ⊢; omega)
  rw [show (P ++ [101, 45] : List UInt8).length = j + 2 by simp [hj]] at h2
  exact BufAt.cast h2 (by simp)


set_option maxHeartbeats 2000000 in
set_option maxRecDepth 100000 in
theorem enc_e_small_k4 (b E xi xm x a : Nat) (PL : List UInt8 → Prop) (w : World) (hbE : b < E)
    (hbk : w.heap[b]? = some (.cells #[.pointer none, .slice none 0 0] 32 (0, 0)))
    (hB : BufAt w E (.iface 29 (.pointer (some ⟨b, 0, none⟩))) [])
    (ha : bits .andNot .u64 x 9223372036854775808 = (a : Int))
    (o0 : (FloatKind.f64.format.order xi xi != some .eq) = false)
    (hmx : ∀ w : World, (Builtin.max_ #[23, 23] 23 #[.float .f64 xi, .float .f64 18442240474082181119]).run Tryd.prog w = .ok (.float .f64 xm) w)
    (hmn : ∀ w : World, (Builtin.min_ #[23, 23] 23 #[.float .f64 xm, .float .f64 9218868437227405311]).run Tryd.prog w = .ok (.float .f64 x) w)
    (o3 : (FloatKind.f64.format.order a 0 != some .eq) = true) (o4 : (FloatKind.f64.format.order a 4517329193108106637 == some .lt) = true)
    (HPL : ∀ L, PL L → ∃ j, L.length = j + 4 ∧ (L.getD (j + 0) 0).toNat ≠ 101)
    (HAF : ∀ w1, Below (b + 1) w w1 → BufAt w1 E (.iface 29 (.pointer (some ⟨b, 0, none⟩))) [] → b + 1 ≤ w1.heap.size → Calls Tryd.prog 14 #[.slice (some ⟨E, 1, none⟩) 0 64, .float .f64 x, .int .u8 101, .int .i64 (-1), .int .i64 64] w1 (BufPost (b + 1) E (.iface 29 (.pointer (some ⟨b, 0, none⟩))) PL w)) :
    Calls Tryd.prog 9 #[.pointer (some ⟨E, 0, none⟩), .float .f64 xi] w fun r w' => r = .returned (.tuple #[]) ∧ ∃ L, PL L ∧ Lib.IsBuilderF 32 5 b b (Lib.byteCells L) w' ∧ Below b w w' := by
  have HN := Lib.hid (isnan_no xi o0)
  have HA := Lib.hid (abs_any x a ha)
  have HI := inv_write b
  have HK := Lib.hid hbk
  have HB := Lib.hid hB
  have HF := Lib.hid HAF
  have HP0 := Lib.hid HPL
  have hbl : b < w.heap.size := (Array.getElem?_eq_some_iff.1 hbk).1
  clear hbk hB HAF o0 ha HPL
  have HBw : b + 1 ≤ w.heap.size := hbl
  go_enter Tryd.func9, Tryd.ntmps9
  go_wp2_with (first | (go_at_call 12; refine (HN.out _).mono ?_; rintro r w2 ⟨rfl, rfl⟩) | (go_at_call 13; refine (HA.out _).mono ?_; rintro r w2 ⟨rfl, rfl⟩) | (go_at_call 14; refine (HF.out w (Below.refl _ _) HB.out HBw).mono ?_; rintro r w4 ⟨L, rfl, h1, h2, h3⟩; have HP := Lib.hid h1; have HB4 := Lib.hid h2; have HW4 := Lib.hid h3; have h64 := h2.1; obtain ⟨j, hj, k4⟩ := HP0.out L h1; have t4 : w4.cell? ⟨E, 1 + j, none⟩ = _ := h2.tail j 0 hj (by omega); obtain ⟨c4, hc4⟩ : ∃ c : Int, c = ((L.getD (j + 0) 0).toNat : Int) := ⟨_, rfl⟩; rw [← hc4] at t4; have x4 : (c4 == 101) = false := by { rw [beq_eq_false_iff_ne]; omega }; clear k4 hc4; have v4 := h2.2.1; have HK4 := Lib.hid ((h3.block b (Nat.lt_succ_self b)).trans HK.out); have hs4 := h3.size; have HR4 := Lib.hid (by { have h := write_fresh b b E _ L w4 (Nat.le_refl _) (Nat.le_trans (Nat.le_of_lt hbl) h3.size) (by omega) ((h3.block b (Nat.lt_succ_self b)).trans HK.out) h2; rw [hj] at h; exact h }); clear h1 h2 h3; rw [hj]; have y0 : decide ((j : Int) + 4 ≥ 4) = true := (decide_eq_true (by omega)); have y1 : (j : Int) + 4 - 4 = j := (by omega); have y2 : (j : Int) + 4 - 3 = ((j + 1 : Nat) : Int) := (by omega); have y3 : (j : Int) + 4 - 2 = ((j + 2 : Nat) : Int) := (by omega); have y4 : (j : Int) + 4 - 1 = ((j + 3 : Nat) : Int) := (by omega); have hj60 : j ≤ 60 := (by omega)) | (go_at_call 82; refine HR4.out.mono ?_; rintro r w5 ⟨⟨y, rfl⟩, h1, h2⟩; have HI5 := Lib.hid h1; have HW5 := Lib.hid h2; clear h1 h2))
  go_end0
  exact ⟨rfl, L, HP.out, HI5.out, (HW4.out.mono (Nat.le_succ b)).trans HW5.out⟩


set_option maxHeartbeats 2000000 in
set_option maxRecDepth 100000 in
theorem enc_e_small_k2 (b E xi xm x a : Nat) (PL : List UInt8 → Prop) (w : World) (hbE : b < E)
    (hbk : w.heap[b]? = some (.cells #[.pointer none, .slice none 0 0] 32 (0, 0)))
    (hB : BufAt w E (.iface 29 (.pointer (some ⟨b, 0, none⟩))) [])
    (ha : bits .andNot .u64 x 9223372036854775808 = (a : Int))
    (o0 : (FloatKind.f64.format.order xi xi != some .eq) = false)
    (hmx : ∀ w : World, (Builtin.max_ #[23, 23] 23 #[.float .f64 xi, .float .f64 18442240474082181119]).run Tryd.prog w = .ok (.float .f64 xm) w)
    (hmn : ∀ w : World, (Builtin.min_ #[23, 23] 23 #[.float .f64 xm, .float .f64 9218868437227405311]).run Tryd.prog w = .ok (.float .f64 x) w)
    (o3 : (FloatKind.f64.format.order a 0 != some .eq) = true) (o4 : (FloatKind.f64.format.order a 4517329193108106637 == some .lt) = true)
    (HPL : ∀ L, PL L → ∃ j, L.length = j + 4 ∧ (L.getD (j + 0) 0).toNat = 101 ∧ (L.getD (j + 1) 0).toNat = 45 ∧ (L.getD (j + 2) 0).toNat ≠ 48)
    (HAF : ∀ w1, Below (b + 1) w w1 → BufAt w1 E (.iface 29 (.pointer (some ⟨b, 0, none⟩))) [] → b + 1 ≤ w1.heap.size → Calls Tryd.prog 14 #[.slice (some ⟨E, 1, none⟩) 0 64, .float .f64 x, .int .u8 101, .int .i64 (-1), .int .i64 64] w1 (BufPost (b + 1) E (.iface 29 (.pointer (some ⟨b, 0, none⟩))) PL w)) :
    Calls Tryd.prog 9 #[.pointer (some ⟨E, 0, none⟩), .float .f64 xi] w fun r w' => r = .returned (.tuple #[]) ∧ ∃ L, PL L ∧ Lib.IsBuilderF 32 5 b b (Lib.byteCells L) w' ∧ Below b w w' := by
  have HN := Lib.hid (isnan_no xi o0)
  have HA := Lib.hid (abs_any x a ha)
  have HI := inv_write b
  have HK := Lib.hid hbk
  have HB := Lib.hid hB
  have HF := Lib.hid HAF
  have HP0 := Lib.hid HPL
  have hbl : b < w.heap.size := (Array.getElem?_eq_some_iff.1 hbk).1
  clear hbk hB HAF o0 ha HPL
  have HBw : b + 1 ≤ w.heap.size := hbl
  go_enter Tryd.func9, Tryd.ntmps9
  go_wp2_with (first | (go_at_call 12; refine (HN.out _).mono ?_; rintro r w2 ⟨rfl, rfl⟩) | (go_at_call 13; refine (HA.out _).mono ?_; rintro r w2 ⟨rfl, rfl⟩) | (go_at_call 14; refine (HF.out w (Below.refl _ _) HB.out HBw).mono ?_; rintro r w4 ⟨L, rfl, h1, h2, h3⟩; have HP := Lib.hid h1; have HB4 := Lib.hid h2; have HW4 := Lib.hid h3; have h64 := h2.1; obtain ⟨j, hj, k4, k3, k2⟩ := HP0.out L h1; have t4 : w4.cell? ⟨E, 1 + j, none⟩ = some (.int .u8 101) := (by { have h := h2.tail j 0 hj (by omega); rw [k4] at h; exact h }); have t3 : w4.cell? ⟨E, 1 + (j + 1), none⟩ = some (.int .u8 45) := (by { have h := h2.tail j 1 hj (by omega); rw [k3] at h; exact h }); have t2 := h2.tail j 2 hj (by omega); obtain ⟨c2, hc2⟩ : ∃ c : Int, c = ((L.getD (j + 2) 0).toNat : Int) := ⟨_, rfl⟩; rw [← hc2] at t2; have x2 : (c2 == 48) = false := by { rw [beq_eq_false_iff_ne]; omega }; clear k4 k3 k2 hc2; have v4 := h2.2.1; have HK4 := Lib.hid ((h3.block b (Nat.lt_succ_self b)).trans HK.out); have hs4 := h3.size; have HR4 := Lib.hid (by { have h := write_fresh b b E _ L w4 (Nat.le_refl _) (Nat.le_trans (Nat.le_of_lt hbl) h3.size) (by omega) ((h3.block b (Nat.lt_succ_self b)).trans HK.out) h2; rw [hj] at h; exact h }); clear h1 h2 h3; rw [hj]; have y0 : decide ((j : Int) + 4 ≥ 4) = true := (decide_eq_true (by omega)); have y1 : (j : Int) + 4 - 4 = j := (by omega); have y2 : (j : Int) + 4 - 3 = ((j + 1 : Nat) : Int) := (by omega); have y3 : (j : Int) + 4 - 2 = ((j + 2 : Nat) : Int) := (by omega); have y4 : (j : Int) + 4 - 1 = ((j + 3 : Nat) : Int) := (by omega); have hj60 : j ≤ 60 := (by omega)) | (go_at_call 82; refine HR4.out.mono ?_; rintro r w5 ⟨⟨y, rfl⟩, h1, h2⟩; have HI5 := Lib.hid h1; have HW5 := Lib.hid h2; clear h1 h2))
  go_end0
  exact ⟨rfl, L, HP.out, HI5.out, (HW4.out.mono (Nat.le_succ b)).trans HW5.out⟩


set_option maxHeartbeats 2000000 in
set_option maxRecDepth 100000 in
theorem enc_e_small_cl (b E xi xm x a : Nat) (PL PQ : List UInt8 → Prop) (w : World) (hbE : b < E)
    (hbk : w.heap[b]? = some (.cells #[.pointer none, .slice none 0 0] 32 (0, 0)))
    (hB : BufAt w E (.iface 29 (.pointer (some ⟨b, 0, none⟩))) [])
    (ha : bits .andNot .u64 x 9223372036854775808 = (a : Int))
    (o0 : (FloatKind.f64.format.order xi xi != some .eq) = false)
    (hmx : ∀ w : World, (Builtin.max_ #[23, 23] 23 #[.float .f64 xi, .float .f64 18442240474082181119]).run Tryd.prog w = .ok (.float .f64 xm) w)
    (hmn : ∀ w : World, (Builtin.min_ #[23, 23] 23 #[.float .f64 xm, .float .f64 9218868437227405311]).run Tryd.prog w = .ok (.float .f64 x) w)
    (o3 : (FloatKind.f64.format.order a 0 != some .eq) = true) (o4 : (FloatKind.f64.format.order a 4517329193108106637 == some .lt) = true)
    (HPL : ∀ L, PL L → ∃ P c, L = P ++ [101, 45, 48, c] ∧ PQ (P ++ [101, 45, c]))
    (HAF : ∀ w1, Below (b + 1) w w1 → BufAt w1 E (.iface 29 (.pointer (some ⟨b, 0, none⟩))) [] → b + 1 ≤ w1.heap.size → Calls Tryd.prog 14 #[.slice (some ⟨E, 1, none⟩) 0 64, .float .f64 x, .int .u8 101, .int .i64 (-1), .int .i64 64] w1 (BufPost (b + 1) E (.iface 29 (.pointer (some ⟨b, 0, none⟩))) PL w)) :
    Calls Tryd.prog 9 #[.pointer (some ⟨E, 0, none⟩), .float .f64 xi] w fun r w' => r = .returned (.tuple #[]) ∧ ∃ L, PQ L ∧ Lib.IsBuilderF 32 5 b b (Lib.byteCells L) w' ∧ Below b w w' := by
  have HN := Lib.hid (isnan_no xi o0)
  have HA := Lib.hid (abs_any x a ha)
  have HI := inv_write b
  have HK := Lib.hid hbk
  have HB := Lib.hid hB
  have HF := Lib.hid HAF
  have HP0 := Lib.hid HPL
  have hbl : b < w.heap.size := (Array.getElem?_eq_some_iff.1 hbk).1
  clear hbk hB HAF o0 ha HPL
  have HBw : b + 1 ≤ w.heap.size := hbl
  go_enter Tryd.func9, Tryd.ntmps9
  go_wp2_with (first | (go_at_call 12; refine (HN.out _).mono ?_; rintro r w2 ⟨rfl, rfl⟩) | (go_at_call 13; refine (HA.out _).mono ?_; rintro r w2 ⟨rfl, rfl⟩) | (go_at_call 14; refine (HF.out w (Below.refl _ _) HB.out HBw).mono ?_; rintro r w4 ⟨L, rfl, h1, h2, h3⟩; have HP := Lib.hid h1; have HB4 := Lib.hid h2; have HW4 := Lib.hid h3; have h64 := h2.1; obtain ⟨P, c, hL, hQ⟩ := HP0.out L h1; obtain ⟨j, hjP⟩ : ∃ j, P.length = j := ⟨_, rfl⟩; have hj : L.length = j + 4 := by { rw [hL]; simp [hjP] }; obtain ⟨e4, e3, e2, e1⟩ := tail4 P c j L hL hjP; have t4 : w4.cell? ⟨E, 1 + j, none⟩ = some (.int .u8 101) := (by { have h := h2.tail j 0 hj (by omega); rw [e4] at h; exact h }); have t3 : w4.cell? ⟨E, 1 + (j + 1), none⟩ = some (.int .u8 45) := (by { have h := h2.tail j 1 hj (by omega); rw [e3] at h; exact h }); have t2 : w4.cell? ⟨E, 1 + (j + 2), none⟩ = some (.int .u8 48) := (by { have h := h2.tail j 2 hj (by omega); rw [e2] at h; exact h }); have t1 := h2.tail j 3 hj (by omega); rw [e1] at t1; obtain ⟨z1, hz1⟩ : ∃ z : Int, z = (c.toNat : Int) := ⟨_, rfl⟩; rw [← hz1] at t1; have HL := Lib.hid (And.intro hL (And.intro hjP (And.intro hz1 hQ))); clear hL hjP hz1 hQ e4 e3 e2 e1; have v4 := h2.2.1; have HK4 := Lib.hid ((h3.block b (Nat.lt_succ_self b)).trans HK.out); have hs4 := h3.size; have fz := (h2.2.2.1 (j + 2) (by omega)).2; have HR4 := Lib.hid (by { have h := write_fresh b b E _ (P ++ [101, 45, c]) (w4.setCell ⟨E, 1 + (j + 2), none⟩ (.int .u8 z1)) (Nat.le_refl _) (by { simp only [World.setCell, Array.size_modify]; exact Nat.le_trans (Nat.le_of_lt hbl) h3.size }) (by omega) ((heap_setCell_other w4 _ _ _ (by { show b ≠ E; omega })).trans ((h3.block b (Nat.lt_succ_self b)).trans HK.out)) (by { rw [HL.out.2.2.1]; exact BufAt.cleaned (HL.out.1 ▸ h2) HL.out.2.1 }); rw [show (P ++ [101, 45, c] : List UInt8).length = j + 3 by { simp [HL.out.2.1] }] at h; exact h }); clear h1 h2 h3; rw [hj]; have y0 : decide ((j : Int) + 4 ≥ 4) = true := (decide_eq_true (by omega)); have y1 : (j : Int) + 4 - 4 = j := (by omega); have y2 : (j : Int) + 4 - 3 = ((j + 1 : Nat) : Int) := (by omega); have y3 : (j : Int) + 4 - 2 = ((j + 2 : Nat) : Int) := (by omega); have y4 : (j : Int) + 4 - 1 = ((j + 3 : Nat) : Int) := (by omega); have hj60 : j ≤ 60 := (by omega)) | (go_at_call 82; refine HR4.out.mono ?_; rintro r w5 ⟨⟨y, rfl⟩, h1, h2⟩; have HI5 := Lib.hid h1; have HW5 := Lib.hid h2; clear h1 h2))
  go_end0
  exact ⟨rfl, P ++ [101, 45, c], HL.out.2.2.2, HI5.out, (((HW4.out.mono (Nat.le_succ b)).setCell (p := ⟨E, 1 + (j + 2), none⟩) (Nat.le_of_lt hbE) _)).trans HW5.out⟩


set_option maxHeartbeats 2000000 in
set_option maxRecDepth 100000 in
theorem enc_e_great_k4 (b E xi xm x a : Nat) (PL : List UInt8 → Prop) (w : World) (hbE : b < E)
    (hbk : w.heap[b]? = some (.cells #[.pointer none, .slice none 0 0] 32 (0, 0)))
    (hB : BufAt w E (.iface 29 (.pointer (some ⟨b, 0, none⟩))) [])
    (ha : bits .andNot .u64 x 9223372036854775808 = (a : Int))
    (o0 : (FloatKind.f64.format.order xi xi != some .eq) = false)
    (hmx : ∀ w : World, (Builtin.max_ #[23, 23] 23 #[.float .f64 xi, .float .f64 18442240474082181119]).run Tryd.prog w = .ok (.float .f64 xm) w)
    (hmn : ∀ w : World, (Builtin.min_ #[23, 23] 23 #[.float .f64 xm, .float .f64 9218868437227405311]).run Tryd.prog w = .ok (.float .f64 x) w)
    (o3 : (FloatKind.f64.format.order a 0 != some .eq) = true) (o4 : (FloatKind.f64.format.order a 4517329193108106637 == some .lt) = false)
    (o5 : (FloatKind.f64.format.order a 4921056587992461136 == some .gt || FloatKind.f64.format.order a 4921056587992461136 == some .eq) = true)
    (HPL : ∀ L, PL L → ∃ j, L.length = j + 4 ∧ (L.getD (j + 0) 0).toNat ≠ 101)
    (HAF : ∀ w1, Below (b + 1) w w1 → BufAt w1 E (.iface 29 (.pointer (some ⟨b, 0, none⟩))) [] → b + 1 ≤ w1.heap.size → Calls Tryd.prog 14 #[.slice (some ⟨E, 1, none⟩) 0 64, .float .f64 x, .int .u8 101, .int .i64 (-1), .int .i64 64] w1 (BufPost (b + 1) E (.iface 29 (.pointer (some ⟨b, 0, none⟩))) PL w)) :
    Calls Tryd.prog 9 #[.pointer (some ⟨E, 0, none⟩), .float .f64 xi] w fun r w' => r = .returned (.tuple #[]) ∧ ∃ L, PL L ∧ Lib.IsBuilderF 32 5 b b (Lib.byteCells L) w' ∧ Below b w w' := by
  have HN := Lib.hid (isnan_no xi o0)
  have HA := Lib.hid (abs_any x a ha)
  have HI := inv_write b
  have HK := Lib.hid hbk
  have HB := Lib.hid hB
  have HF := Lib.hid HAF
  have HP0 := Lib.hid HPL
  have hbl : b < w.heap.size := (Array.getElem?_eq_some_iff.1 hbk).1
  clear hbk hB HAF o0 ha HPL
  have HBw : b + 1 ≤ w.heap.size := hbl
  go_enter Tryd.func9, Tryd.ntmps9
  go_wp2_with (first | (go_at_call 12; refine (HN.out _).mono ?_; rintro r w2 ⟨rfl, rfl⟩) | (go_at_call 13; refine (HA.out _).mono ?_; rintro r w2 ⟨rfl, rfl⟩) | (go_at_call 14; refine (HF.out w (Below.refl _ _) HB.out HBw).mono ?_; rintro r w4 ⟨L, rfl, h1, h2, h3⟩; have HP := Lib.hid h1; have HB4 := Lib.hid h2; have HW4 := Lib.hid h3; have h64 := h2.1; obtain ⟨j, hj, k4⟩ := HP0.out L h1; have t4 : w4.cell? ⟨E, 1 + j, none⟩ = _ := h2.tail j 0 hj (by omega); obtain ⟨c4, hc4⟩ : ∃ c : Int, c = ((L.getD (j + 0) 0).toNat : Int) := ⟨_, rfl⟩; rw [← hc4] at t4; have x4 : (c4 == 101) = false := by { rw [beq_eq_false_iff_ne]; omega }; clear k4 hc4; have v4 := h2.2.1; have HK4 := Lib.hid ((h3.block b (Nat.lt_succ_self b)).trans HK.out); have hs4 := h3.size; have HR4 := Lib.hid (by { have h := write_fresh b b E _ L w4 (Nat.le_refl _) (Nat.le_trans (Nat.le_of_lt hbl) h3.size) (by omega) ((h3.block b (Nat.lt_succ_self b)).trans HK.out) h2; rw [hj] at h; exact h }); clear h1 h2 h3; rw [hj]; have y0 : decide ((j : Int) + 4 ≥ 4) = true := (decide_eq_true (by omega)); have y1 : (j : Int) + 4 - 4 = j := (by omega); have y2 : (j : Int) + 4 - 3 = ((j + 1 : Nat) : Int) := (by omega); have y3 : (j : Int) + 4 - 2 = ((j + 2 : Nat) : Int) := (by omega); have y4 : (j : Int) + 4 - 1 = ((j + 3 : Nat) : Int) := (by omega); have hj60 : j ≤ 60 := (by omega)) | (go_at_call 82; refine HR4.out.mono ?_; rintro r w5 ⟨⟨y, rfl⟩, h1, h2⟩; have HI5 := Lib.hid h1; have HW5 := Lib.hid h2; clear h1 h2))
  go_end0
  exact ⟨rfl, L, HP.out, HI5.out, (HW4.out.mono (Nat.le_succ b)).trans HW5.out⟩


set_option maxHeartbeats 2000000 in
set_option maxRecDepth 100000 in
theorem enc_e_great_k3 (b E xi xm x a : Nat) (PL : List UInt8 → Prop) (w : World) (hbE : b < E)
    (hbk : w.heap[b]? = some (.cells #[.pointer none, .slice none 0 0] 32 (0, 0)))
    (hB : BufAt w E (.iface 29 (.pointer (some ⟨b, 0, none⟩))) [])
    (ha : bits .andNot .u64 x 9223372036854775808 = (a : Int))
    (o0 : (FloatKind.f64.format.order xi xi != some .eq) = false)
    (hmx : ∀ w : World, (Builtin.max_ #[23, 23] 23 #[.float .f64 xi, .float .f64 18442240474082181119]).run Tryd.prog w = .ok (.float .f64 xm) w)
    (hmn : ∀ w : World, (Builtin.min_ #[23, 23] 23 #[.float .f64 xm, .float .f64 9218868437227405311]).run Tryd.prog w = .ok (.float .f64 x) w)
    (o3 : (FloatKind.f64.format.order a 0 != some .eq) = true) (o4 : (FloatKind.f64.format.order a 4517329193108106637 == some .lt) = false)
    (o5 : (FloatKind.f64.format.order a 4921056587992461136 == some .gt || FloatKind.f64.format.order a 4921056587992461136 == some .eq) = true)
    (HPL : ∀ L, PL L → ∃ j, L.length = j + 4 ∧ (L.getD (j + 0) 0).toNat = 101 ∧ (L.getD (j + 1) 0).toNat ≠ 45)
    (HAF : ∀ w1, Below (b + 1) w w1 → BufAt w1 E (.iface 29 (.pointer (some ⟨b, 0, none⟩))) [] → b + 1 ≤ w1.heap.size → Calls Tryd.prog 14 #[.slice (some ⟨E, 1, none⟩) 0 64, .float .f64 x, .int .u8 101, .int .i64 (-1), .int .i64 64] w1 (BufPost (b + 1) E (.iface 29 (.pointer (some ⟨b, 0, none⟩))) PL w)) :
    Calls Tryd.prog 9 #[.pointer (some ⟨E, 0, none⟩), .float .f64 xi] w fun r w' => r = .returned (.tuple #[]) ∧ ∃ L, PL L ∧ Lib.IsBuilderF 32 5 b b (Lib.byteCells L) w' ∧ Below b w w' := by
  have HN := Lib.hid (isnan_no xi o0)
  have HA := Lib.hid (abs_any x a ha)
  have HI := inv_write b
  have HK := Lib.hid hbk
  have HB := Lib.hid hB
  have HF := Lib.hid HAF
  have HP0 := Lib.hid HPL
  have hbl : b < w.heap.size := (Array.getElem?_eq_some_iff.1 hbk).1
  clear hbk hB HAF o0 ha HPL
  have HBw : b + 1 ≤ w.heap.size := hbl
  go_enter Tryd.func9, Tryd.ntmps9
  go_wp2_with (first | (go_at_call 12; refine (HN.out _).mono ?_; rintro r w2 ⟨rfl, rfl⟩) | (go_at_call 13; refine (HA.out _).mono ?_; rintro r w2 ⟨rfl, rfl⟩) | (go_at_call 14; refine (HF.out w (Below.refl _ _) HB.out HBw).mono ?_; rintro r w4 ⟨L, rfl, h1, h2, h3⟩; have HP := Lib.hid h1; have HB4 := Lib.hid h2; have HW4 := Lib.hid h3; have h64 := h2.1; obtain ⟨j, hj, k4, k3⟩ := HP0.out L h1; have t4 : w4.cell? ⟨E, 1 + j, none⟩ = some (.int .u8 101) := (by { have h := h2.tail j 0 hj (by omega); rw [k4] at h; exact h }); have t3 := h2.tail j 1 hj (by omega); obtain ⟨c3, hc3⟩ : ∃ c : Int, c = ((L.getD (j + 1) 0).toNat : Int) := ⟨_, rfl⟩; rw [← hc3] at t3; have x3 : (c3 == 45) = false := by { rw [beq_eq_false_iff_ne]; omega }; clear k4 k3 hc3; have v4 := h2.2.1; have HK4 := Lib.hid ((h3.block b (Nat.lt_succ_self b)).trans HK.out); have hs4 := h3.size; have HR4 := Lib.hid (by { have h := write_fresh b b E _ L w4 (Nat.le_refl _) (Nat.le_trans (Nat.le_of_lt hbl) h3.size) (by omega) ((h3.block b (Nat.lt_succ_self b)).trans HK.out) h2; rw [hj] at h; exact h }); clear h1 h2 h3; rw [hj]; have y0 : decide ((j : Int) + 4 ≥ 4) = true := (decide_eq_true (by omega)); have y1 : (j : Int) + 4 - 4 = j := (by omega); have y2 : (j : Int) + 4 - 3 = ((j + 1 : Nat) : Int) := (by omega); have y3 : (j : Int) + 4 - 2 = ((j + 2 : Nat) : Int) := (by omega); have y4 : (j : Int) + 4 - 1 = ((j + 3 : Nat) : Int) := (by omega); have hj60 : j ≤ 60 := (by omega)) | (go_at_call 82; refine HR4.out.mono ?_; rintro r w5 ⟨⟨y, rfl⟩, h1, h2⟩; have HI5 := Lib.hid h1; have HW5 := Lib.hid h2; clear h1 h2))
  go_end0
  exact ⟨rfl, L, HP.out, HI5.out, (HW4.out.mono (Nat.le_succ b)).trans HW5.out⟩

end Go.Proofs.YtkincdcknmdboaaDoor
