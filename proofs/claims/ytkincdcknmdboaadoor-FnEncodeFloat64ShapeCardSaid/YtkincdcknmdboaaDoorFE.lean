/- The walk of fmtEFG, format e. -/
import Derived.Test.YtkincdcknmdboaaDoorFF
namespace Go.Proofs.YtkincdcknmdboaaDoor
open Go.RowKit
set_option linter.unusedVariables false
set_option linter.unusedSimpArgs false

/-- append of some bytes that the translation lays into a block of their own -/
theorem append_lit (w0 : World) {ops : Array Oper} {rest : List Oper} {o : Oper} {a : Act} {Q : Exit → Act → World → Prop} (hgd : o.guard = none) (s x : Operand)
    (ho : o.op = .call { callee := .builtin .append, args := #[s, x], argTypes := #[30, 30] })
    (E : Nat) (V : Value) (L N : List UInt8) (C : Array Value) (hC : C.toList = Lib.byteCells N) (n m : Nat) (hm : N.length = m) (hn : L.length = n) (hs : a.eval s = .slice (some ⟨E, 1, none⟩) n 64) (hB : BufAt w0 E V L) (hx : a.eval x = .slice (some ⟨w0.heap.size, 0, none⟩) m m)
    (h64 : n + m ≤ 64)
    (h : ∀ w', BufAt w' E V (L ++ N) → w0.grownBy w' (some E) → wpList Tryd.prog ops Q rest (a.put o.dst (.slice (some ⟨E, 1, none⟩) (n + m : Nat) 64)) w') : wpList Tryd.prog ops Q (o :: rest) a (w0.alloc (.cells C 5)) := by
  have hb : (w0.alloc (.cells C 5)).heap[w0.heap.size]? = some (.cells C 5 (0, 0)) := by
    show (w0.heap.push _)[w0.heap.size]? = _
    simp
  refine append_buf (w0.alloc (.cells C 5)) hgd s x ho E V L N n hn hs (hB.grown (World.grownBy_alloc _ _ _)) ⟨w0.heap.size, 0, none⟩ m m hm hx (fun j hj => ?_) h64 (fun w' h1 h2 => ?_)
  · rw [show (⟨w0.heap.size, 0, none⟩ : Addr).add j = ⟨w0.heap.size, j, none⟩ from by cases j <;> simp [Addr.add], Lib.cell_of_heap hb, ← Array.getElem?_toList, hC]
    have hj2 : j < N.length := by omega
    simp [Lib.byteCells, List.getD, hj2]
  · have := h w' h1 ((World.grownBy_alloc w0 _ _).trans h2)
    simpa using this


set_option maxRecDepth 100000 in
set_option maxHeartbeats 2000000 in
theorem fe_1m1 (E D n u a : Nat) (hpn : 1 ≤ n) (dp : Int) (V : Value) (neg : Bool) (w : World) (hB : BufAt w E V []) (hD : DigAt w D n u) (hED : D ≠ E) (hn : n ≤ 20) (ha : a < 10) (hdp : dp - 1 = -(a : Int)) (ha1 : 1 ≤ a) :
    Calls Tryd.prog 24 #[.slice (some ⟨E, 1, none⟩) 0 64, .bool neg, .slice (some ⟨D, 0, none⟩) 32 32, .int .i64 dp, .int .i64 1, .int .i64 0, .int .u8 101, .bool true] w fun res w' => ∃ L : List UInt8, res = .returned (.slice (some ⟨E, 1, none⟩) L.length 64) ∧ L = (if neg then [45] else []) ++ [Lib.dg u (n - 1)] ++ [101] ++ [45] ++ [48, UInt8.ofNat (48 + a)] ∧ BufAt w' E V L ∧ w.grownBy w' (some E) := by
  have HB0 := Lib.hid hB
  have HG0 := Lib.hid (World.grownBy.refl w (some E))
  obtain ⟨z1, hz1⟩ : ∃ z : Int, z = (a : Int) + 48 := ⟨_, rfl⟩
  obtain ⟨e1, he1⟩ : ∃ e : UInt8, e = UInt8.ofNat (48 + a) := ⟨_, rfl⟩
  have hze1 : z1 = (e1.toNat : Int) := by rw [hz1, he1, UInt8.toNat_ofNat']; omega
  rw [← he1]
  have HX : Hid ((#[.int .u8 48, .int .u8 z1] : Array Value).toList = Lib.byteCells [48, e1]) := Lib.hid (by simp [Lib.byteCells, hze1])
  have q1 : IntKind.u8.wrap (a : Int) = (a : Int) := by rw [IntKind.wrap_u8]; omega
  have q2 : IntKind.u8.wrap ((a : Int) + 48) = z1 := by rw [IntKind.wrap_u8]; omega
  have y1 : decide (dp - 1 < 0) = true := by simp; omega
  have y1m : decide (-(a : Int) < 0) = true := by simp; omega
  have y1n : 0 < a := ha1
  have y2 : - -(a : Int) = (a : Int) := by omega
  have y3 : decide ((a : Int) < 10) = true := by simp; omega
  have y3n : decide (a < 10) = true := by simp; omega
  obtain ⟨b, hb⟩ : ∃ b, b = Lib.dg u (n - 1) := ⟨_, rfl⟩
  rw [← hb]
  have HC1 : Hid (∀ w1 : World, w.grownBy w1 (some E) → w1.cell? ⟨D, 0, none⟩ = some (.int .u8 (b.toNat : Int))) := Lib.hid (fun w1 hg => by rw [hb]; exact hg.cell (hD 0 (by omega)) (by simp [hED]))
  obtain ⟨c, hc⟩ : ∃ c : Int, c = (b.toNat : Int) := ⟨_, rfl⟩
  rw [← hc] at HC1
  have HCc := Lib.hid hc
  clear hb hc hB hD hz1 he1 hze1
  have c1 := HC1.out w HG0.out
  cases neg
  · go_enter Tryd.func24, Tryd.ntmps24
    go_wp2_with (first | (at_builtin; refine append_byte _ rfl _ _ rfl E V ([]) b c HCc.out 0 rfl rfl HB0.out rfl (by omega) ?_; intro w90 hb90 hg90; have HB90 := Lib.hid hb90; have HG90 := Lib.hid (HG0.out.trans hg90); clear hb90 hg90) | (at_builtin; refine append_byte _ rfl _ _ rfl E V ([] ++ [b]) 101 _ rfl 1 rfl rfl HB90.out rfl (by omega) ?_; intro w91 hb91 hg91; have HB91 := Lib.hid hb91; have HG91 := Lib.hid (HG90.out.trans hg91); clear hb91 hg91) | (at_builtin; refine append_byte _ rfl _ _ rfl E V ([] ++ [b] ++ [101]) 45 _ rfl 2 rfl rfl HB91.out rfl (by omega) ?_; intro w92 hb92 hg92; have HB92 := Lib.hid hb92; have HG92 := Lib.hid (HG91.out.trans hg92); clear hb92 hg92) | (at_builtin; refine append_lit _ rfl _ _ rfl E V ([] ++ [b] ++ [101] ++ [45]) [48, e1] #[.int .u8 48, .int .u8 z1] HX.out 3 2 rfl rfl rfl HB92.out rfl (by omega) ?_; intro w93 hb93 hg93; have HB93 := Lib.hid hb93; have HG93 := Lib.hid (HG92.out.trans hg93); clear hb93 hg93))
    go_ret
    exact ⟨[] ++ [b] ++ [101] ++ [45] ++ [48, e1], rfl, by simp, HB93.out, HG93.out⟩
  · go_enter Tryd.func24, Tryd.ntmps24
    go_wp2_with (first | (at_builtin; refine append_byte _ rfl _ _ rfl E V ([]) 45 _ rfl 0 rfl rfl HB0.out rfl (by omega) ?_; intro w90 hb90 hg90; have HB90 := Lib.hid hb90; have HG90 := Lib.hid (HG0.out.trans hg90); clear hb90 hg90; have c2 := HC1.out _ HG90.out) | (at_builtin; refine append_byte _ rfl _ _ rfl E V ([] ++ [45]) b c HCc.out 1 rfl rfl HB90.out rfl (by omega) ?_; intro w91 hb91 hg91; have HB91 := Lib.hid hb91; have HG91 := Lib.hid (HG90.out.trans hg91); clear hb91 hg91) | (at_builtin; refine append_byte _ rfl _ _ rfl E V ([] ++ [45] ++ [b]) 101 _ rfl 2 rfl rfl HB91.out rfl (by omega) ?_; intro w92 hb92 hg92; have HB92 := Lib.hid hb92; have HG92 := Lib.hid (HG91.out.trans hg92); clear hb92 hg92) | (at_builtin; refine append_byte _ rfl _ _ rfl E V ([] ++ [45] ++ [b] ++ [101]) 45 _ rfl 3 rfl rfl HB92.out rfl (by omega) ?_; intro w93 hb93 hg93; have HB93 := Lib.hid hb93; have HG93 := Lib.hid (HG92.out.trans hg93); clear hb93 hg93) | (at_builtin; refine append_lit _ rfl _ _ rfl E V ([] ++ [45] ++ [b] ++ [101] ++ [45]) [48, e1] #[.int .u8 48, .int .u8 z1] HX.out 4 2 rfl rfl rfl HB93.out rfl (by omega) ?_; intro w94 hb94 hg94; have HB94 := Lib.hid hb94; have HG94 := Lib.hid (HG93.out.trans hg94); clear hb94 hg94))
    go_ret
    exact ⟨[] ++ [45] ++ [b] ++ [101] ++ [45] ++ [48, e1], rfl, by simp, HB94.out, HG94.out⟩


set_option maxRecDepth 100000 in
set_option maxHeartbeats 2000000 in
theorem fe_1m2 (E D n u a : Nat) (hpn : 1 ≤ n) (dp : Int) (V : Value) (neg : Bool) (w : World) (hB : BufAt w E V []) (hD : DigAt w D n u) (hED : D ≠ E) (hn : n ≤ 20) (ha0 : 10 ≤ a) (ha : a < 100) (hdp : dp - 1 = -(a : Int)) (ha1 : 1 ≤ a) :
    Calls Tryd.prog 24 #[.slice (some ⟨E, 1, none⟩) 0 64, .bool neg, .slice (some ⟨D, 0, none⟩) 32 32, .int .i64 dp, .int .i64 1, .int .i64 0, .int .u8 101, .bool true] w fun res w' => ∃ L : List UInt8, res = .returned (.slice (some ⟨E, 1, none⟩) L.length 64) ∧ L = (if neg then [45] else []) ++ [Lib.dg u (n - 1)] ++ [101] ++ [45] ++ [UInt8.ofNat (48 + a / 10), UInt8.ofNat (48 + a % 10)] ∧ BufAt w' E V L ∧ w.grownBy w' (some E) := by
  have HB0 := Lib.hid hB
  have HG0 := Lib.hid (World.grownBy.refl w (some E))
  obtain ⟨z1, hz1⟩ : ∃ z : Int, z = (a : Int) / 10 + 48 := ⟨_, rfl⟩
  obtain ⟨e1, he1⟩ : ∃ e : UInt8, e = UInt8.ofNat (48 + a / 10) := ⟨_, rfl⟩
  have hze1 : z1 = (e1.toNat : Int) := by rw [hz1, he1, UInt8.toNat_ofNat']; omega
  rw [← he1]
  obtain ⟨z2, hz2⟩ : ∃ z : Int, z = (a : Int) % 10 + 48 := ⟨_, rfl⟩
  obtain ⟨e2, he2⟩ : ∃ e : UInt8, e = UInt8.ofNat (48 + a % 10) := ⟨_, rfl⟩
  have hze2 : z2 = (e2.toNat : Int) := by rw [hz2, he2, UInt8.toNat_ofNat']; omega
  rw [← he2]
  have HX : Hid ((#[.int .u8 z1, .int .u8 z2] : Array Value).toList = Lib.byteCells [e1, e2]) := Lib.hid (by simp [Lib.byteCells, hze1, hze2])
  have q1 : IntKind.u8.wrap ((a : Int) / 10) = (a : Int) / 10 := by rw [IntKind.wrap_u8]; omega
  have q2 : IntKind.u8.wrap ((a : Int) / 10 + 48) = z1 := by rw [IntKind.wrap_u8]; omega
  have q3 : IntKind.u8.wrap ((a : Int) % 10) = (a : Int) % 10 := by rw [IntKind.wrap_u8]; omega
  have q4 : IntKind.u8.wrap ((a : Int) % 10 + 48) = z2 := by rw [IntKind.wrap_u8]; omega
  have y1 : decide (dp - 1 < 0) = true := by simp; omega
  have y1m : decide (-(a : Int) < 0) = true := by simp; omega
  have y1n : 0 < a := ha1
  have y2 : - -(a : Int) = (a : Int) := by omega
  have y3 : decide ((a : Int) < 10) = false := by simp; omega
  have y3n : decide (a < 10) = false := by simp; omega
  have y4 : decide ((a : Int) < 100) = true := by simp; omega
  have y4n : decide (a < 100) = true := by simp; omega
  obtain ⟨b, hb⟩ : ∃ b, b = Lib.dg u (n - 1) := ⟨_, rfl⟩
  rw [← hb]
  have HC1 : Hid (∀ w1 : World, w.grownBy w1 (some E) → w1.cell? ⟨D, 0, none⟩ = some (.int .u8 (b.toNat : Int))) := Lib.hid (fun w1 hg => by rw [hb]; exact hg.cell (hD 0 (by omega)) (by simp [hED]))
  obtain ⟨c, hc⟩ : ∃ c : Int, c = (b.toNat : Int) := ⟨_, rfl⟩
  rw [← hc] at HC1
  have HCc := Lib.hid hc
  clear hb hc hB hD hz1 he1 hze1 hz2 he2 hze2
  have c1 := HC1.out w HG0.out
  cases neg
  · go_enter Tryd.func24, Tryd.ntmps24
    go_wp2_with (first | (at_builtin; refine append_byte _ rfl _ _ rfl E V ([]) b c HCc.out 0 rfl rfl HB0.out rfl (by omega) ?_; intro w90 hb90 hg90; have HB90 := Lib.hid hb90; have HG90 := Lib.hid (HG0.out.trans hg90); clear hb90 hg90) | (at_builtin; refine append_byte _ rfl _ _ rfl E V ([] ++ [b]) 101 _ rfl 1 rfl rfl HB90.out rfl (by omega) ?_; intro w91 hb91 hg91; have HB91 := Lib.hid hb91; have HG91 := Lib.hid (HG90.out.trans hg91); clear hb91 hg91) | (at_builtin; refine append_byte _ rfl _ _ rfl E V ([] ++ [b] ++ [101]) 45 _ rfl 2 rfl rfl HB91.out rfl (by omega) ?_; intro w92 hb92 hg92; have HB92 := Lib.hid hb92; have HG92 := Lib.hid (HG91.out.trans hg92); clear hb92 hg92) | (at_builtin; refine append_lit _ rfl _ _ rfl E V ([] ++ [b] ++ [101] ++ [45]) [e1, e2] #[.int .u8 z1, .int .u8 z2] HX.out 3 2 rfl rfl rfl HB92.out rfl (by omega) ?_; intro w93 hb93 hg93; have HB93 := Lib.hid hb93; have HG93 := Lib.hid (HG92.out.trans hg93); clear hb93 hg93))
    go_ret
    exact ⟨[] ++ [b] ++ [101] ++ [45] ++ [e1, e2], rfl, by simp, HB93.out, HG93.out⟩
  · go_enter Tryd.func24, Tryd.ntmps24
    go_wp2_with (first | (at_builtin; refine append_byte _ rfl _ _ rfl E V ([]) 45 _ rfl 0 rfl rfl HB0.out rfl (by omega) ?_; intro w90 hb90 hg90; have HB90 := Lib.hid hb90; have HG90 := Lib.hid (HG0.out.trans hg90); clear hb90 hg90; have c2 := HC1.out _ HG90.out) | (at_builtin; refine append_byte _ rfl _ _ rfl E V ([] ++ [45]) b c HCc.out 1 rfl rfl HB90.out rfl (by omega) ?_; intro w91 hb91 hg91; have HB91 := Lib.hid hb91; have HG91 := Lib.hid (HG90.out.trans hg91); clear hb91 hg91) | (at_builtin; refine append_byte _ rfl _ _ rfl E V ([] ++ [45] ++ [b]) 101 _ rfl 2 rfl rfl HB91.out rfl (by omega) ?_; intro w92 hb92 hg92; have HB92 := Lib.hid hb92; have HG92 := Lib.hid (HG91.out.trans hg92); clear hb92 hg92) | (at_builtin; refine append_byte _ rfl _ _ rfl E V ([] ++ [45] ++ [b] ++ [101]) 45 _ rfl 3 rfl rfl HB92.out rfl (by omega) ?_; intro w93 hb93 hg93; have HB93 := Lib.hid hb93; have HG93 := Lib.hid (HG92.out.trans hg93); clear hb93 hg93) | (at_builtin; refine append_lit _ rfl _ _ rfl E V ([] ++ [45] ++ [b] ++ [101] ++ [45]) [e1, e2] #[.int .u8 z1, .int .u8 z2] HX.out 4 2 rfl rfl rfl HB93.out rfl (by omega) ?_; intro w94 hb94 hg94; have HB94 := Lib.hid hb94; have HG94 := Lib.hid (HG93.out.trans hg94); clear hb94 hg94))
    go_ret
    exact ⟨[] ++ [45] ++ [b] ++ [101] ++ [45] ++ [e1, e2], rfl, by simp, HB94.out, HG94.out⟩


set_option maxRecDepth 100000 in
set_option maxHeartbeats 2000000 in
theorem fe_1m3 (E D n u a : Nat) (hpn : 1 ≤ n) (dp : Int) (V : Value) (neg : Bool) (w : World) (hB : BufAt w E V []) (hD : DigAt w D n u) (hED : D ≠ E) (hn : n ≤ 20) (ha0 : 100 ≤ a) (ha : a < 1000) (hdp : dp - 1 = -(a : Int)) (ha1 : 1 ≤ a) :
    Calls Tryd.prog 24 #[.slice (some ⟨E, 1, none⟩) 0 64, .bool neg, .slice (some ⟨D, 0, none⟩) 32 32, .int .i64 dp, .int .i64 1, .int .i64 0, .int .u8 101, .bool true] w fun res w' => ∃ L : List UInt8, res = .returned (.slice (some ⟨E, 1, none⟩) L.length 64) ∧ L = (if neg then [45] else []) ++ [Lib.dg u (n - 1)] ++ [101] ++ [45] ++ [UInt8.ofNat (48 + a / 100), UInt8.ofNat (48 + a / 10 % 10), UInt8.ofNat (48 + a % 10)] ∧ BufAt w' E V L ∧ w.grownBy w' (some E) := by
  have HB0 := Lib.hid hB
  have HG0 := Lib.hid (World.grownBy.refl w (some E))
  obtain ⟨z1, hz1⟩ : ∃ z : Int, z = (a : Int) / 100 + 48 := ⟨_, rfl⟩
  obtain ⟨e1, he1⟩ : ∃ e : UInt8, e = UInt8.ofNat (48 + a / 100) := ⟨_, rfl⟩
  have hze1 : z1 = (e1.toNat : Int) := by rw [hz1, he1, UInt8.toNat_ofNat']; omega
  rw [← he1]
  obtain ⟨z2, hz2⟩ : ∃ z : Int, z = (a : Int) / 10 % 10 + 48 := ⟨_, rfl⟩
  obtain ⟨e2, he2⟩ : ∃ e : UInt8, e = UInt8.ofNat (48 + a / 10 % 10) := ⟨_, rfl⟩
  have hze2 : z2 = (e2.toNat : Int) := by rw [hz2, he2, UInt8.toNat_ofNat']; omega
  rw [← he2]
  obtain ⟨z3, hz3⟩ : ∃ z : Int, z = (a : Int) % 10 + 48 := ⟨_, rfl⟩
  obtain ⟨e3, he3⟩ : ∃ e : UInt8, e = UInt8.ofNat (48 + a % 10) := ⟨_, rfl⟩
  have hze3 : z3 = (e3.toNat : Int) := by rw [hz3, he3, UInt8.toNat_ofNat']; omega
  rw [← he3]
  have HX : Hid ((#[.int .u8 z1, .int .u8 z2, .int .u8 z3] : Array Value).toList = Lib.byteCells [e1, e2, e3]) := Lib.hid (by simp [Lib.byteCells, hze1, hze2, hze3])
  have q1 : IntKind.u8.wrap ((a : Int) / 100) = (a : Int) / 100 := by rw [IntKind.wrap_u8]; omega
  have q2 : IntKind.u8.wrap ((a : Int) / 100 + 48) = z1 := by rw [IntKind.wrap_u8]; omega
  have q5 : IntKind.u8.wrap ((a : Int) / 10) = (a : Int) / 10 := by rw [IntKind.wrap_u8]; omega
  have q6 : IntKind.u8.wrap ((a : Int) / 10 % 10 + 48) = z2 := by rw [IntKind.wrap_u8]; omega
  have q3 : IntKind.u8.wrap ((a : Int) % 10) = (a : Int) % 10 := by rw [IntKind.wrap_u8]; omega
  have q4 : IntKind.u8.wrap ((a : Int) % 10 + 48) = z3 := by rw [IntKind.wrap_u8]; omega
  have y1 : decide (dp - 1 < 0) = true := by simp; omega
  have y1m : decide (-(a : Int) < 0) = true := by simp; omega
  have y1n : 0 < a := ha1
  have y2 : - -(a : Int) = (a : Int) := by omega
  have y3 : decide ((a : Int) < 10) = false := by simp; omega
  have y3n : decide (a < 10) = false := by simp; omega
  have y4 : decide ((a : Int) < 100) = false := by simp; omega
  have y4n : decide (a < 100) = false := by simp; omega
  obtain ⟨b, hb⟩ : ∃ b, b = Lib.dg u (n - 1) := ⟨_, rfl⟩
  rw [← hb]
  have HC1 : Hid (∀ w1 : World, w.grownBy w1 (some E) → w1.cell? ⟨D, 0, none⟩ = some (.int .u8 (b.toNat : Int))) := Lib.hid (fun w1 hg => by rw [hb]; exact hg.cell (hD 0 (by omega)) (by simp [hED]))
  obtain ⟨c, hc⟩ : ∃ c : Int, c = (b.toNat : Int) := ⟨_, rfl⟩
  rw [← hc] at HC1
  have HCc := Lib.hid hc
  clear hb hc hB hD hz1 he1 hze1 hz2 he2 hze2 hz3 he3 hze3
  have c1 := HC1.out w HG0.out
  cases neg
  · go_enter Tryd.func24, Tryd.ntmps24
    go_wp2_with (first | (at_builtin; refine append_byte _ rfl _ _ rfl E V ([]) b c HCc.out 0 rfl rfl HB0.out rfl (by omega) ?_; intro w90 hb90 hg90; have HB90 := Lib.hid hb90; have HG90 := Lib.hid (HG0.out.trans hg90); clear hb90 hg90) | (at_builtin; refine append_byte _ rfl _ _ rfl E V ([] ++ [b]) 101 _ rfl 1 rfl rfl HB90.out rfl (by omega) ?_; intro w91 hb91 hg91; have HB91 := Lib.hid hb91; have HG91 := Lib.hid (HG90.out.trans hg91); clear hb91 hg91) | (at_builtin; refine append_byte _ rfl _ _ rfl E V ([] ++ [b] ++ [101]) 45 _ rfl 2 rfl rfl HB91.out rfl (by omega) ?_; intro w92 hb92 hg92; have HB92 := Lib.hid hb92; have HG92 := Lib.hid (HG91.out.trans hg92); clear hb92 hg92) | (at_builtin; refine append_lit _ rfl _ _ rfl E V ([] ++ [b] ++ [101] ++ [45]) [e1, e2, e3] #[.int .u8 z1, .int .u8 z2, .int .u8 z3] HX.out 3 3 rfl rfl rfl HB92.out rfl (by omega) ?_; intro w93 hb93 hg93; have HB93 := Lib.hid hb93; have HG93 := Lib.hid (HG92.out.trans hg93); clear hb93 hg93))
    go_ret
    exact ⟨[] ++ [b] ++ [101] ++ [45] ++ [e1, e2, e3], rfl, by simp, HB93.out, HG93.out⟩
  · go_enter Tryd.func24, Tryd.ntmps24
    go_wp2_with (first | (at_builtin; refine append_byte _ rfl _ _ rfl E V ([]) 45 _ rfl 0 rfl rfl HB0.out rfl (by omega) ?_; intro w90 hb90 hg90; have HB90 := Lib.hid hb90; have HG90 := Lib.hid (HG0.out.trans hg90); clear hb90 hg90; have c2 := HC1.out _ HG90.out) | (at_builtin; refine append_byte _ rfl _ _ rfl E V ([] ++ [45]) b c HCc.out 1 rfl rfl HB90.out rfl (by omega) ?_; intro w91 hb91 hg91; have HB91 := Lib.hid hb91; have HG91 := Lib.hid (HG90.out.trans hg91); clear hb91 hg91) | (at_builtin; refine append_byte _ rfl _ _ rfl E V ([] ++ [45] ++ [b]) 101 _ rfl 2 rfl rfl HB91.out rfl (by omega) ?_; intro w92 hb92 hg92; have HB92 := Lib.hid hb92; have HG92 := Lib.hid (HG91.out.trans hg92); clear hb92 hg92) | (at_builtin; refine append_byte _ rfl _ _ rfl E V ([] ++ [45] ++ [b] ++ [101]) 45 _ rfl 3 rfl rfl HB92.out rfl (by omega) ?_; intro w93 hb93 hg93; have HB93 := Lib.hid hb93; have HG93 := Lib.hid (HG92.out.trans hg93); clear hb93 hg93) | (at_builtin; refine append_lit _ rfl _ _ rfl E V ([] ++ [45] ++ [b] ++ [101] ++ [45]) [e1, e2, e3] #[.int .u8 z1, .int .u8 z2, .int .u8 z3] HX.out 4 3 rfl rfl rfl HB93.out rfl (by omega) ?_; intro w94 hb94 hg94; have HB94 := Lib.hid hb94; have HG94 := Lib.hid (HG93.out.trans hg94); clear hb94 hg94))
    go_ret
    exact ⟨[] ++ [45] ++ [b] ++ [101] ++ [45] ++ [e1, e2, e3], rfl, by simp, HB94.out, HG94.out⟩


set_option maxRecDepth 100000 in
set_option maxHeartbeats 2000000 in
theorem fe_1p2 (E D n u a : Nat) (hpn : 1 ≤ n) (dp : Int) (V : Value) (neg : Bool) (w : World) (hB : BufAt w E V []) (hD : DigAt w D n u) (hED : D ≠ E) (hn : n ≤ 20) (ha0 : 10 ≤ a) (ha : a < 100) (hdp : dp - 1 = (a : Int)) :
    Calls Tryd.prog 24 #[.slice (some ⟨E, 1, none⟩) 0 64, .bool neg, .slice (some ⟨D, 0, none⟩) 32 32, .int .i64 dp, .int .i64 1, .int .i64 0, .int .u8 101, .bool true] w fun res w' => ∃ L : List UInt8, res = .returned (.slice (some ⟨E, 1, none⟩) L.length 64) ∧ L = (if neg then [45] else []) ++ [Lib.dg u (n - 1)] ++ [101] ++ [43] ++ [UInt8.ofNat (48 + a / 10), UInt8.ofNat (48 + a % 10)] ∧ BufAt w' E V L ∧ w.grownBy w' (some E) := by
  have HB0 := Lib.hid hB
  have HG0 := Lib.hid (World.grownBy.refl w (some E))
  obtain ⟨z1, hz1⟩ : ∃ z : Int, z = (a : Int) / 10 + 48 := ⟨_, rfl⟩
  obtain ⟨e1, he1⟩ : ∃ e : UInt8, e = UInt8.ofNat (48 + a / 10) := ⟨_, rfl⟩
  have hze1 : z1 = (e1.toNat : Int) := by rw [hz1, he1, UInt8.toNat_ofNat']; omega
  rw [← he1]
  obtain ⟨z2, hz2⟩ : ∃ z : Int, z = (a : Int) % 10 + 48 := ⟨_, rfl⟩
  obtain ⟨e2, he2⟩ : ∃ e : UInt8, e = UInt8.ofNat (48 + a % 10) := ⟨_, rfl⟩
  have hze2 : z2 = (e2.toNat : Int) := by rw [hz2, he2, UInt8.toNat_ofNat']; omega
  rw [← he2]
  have HX : Hid ((#[.int .u8 z1, .int .u8 z2] : Array Value).toList = Lib.byteCells [e1, e2]) := Lib.hid (by simp [Lib.byteCells, hze1, hze2])
  have q1 : IntKind.u8.wrap ((a : Int) / 10) = (a : Int) / 10 := by rw [IntKind.wrap_u8]; omega
  have q2 : IntKind.u8.wrap ((a : Int) / 10 + 48) = z1 := by rw [IntKind.wrap_u8]; omega
  have q3 : IntKind.u8.wrap ((a : Int) % 10) = (a : Int) % 10 := by rw [IntKind.wrap_u8]; omega
  have q4 : IntKind.u8.wrap ((a : Int) % 10 + 48) = z2 := by rw [IntKind.wrap_u8]; omega
  have y1 : decide (dp - 1 < 0) = false := by simp; omega
  have y1m : decide ((a : Int) < 0) = false := by simp
  have y3 : decide ((a : Int) < 10) = false := by simp; omega
  have y3n : decide (a < 10) = false := by simp; omega
  have y4 : decide ((a : Int) < 100) = true := by simp; omega
  have y4n : decide (a < 100) = true := by simp; omega
  obtain ⟨b, hb⟩ : ∃ b, b = Lib.dg u (n - 1) := ⟨_, rfl⟩
  rw [← hb]
  have HC1 : Hid (∀ w1 : World, w.grownBy w1 (some E) → w1.cell? ⟨D, 0, none⟩ = some (.int .u8 (b.toNat : Int))) := Lib.hid (fun w1 hg => by rw [hb]; exact hg.cell (hD 0 (by omega)) (by simp [hED]))
  obtain ⟨c, hc⟩ : ∃ c : Int, c = (b.toNat : Int) := ⟨_, rfl⟩
  rw [← hc] at HC1
  have HCc := Lib.hid hc
  clear hb hc hB hD hz1 he1 hze1 hz2 he2 hze2
  have c1 := HC1.out w HG0.out
  cases neg
  · go_enter Tryd.func24, Tryd.ntmps24
    go_wp2_with (first | (at_builtin; refine append_byte _ rfl _ _ rfl E V ([]) b c HCc.out 0 rfl rfl HB0.out rfl (by omega) ?_; intro w90 hb90 hg90; have HB90 := Lib.hid hb90; have HG90 := Lib.hid (HG0.out.trans hg90); clear hb90 hg90) | (at_builtin; refine append_byte _ rfl _ _ rfl E V ([] ++ [b]) 101 _ rfl 1 rfl rfl HB90.out rfl (by omega) ?_; intro w91 hb91 hg91; have HB91 := Lib.hid hb91; have HG91 := Lib.hid (HG90.out.trans hg91); clear hb91 hg91) | (at_builtin; refine append_byte _ rfl _ _ rfl E V ([] ++ [b] ++ [101]) 43 _ rfl 2 rfl rfl HB91.out rfl (by omega) ?_; intro w92 hb92 hg92; have HB92 := Lib.hid hb92; have HG92 := Lib.hid (HG91.out.trans hg92); clear hb92 hg92) | (at_builtin; refine append_lit _ rfl _ _ rfl E V ([] ++ [b] ++ [101] ++ [43]) [e1, e2] #[.int .u8 z1, .int .u8 z2] HX.out 3 2 rfl rfl rfl HB92.out rfl (by omega) ?_; intro w93 hb93 hg93; have HB93 := Lib.hid hb93; have HG93 := Lib.hid (HG92.out.trans hg93); clear hb93 hg93))
    go_ret
    exact ⟨[] ++ [b] ++ [101] ++ [43] ++ [e1, e2], rfl, by simp, HB93.out, HG93.out⟩
  · go_enter Tryd.func24, Tryd.ntmps24
    go_wp2_with (first | (at_builtin; refine append_byte _ rfl _ _ rfl E V ([]) 45 _ rfl 0 rfl rfl HB0.out rfl (by omega) ?_; intro w90 hb90 hg90; have HB90 := Lib.hid hb90; have HG90 := Lib.hid (HG0.out.trans hg90); clear hb90 hg90; have c2 := HC1.out _ HG90.out) | (at_builtin; refine append_byte _ rfl _ _ rfl E V ([] ++ [45]) b c HCc.out 1 rfl rfl HB90.out rfl (by omega) ?_; intro w91 hb91 hg91; have HB91 := Lib.hid hb91; have HG91 := Lib.hid (HG90.out.trans hg91); clear hb91 hg91) | (at_builtin; refine append_byte _ rfl _ _ rfl E V ([] ++ [45] ++ [b]) 101 _ rfl 2 rfl rfl HB91.out rfl (by omega) ?_; intro w92 hb92 hg92; have HB92 := Lib.hid hb92; have HG92 := Lib.hid (HG91.out.trans hg92); clear hb92 hg92) | (at_builtin; refine append_byte _ rfl _ _ rfl E V ([] ++ [45] ++ [b] ++ [101]) 43 _ rfl 3 rfl rfl HB92.out rfl (by omega) ?_; intro w93 hb93 hg93; have HB93 := Lib.hid hb93; have HG93 := Lib.hid (HG92.out.trans hg93); clear hb93 hg93) | (at_builtin; refine append_lit _ rfl _ _ rfl E V ([] ++ [45] ++ [b] ++ [101] ++ [43]) [e1, e2] #[.int .u8 z1, .int .u8 z2] HX.out 4 2 rfl rfl rfl HB93.out rfl (by omega) ?_; intro w94 hb94 hg94; have HB94 := Lib.hid hb94; have HG94 := Lib.hid (HG93.out.trans hg94); clear hb94 hg94))
    go_ret
    exact ⟨[] ++ [45] ++ [b] ++ [101] ++ [43] ++ [e1, e2], rfl, by simp, HB94.out, HG94.out⟩


set_option maxRecDepth 100000 in
set_option maxHeartbeats 2000000 in
theorem fe_1p3 (E D n u a : Nat) (hpn : 1 ≤ n) (dp : Int) (V : Value) (neg : Bool) (w : World) (hB : BufAt w E V []) (hD : DigAt w D n u) (hED : D ≠ E) (hn : n ≤ 20) (ha0 : 100 ≤ a) (ha : a < 1000) (hdp : dp - 1 = (a : Int)) :
    Calls Tryd.prog 24 #[.slice (some ⟨E, 1, none⟩) 0 64, .bool neg, .slice (some ⟨D, 0, none⟩) 32 32, .int .i64 dp, .int .i64 1, .int .i64 0, .int .u8 101, .bool true] w fun res w' => ∃ L : List UInt8, res = .returned (.slice (some ⟨E, 1, none⟩) L.length 64) ∧ L = (if neg then [45] else []) ++ [Lib.dg u (n - 1)] ++ [101] ++ [43] ++ [UInt8.ofNat (48 + a / 100), UInt8.ofNat (48 + a / 10 % 10), UInt8.ofNat (48 + a % 10)] ∧ BufAt w' E V L ∧ w.grownBy w' (some E) := by
  have HB0 := Lib.hid hB
  have HG0 := Lib.hid (World.grownBy.refl w (some E))
  obtain ⟨z1, hz1⟩ : ∃ z : Int, z = (a : Int) / 100 + 48 := ⟨_, rfl⟩
  obtain ⟨e1, he1⟩ : ∃ e : UInt8, e = UInt8.ofNat (48 + a / 100) := ⟨_, rfl⟩
  have hze1 : z1 = (e1.toNat : Int) := by rw [hz1, he1, UInt8.toNat_ofNat']; omega
  rw [← he1]
  obtain ⟨z2, hz2⟩ : ∃ z : Int, z = (a : Int) / 10 % 10 + 48 := ⟨_, rfl⟩
  obtain ⟨e2, he2⟩ : ∃ e : UInt8, e = UInt8.ofNat (48 + a / 10 % 10) := ⟨_, rfl⟩
  have hze2 : z2 = (e2.toNat : Int) := by rw [hz2, he2, UInt8.toNat_ofNat']; omega
  rw [← he2]
  obtain ⟨z3, hz3⟩ : ∃ z : Int, z = (a : Int) % 10 + 48 := ⟨_, rfl⟩
  obtain ⟨e3, he3⟩ : ∃ e : UInt8, e = UInt8.ofNat (48 + a % 10) := ⟨_, rfl⟩
  have hze3 : z3 = (e3.toNat : Int) := by rw [hz3, he3, UInt8.toNat_ofNat']; omega
  rw [← he3]
  have HX : Hid ((#[.int .u8 z1, .int .u8 z2, .int .u8 z3] : Array Value).toList = Lib.byteCells [e1, e2, e3]) := Lib.hid (by simp [Lib.byteCells, hze1, hze2, hze3])
  have q1 : IntKind.u8.wrap ((a : Int) / 100) = (a : Int) / 100 := by rw [IntKind.wrap_u8]; omega
  have q2 : IntKind.u8.wrap ((a : Int) / 100 + 48) = z1 := by rw [IntKind.wrap_u8]; omega
  have q5 : IntKind.u8.wrap ((a : Int) / 10) = (a : Int) / 10 := by rw [IntKind.wrap_u8]; omega
  have q6 : IntKind.u8.wrap ((a : Int) / 10 % 10 + 48) = z2 := by rw [IntKind.wrap_u8]; omega
  have q3 : IntKind.u8.wrap ((a : Int) % 10) = (a : Int) % 10 := by rw [IntKind.wrap_u8]; omega
  have q4 : IntKind.u8.wrap ((a : Int) % 10 + 48) = z3 := by rw [IntKind.wrap_u8]; omega
  have y1 : decide (dp - 1 < 0) = false := by simp; omega
  have y1m : decide ((a : Int) < 0) = false := by simp
  have y3 : decide ((a : Int) < 10) = false := by simp; omega
  have y3n : decide (a < 10) = false := by simp; omega
  have y4 : decide ((a : Int) < 100) = false := by simp; omega
  have y4n : decide (a < 100) = false := by simp; omega
  obtain ⟨b, hb⟩ : ∃ b, b = Lib.dg u (n - 1) := ⟨_, rfl⟩
  rw [← hb]
  have HC1 : Hid (∀ w1 : World, w.grownBy w1 (some E) → w1.cell? ⟨D, 0, none⟩ = some (.int .u8 (b.toNat : Int))) := Lib.hid (fun w1 hg => by rw [hb]; exact hg.cell (hD 0 (by omega)) (by simp [hED]))
  obtain ⟨c, hc⟩ : ∃ c : Int, c = (b.toNat : Int) := ⟨_, rfl⟩
  rw [← hc] at HC1
  have HCc := Lib.hid hc
  clear hb hc hB hD hz1 he1 hze1 hz2 he2 hze2 hz3 he3 hze3
  have c1 := HC1.out w HG0.out
  cases neg
  · go_enter Tryd.func24, Tryd.ntmps24
    go_wp2_with (first | (at_builtin; refine append_byte _ rfl _ _ rfl E V ([]) b c HCc.out 0 rfl rfl HB0.out rfl (by omega) ?_; intro w90 hb90 hg90; have HB90 := Lib.hid hb90; have HG90 := Lib.hid (HG0.out.trans hg90); clear hb90 hg90) | (at_builtin; refine append_byte _ rfl _ _ rfl E V ([] ++ [b]) 101 _ rfl 1 rfl rfl HB90.out rfl (by omega) ?_; intro w91 hb91 hg91; have HB91 := Lib.hid hb91; have HG91 := Lib.hid (HG90.out.trans hg91); clear hb91 hg91) | (at_builtin; refine append_byte _ rfl _ _ rfl E V ([] ++ [b] ++ [101]) 43 _ rfl 2 rfl rfl HB91.out rfl (by omega) ?_; intro w92 hb92 hg92; have HB92 := Lib.hid hb92; have HG92 := Lib.hid (HG91.out.trans hg92); clear hb92 hg92) | (at_builtin; refine append_lit _ rfl _ _ rfl E V ([] ++ [b] ++ [101] ++ [43]) [e1, e2, e3] #[.int .u8 z1, .int .u8 z2, .int .u8 z3] HX.out 3 3 rfl rfl rfl HB92.out rfl (by omega) ?_; intro w93 hb93 hg93; have HB93 := Lib.hid hb93; have HG93 := Lib.hid (HG92.out.trans hg93); clear hb93 hg93))
    go_ret
    exact ⟨[] ++ [b] ++ [101] ++ [43] ++ [e1, e2, e3], rfl, by simp, HB93.out, HG93.out⟩
  · go_enter Tryd.func24, Tryd.ntmps24
    go_wp2_with (first | (at_builtin; refine append_byte _ rfl _ _ rfl E V ([]) 45 _ rfl 0 rfl rfl HB0.out rfl (by omega) ?_; intro w90 hb90 hg90; have HB90 := Lib.hid hb90; have HG90 := Lib.hid (HG0.out.trans hg90); clear hb90 hg90; have c2 := HC1.out _ HG90.out) | (at_builtin; refine append_byte _ rfl _ _ rfl E V ([] ++ [45]) b c HCc.out 1 rfl rfl HB90.out rfl (by omega) ?_; intro w91 hb91 hg91; have HB91 := Lib.hid hb91; have HG91 := Lib.hid (HG90.out.trans hg91); clear hb91 hg91) | (at_builtin; refine append_byte _ rfl _ _ rfl E V ([] ++ [45] ++ [b]) 101 _ rfl 2 rfl rfl HB91.out rfl (by omega) ?_; intro w92 hb92 hg92; have HB92 := Lib.hid hb92; have HG92 := Lib.hid (HG91.out.trans hg92); clear hb92 hg92) | (at_builtin; refine append_byte _ rfl _ _ rfl E V ([] ++ [45] ++ [b] ++ [101]) 43 _ rfl 3 rfl rfl HB92.out rfl (by omega) ?_; intro w93 hb93 hg93; have HB93 := Lib.hid hb93; have HG93 := Lib.hid (HG92.out.trans hg93); clear hb93 hg93) | (at_builtin; refine append_lit _ rfl _ _ rfl E V ([] ++ [45] ++ [b] ++ [101] ++ [43]) [e1, e2, e3] #[.int .u8 z1, .int .u8 z2, .int .u8 z3] HX.out 4 3 rfl rfl rfl HB93.out rfl (by omega) ?_; intro w94 hb94 hg94; have HB94 := Lib.hid hb94; have HG94 := Lib.hid (HG93.out.trans hg94); clear hb94 hg94))
    go_ret
    exact ⟨[] ++ [45] ++ [b] ++ [101] ++ [43] ++ [e1, e2, e3], rfl, by simp, HB94.out, HG94.out⟩


set_option maxRecDepth 100000 in
set_option maxHeartbeats 2000000 in
theorem fe_mm1 (E D n u a : Nat) (p : Nat) (hp : 1 ≤ p) (hpn : p + 1 ≤ n) (dp : Int) (V : Value) (neg : Bool) (w : World) (hB : BufAt w E V []) (hD : DigAt w D n u) (hED : D ≠ E) (hn : n ≤ 20) (ha : a < 10) (hdp : dp - 1 = -(a : Int)) (ha1 : 1 ≤ a) :
    Calls Tryd.prog 24 #[.slice (some ⟨E, 1, none⟩) 0 64, .bool neg, .slice (some ⟨D, 0, none⟩) 32 32, .int .i64 dp, .int .i64 ((p : Int) + 1), .int .i64 p, .int .u8 101, .bool true] w fun res w' => ∃ L : List UInt8, res = .returned (.slice (some ⟨E, 1, none⟩) L.length 64) ∧ L = (if neg then [45] else []) ++ [Lib.dg u (n - 1)] ++ [46] ++ dl u n 1 p ++ [101] ++ [45] ++ [48, UInt8.ofNat (48 + a)] ∧ BufAt w' E V L ∧ w.grownBy w' (some E) := by
  have HB0 := Lib.hid hB
  have HG0 := Lib.hid (World.grownBy.refl w (some E))
  obtain ⟨z1, hz1⟩ : ∃ z : Int, z = (a : Int) + 48 := ⟨_, rfl⟩
  obtain ⟨e1, he1⟩ : ∃ e : UInt8, e = UInt8.ofNat (48 + a) := ⟨_, rfl⟩
  have hze1 : z1 = (e1.toNat : Int) := by rw [hz1, he1, UInt8.toNat_ofNat']; omega
  rw [← he1]
  have HX : Hid ((#[.int .u8 48, .int .u8 z1] : Array Value).toList = Lib.byteCells [48, e1]) := Lib.hid (by simp [Lib.byteCells, hze1])
  have q1 : IntKind.u8.wrap (a : Int) = (a : Int) := by rw [IntKind.wrap_u8]; omega
  have q2 : IntKind.u8.wrap ((a : Int) + 48) = z1 := by rw [IntKind.wrap_u8]; omega
  have y1 : decide (dp - 1 < 0) = true := by simp; omega
  have y1m : decide (-(a : Int) < 0) = true := by simp; omega
  have y1n : 0 < a := ha1
  have y2 : - -(a : Int) = (a : Int) := by omega
  have y3 : decide ((a : Int) < 10) = true := by simp; omega
  have y3n : decide (a < 10) = true := by simp; omega
  have y5 : decide ((p : Int) > 0) = true := by simp; omega
  have y5n : decide (0 < p) = true := by simp; omega
  have y5p : 0 < p := hp
  have y6 : min ((p : Int) + 1) ((p : Int) + 1) = (p : Int) + 1 := by omega
  have y7 : decide (1 < (p : Int) + 1) = true := by simp; omega
  have y8 : (((p : Int) + 1 == 0)) = false := by simp; omega
  have y9 : ((p : Int) + 1 != 0) = true := by simp; omega
  have y10 : (p : Int) + 1 - ((p : Int) + 1) = 0 := by omega
  have y11 : (p : Int) + 1 ≤ 32 := by omega
  obtain ⟨b, hb⟩ : ∃ b, b = Lib.dg u (n - 1) := ⟨_, rfl⟩
  rw [← hb]
  have HC1 : Hid (∀ w1 : World, w.grownBy w1 (some E) → w1.cell? ⟨D, 0, none⟩ = some (.int .u8 (b.toNat : Int))) := Lib.hid (fun w1 hg => by rw [hb]; exact hg.cell (hD 0 (by omega)) (by simp [hED]))
  have HSD : Hid (∀ w1 : World, w.grownBy w1 (some E) → ∀ j, j < p → w1.cell? ((⟨D, 1, none⟩ : Addr).add j) = some (.int .u8 (((dl u n 1 p).getD j 0).toNat : Int))) := Lib.hid (fun w1 hg j hj => by
    rw [show (⟨D, 1, none⟩ : Addr).add j = ⟨D, 1 + j, none⟩ from by cases j <;> rfl, hg.cell (hD (1 + j) (by omega)) (by simp [hED])]
    simp [dl, List.getD, hj])
  obtain ⟨c, hc⟩ : ∃ c : Int, c = (b.toNat : Int) := ⟨_, rfl⟩
  rw [← hc] at HC1
  have HCc := Lib.hid hc
  clear hb hc hB hD hz1 he1 hze1
  have c1 := HC1.out w HG0.out
  cases neg
  · go_enter Tryd.func24, Tryd.ntmps24
    go_wp2_with (first | (at_builtin; refine append_byte _ rfl _ _ rfl E V ([]) b c HCc.out 0 rfl rfl HB0.out rfl (by omega) ?_; intro w90 hb90 hg90; have HB90 := Lib.hid hb90; have HG90 := Lib.hid (HG0.out.trans hg90); clear hb90 hg90) | (at_builtin; refine append_byte _ rfl _ _ rfl E V ([] ++ [b]) 46 _ rfl 1 rfl rfl HB90.out rfl (by omega) ?_; intro w91 hb91 hg91; have HB91 := Lib.hid hb91; have HG91 := Lib.hid (HG90.out.trans hg91); clear hb91 hg91) | (at_builtin; refine append_buf _ rfl _ _ rfl E V ([] ++ [b] ++ [46]) (dl u n 1 p) 2 rfl rfl HB91.out ⟨D, 1, none⟩ p 31 (dl_len _ _ _ _) rfl (fun j hj => HSD.out _ HG91.out j hj) (by omega) ?_; intro w92 hb92 hg92; have HB92 := Lib.hid hb92; have HG92 := Lib.hid (HG91.out.trans hg92); clear hb92 hg92))
    go_loopw [0, 114] (fun vd vi wr => ∃ j l : Nat, vi = .int .i64 j ∧ j ≤ 0 ∧ vd = .slice (some ⟨E, 1, none⟩) l 64 ∧ l ≤ 60 ∧ Hid (l = (2 + p) + j) ∧ Hid (BufAt wr E V (([] ++ [b] ++ [46] ++ dl u n 1 p))) ∧ Hid (w.grownBy wr (some E))) (fun _ vi _ => 0 - (intOf vi).toNat)
    case atStart => exact ⟨0, (2 + p), rfl, Nat.zero_le _, rfl, by omega, Lib.hid rfl, Lib.hid (HB92.out.cast (by simp [dl])), HG92⟩
    case round =>
      obtain ⟨x1, hx1⟩ : ∃ x, x = wr := ⟨_, rfl⟩
      subst hx1
      obtain ⟨j, l1, rfl, hj, rfl, hl1, HL1, HB1, HG1⟩ := hrel
      obtain rfl : j = 0 := by omega
      have HC1 : Hid (BufAt x1 E V ([] ++ [b] ++ [46] ++ dl u n 1 p)) := HB1
      have hm1 : Hid (l1 = (2 + p)) := Lib.hid (by have := HL1.out; omega)
      go_wp2_with (first | (at_builtin; refine append_byte _ rfl _ _ rfl E V ([] ++ [b] ++ [46] ++ dl u n 1 p) 101 _ rfl l1 (by have hhm1 := hm1.out; simp [dl_len]; omega) rfl HC1.out rfl (by omega) ?_; intro w60 hb60 hg60; have HB60 := Lib.hid hb60; have HG60 := Lib.hid (HG1.out.trans hg60); clear hb60 hg60) | (at_builtin; refine append_byte _ rfl _ _ rfl E V ([] ++ [b] ++ [46] ++ dl u n 1 p ++ [101]) 45 _ rfl (l1 + 1) (by have hhm1 := hm1.out; simp [dl_len]; omega) rfl HB60.out rfl (by omega) ?_; intro w61 hb61 hg61; have HB61 := Lib.hid hb61; have HG61 := Lib.hid (HG60.out.trans hg61); clear hb61 hg61) | (at_builtin; refine append_lit _ rfl _ _ rfl E V ([] ++ [b] ++ [46] ++ dl u n 1 p ++ [101] ++ [45]) [48, e1] #[.int .u8 48, .int .u8 z1] HX.out (l1 + 2) 2 rfl (by have hhm1 := hm1.out; simp [dl_len]; omega) rfl HB61.out rfl (by have hhm1 := hm1.out; omega) ?_; intro w62 hb62 hg62; have HB62 := Lib.hid hb62; have HG62 := Lib.hid (HG61.out.trans hg62); clear hb62 hg62))
      have HLL : Hid (l1 + 2 + 2 = ([] ++ [b] ++ [46] ++ dl u n 1 p ++ [101] ++ [45] ++ [48, e1]).length) := Lib.hid (by have hhm1 := hm1.out; simp [dl_len]; omega)
      go_ret
      exact ⟨[] ++ [b] ++ [46] ++ dl u n 1 p ++ [101] ++ [45] ++ [48, e1], by rw [← HLL.out]; rfl, by simp, HB62.out, HG62.out⟩
  · go_enter Tryd.func24, Tryd.ntmps24
    go_wp2_with (first | (at_builtin; refine append_byte _ rfl _ _ rfl E V ([]) 45 _ rfl 0 rfl rfl HB0.out rfl (by omega) ?_; intro w90 hb90 hg90; have HB90 := Lib.hid hb90; have HG90 := Lib.hid (HG0.out.trans hg90); clear hb90 hg90; have c2 := HC1.out _ HG90.out) | (at_builtin; refine append_byte _ rfl _ _ rfl E V ([] ++ [45]) b c HCc.out 1 rfl rfl HB90.out rfl (by omega) ?_; intro w91 hb91 hg91; have HB91 := Lib.hid hb91; have HG91 := Lib.hid (HG90.out.trans hg91); clear hb91 hg91) | (at_builtin; refine append_byte _ rfl _ _ rfl E V ([] ++ [45] ++ [b]) 46 _ rfl 2 rfl rfl HB91.out rfl (by omega) ?_; intro w92 hb92 hg92; have HB92 := Lib.hid hb92; have HG92 := Lib.hid (HG91.out.trans hg92); clear hb92 hg92) | (at_builtin; refine append_buf _ rfl _ _ rfl E V ([] ++ [45] ++ [b] ++ [46]) (dl u n 1 p) 3 rfl rfl HB92.out ⟨D, 1, none⟩ p 31 (dl_len _ _ _ _) rfl (fun j hj => HSD.out _ HG92.out j hj) (by omega) ?_; intro w93 hb93 hg93; have HB93 := Lib.hid hb93; have HG93 := Lib.hid (HG92.out.trans hg93); clear hb93 hg93))
    go_loopw [0, 114] (fun vd vi wr => ∃ j l : Nat, vi = .int .i64 j ∧ j ≤ 0 ∧ vd = .slice (some ⟨E, 1, none⟩) l 64 ∧ l ≤ 60 ∧ Hid (l = (3 + p) + j) ∧ Hid (BufAt wr E V (([] ++ [45] ++ [b] ++ [46] ++ dl u n 1 p))) ∧ Hid (w.grownBy wr (some E))) (fun _ vi _ => 0 - (intOf vi).toNat)
    case atStart => exact ⟨0, (3 + p), rfl, Nat.zero_le _, rfl, by omega, Lib.hid rfl, Lib.hid (HB93.out.cast (by simp [dl])), HG93⟩
    case round =>
      obtain ⟨x1, hx1⟩ : ∃ x, x = wr := ⟨_, rfl⟩
      subst hx1
      obtain ⟨j, l1, rfl, hj, rfl, hl1, HL1, HB1, HG1⟩ := hrel
      obtain rfl : j = 0 := by omega
      have HC1 : Hid (BufAt x1 E V ([] ++ [45] ++ [b] ++ [46] ++ dl u n 1 p)) := HB1
      have hm1 : Hid (l1 = (3 + p)) := Lib.hid (by have := HL1.out; omega)
      go_wp2_with (first | (at_builtin; refine append_byte _ rfl _ _ rfl E V ([] ++ [45] ++ [b] ++ [46] ++ dl u n 1 p) 101 _ rfl l1 (by have hhm1 := hm1.out; simp [dl_len]; omega) rfl HC1.out rfl (by omega) ?_; intro w60 hb60 hg60; have HB60 := Lib.hid hb60; have HG60 := Lib.hid (HG1.out.trans hg60); clear hb60 hg60) | (at_builtin; refine append_byte _ rfl _ _ rfl E V ([] ++ [45] ++ [b] ++ [46] ++ dl u n 1 p ++ [101]) 45 _ rfl (l1 + 1) (by have hhm1 := hm1.out; simp [dl_len]; omega) rfl HB60.out rfl (by omega) ?_; intro w61 hb61 hg61; have HB61 := Lib.hid hb61; have HG61 := Lib.hid (HG60.out.trans hg61); clear hb61 hg61) | (at_builtin; refine append_lit _ rfl _ _ rfl E V ([] ++ [45] ++ [b] ++ [46] ++ dl u n 1 p ++ [101] ++ [45]) [48, e1] #[.int .u8 48, .int .u8 z1] HX.out (l1 + 2) 2 rfl (by have hhm1 := hm1.out; simp [dl_len]; omega) rfl HB61.out rfl (by have hhm1 := hm1.out; omega) ?_; intro w62 hb62 hg62; have HB62 := Lib.hid hb62; have HG62 := Lib.hid (HG61.out.trans hg62); clear hb62 hg62))
      have HLL : Hid (l1 + 2 + 2 = ([] ++ [45] ++ [b] ++ [46] ++ dl u n 1 p ++ [101] ++ [45] ++ [48, e1]).length) := Lib.hid (by have hhm1 := hm1.out; simp [dl_len]; omega)
      go_ret
      exact ⟨[] ++ [45] ++ [b] ++ [46] ++ dl u n 1 p ++ [101] ++ [45] ++ [48, e1], by rw [← HLL.out]; rfl, by simp, HB62.out, HG62.out⟩


set_option maxRecDepth 100000 in
set_option maxHeartbeats 2000000 in
theorem fe_mm2 (E D n u a : Nat) (p : Nat) (hp : 1 ≤ p) (hpn : p + 1 ≤ n) (dp : Int) (V : Value) (neg : Bool) (w : World) (hB : BufAt w E V []) (hD : DigAt w D n u) (hED : D ≠ E) (hn : n ≤ 20) (ha0 : 10 ≤ a) (ha : a < 100) (hdp : dp - 1 = -(a : Int)) (ha1 : 1 ≤ a) :
    Calls Tryd.prog 24 #[.slice (some ⟨E, 1, none⟩) 0 64, .bool neg, .slice (some ⟨D, 0, none⟩) 32 32, .int .i64 dp, .int .i64 ((p : Int) + 1), .int .i64 p, .int .u8 101, .bool true] w fun res w' => ∃ L : List UInt8, res = .returned (.slice (some ⟨E, 1, none⟩) L.length 64) ∧ L = (if neg then [45] else []) ++ [Lib.dg u (n - 1)] ++ [46] ++ dl u n 1 p ++ [101] ++ [45] ++ [UInt8.ofNat (48 + a / 10), UInt8.ofNat (48 + a % 10)] ∧ BufAt w' E V L ∧ w.grownBy w' (some E) := by
  have HB0 := Lib.hid hB
  have HG0 := Lib.hid (World.grownBy.refl w (some E))
  obtain ⟨z1, hz1⟩ : ∃ z : Int, z = (a : Int) / 10 + 48 := ⟨_, rfl⟩
  obtain ⟨e1, he1⟩ : ∃ e : UInt8, e = UInt8.ofNat (48 + a / 10) := ⟨_, rfl⟩
  have hze1 : z1 = (e1.toNat : Int) := by rw [hz1, he1, UInt8.toNat_ofNat']; omega
  rw [← he1]
  obtain ⟨z2, hz2⟩ : ∃ z : Int, z = (a : Int) % 10 + 48 := ⟨_, rfl⟩
  obtain ⟨e2, he2⟩ : ∃ e : UInt8, e = UInt8.ofNat (48 + a % 10) := ⟨_, rfl⟩
  have hze2 : z2 = (e2.toNat : Int) := by rw [hz2, he2, UInt8.toNat_ofNat']; omega
  rw [← he2]
  have HX : Hid ((#[.int .u8 z1, .int .u8 z2] : Array Value).toList = Lib.byteCells [e1, e2]) := Lib.hid (by simp [Lib.byteCells, hze1, hze2])
  have q1 : IntKind.u8.wrap ((a : Int) / 10) = (a : Int) / 10 := by rw [IntKind.wrap_u8]; omega
  have q2 : IntKind.u8.wrap ((a : Int) / 10 + 48) = z1 := by rw [IntKind.wrap_u8]; omega
  have q3 : IntKind.u8.wrap ((a : Int) % 10) = (a : Int) % 10 := by rw [IntKind.wrap_u8]; omega
  have q4 : IntKind.u8.wrap ((a : Int) % 10 + 48) = z2 := by rw [IntKind.wrap_u8]; omega
  have y1 : decide (dp - 1 < 0) = true := by simp; omega
  have y1m : decide (-(a : Int) < 0) = true := by simp; omega
  have y1n : 0 < a := ha1
  have y2 : - -(a : Int) = (a : Int) := by omega
  have y3 : decide ((a : Int) < 10) = false := by simp; omega
  have y3n : decide (a < 10) = false := by simp; omega
  have y4 : decide ((a : Int) < 100) = true := by simp; omega
  have y4n : decide (a < 100) = true := by simp; omega
  have y5 : decide ((p : Int) > 0) = true := by simp; omega
  have y5n : decide (0 < p) = true := by simp; omega
  have y5p : 0 < p := hp
  have y6 : min ((p : Int) + 1) ((p : Int) + 1) = (p : Int) + 1 := by omega
  have y7 : decide (1 < (p : Int) + 1) = true := by simp; omega
  have y8 : (((p : Int) + 1 == 0)) = false := by simp; omega
  have y9 : ((p : Int) + 1 != 0) = true := by simp; omega
  have y10 : (p : Int) + 1 - ((p : Int) + 1) = 0 := by omega
  have y11 : (p : Int) + 1 ≤ 32 := by omega
  obtain ⟨b, hb⟩ : ∃ b, b = Lib.dg u (n - 1) := ⟨_, rfl⟩
  rw [← hb]
  have HC1 : Hid (∀ w1 : World, w.grownBy w1 (some E) → w1.cell? ⟨D, 0, none⟩ = some (.int .u8 (b.toNat : Int))) := Lib.hid (fun w1 hg => by rw [hb]; exact hg.cell (hD 0 (by omega)) (by simp [hED]))
  have HSD : Hid (∀ w1 : World, w.grownBy w1 (some E) → ∀ j, j < p → w1.cell? ((⟨D, 1, none⟩ : Addr).add j) = some (.int .u8 (((dl u n 1 p).getD j 0).toNat : Int))) := Lib.hid (fun w1 hg j hj => by
    rw [show (⟨D, 1, none⟩ : Addr).add j = ⟨D, 1 + j, none⟩ from by cases j <;> rfl, hg.cell (hD (1 + j) (by omega)) (by simp [hED])]
    simp [dl, List.getD, hj])
  obtain ⟨c, hc⟩ : ∃ c : Int, c = (b.toNat : Int) := ⟨_, rfl⟩
  rw [← hc] at HC1
  have HCc := Lib.hid hc
  clear hb hc hB hD hz1 he1 hze1 hz2 he2 hze2
  have c1 := HC1.out w HG0.out
  cases neg
  · go_enter Tryd.func24, Tryd.ntmps24
    go_wp2_with (first | (at_builtin; refine append_byte _ rfl _ _ rfl E V ([]) b c HCc.out 0 rfl rfl HB0.out rfl (by omega) ?_; intro w90 hb90 hg90; have HB90 := Lib.hid hb90; have HG90 := Lib.hid (HG0.out.trans hg90); clear hb90 hg90) | (at_builtin; refine append_byte _ rfl _ _ rfl E V ([] ++ [b]) 46 _ rfl 1 rfl rfl HB90.out rfl (by omega) ?_; intro w91 hb91 hg91; have HB91 := Lib.hid hb91; have HG91 := Lib.hid (HG90.out.trans hg91); clear hb91 hg91) | (at_builtin; refine append_buf _ rfl _ _ rfl E V ([] ++ [b] ++ [46]) (dl u n 1 p) 2 rfl rfl HB91.out ⟨D, 1, none⟩ p 31 (dl_len _ _ _ _) rfl (fun j hj => HSD.out _ HG91.out j hj) (by omega) ?_; intro w92 hb92 hg92; have HB92 := Lib.hid hb92; have HG92 := Lib.hid (HG91.out.trans hg92); clear hb92 hg92))
    go_loopw [0, 114] (fun vd vi wr => ∃ j l : Nat, vi = .int .i64 j ∧ j ≤ 0 ∧ vd = .slice (some ⟨E, 1, none⟩) l 64 ∧ l ≤ 60 ∧ Hid (l = (2 + p) + j) ∧ Hid (BufAt wr E V (([] ++ [b] ++ [46] ++ dl u n 1 p))) ∧ Hid (w.grownBy wr (some E))) (fun _ vi _ => 0 - (intOf vi).toNat)
    case atStart => exact ⟨0, (2 + p), rfl, Nat.zero_le _, rfl, by omega, Lib.hid rfl, Lib.hid (HB92.out.cast (by simp [dl])), HG92⟩
    case round =>
      obtain ⟨x1, hx1⟩ : ∃ x, x = wr := ⟨_, rfl⟩
      subst hx1
      obtain ⟨j, l1, rfl, hj, rfl, hl1, HL1, HB1, HG1⟩ := hrel
      obtain rfl : j = 0 := by omega
      have HC1 : Hid (BufAt x1 E V ([] ++ [b] ++ [46] ++ dl u n 1 p)) := HB1
      have hm1 : Hid (l1 = (2 + p)) := Lib.hid (by have := HL1.out; omega)
      go_wp2_with (first | (at_builtin; refine append_byte _ rfl _ _ rfl E V ([] ++ [b] ++ [46] ++ dl u n 1 p) 101 _ rfl l1 (by have hhm1 := hm1.out; simp [dl_len]; omega) rfl HC1.out rfl (by omega) ?_; intro w60 hb60 hg60; have HB60 := Lib.hid hb60; have HG60 := Lib.hid (HG1.out.trans hg60); clear hb60 hg60) | (at_builtin; refine append_byte _ rfl _ _ rfl E V ([] ++ [b] ++ [46] ++ dl u n 1 p ++ [101]) 45 _ rfl (l1 + 1) (by have hhm1 := hm1.out; simp [dl_len]; omega) rfl HB60.out rfl (by omega) ?_; intro w61 hb61 hg61; have HB61 := Lib.hid hb61; have HG61 := Lib.hid (HG60.out.trans hg61); clear hb61 hg61) | (at_builtin; refine append_lit _ rfl _ _ rfl E V ([] ++ [b] ++ [46] ++ dl u n 1 p ++ [101] ++ [45]) [e1, e2] #[.int .u8 z1, .int .u8 z2] HX.out (l1 + 2) 2 rfl (by have hhm1 := hm1.out; simp [dl_len]; omega) rfl HB61.out rfl (by have hhm1 := hm1.out; omega) ?_; intro w62 hb62 hg62; have HB62 := Lib.hid hb62; have HG62 := Lib.hid (HG61.out.trans hg62); clear hb62 hg62))
      have HLL : Hid (l1 + 2 + 2 = ([] ++ [b] ++ [46] ++ dl u n 1 p ++ [101] ++ [45] ++ [e1, e2]).length) := Lib.hid (by have hhm1 := hm1.out; simp [dl_len]; omega)
      go_ret
      exact ⟨[] ++ [b] ++ [46] ++ dl u n 1 p ++ [101] ++ [45] ++ [e1, e2], by rw [← HLL.out]; rfl, by simp, HB62.out, HG62.out⟩
  · go_enter Tryd.func24, Tryd.ntmps24
    go_wp2_with (first | (at_builtin; refine append_byte _ rfl _ _ rfl E V ([]) 45 _ rfl 0 rfl rfl HB0.out rfl (by omega) ?_; intro w90 hb90 hg90; have HB90 := Lib.hid hb90; have HG90 := Lib.hid (HG0.out.trans hg90); clear hb90 hg90; have c2 := HC1.out _ HG90.out) | (at_builtin; refine append_byte _ rfl _ _ rfl E V ([] ++ [45]) b c HCc.out 1 rfl rfl HB90.out rfl (by omega) ?_; intro w91 hb91 hg91; have HB91 := Lib.hid hb91; have HG91 := Lib.hid (HG90.out.trans hg91); clear hb91 hg91) | (at_builtin; refine append_byte _ rfl _ _ rfl E V ([] ++ [45] ++ [b]) 46 _ rfl 2 rfl rfl HB91.out rfl (by omega) ?_; intro w92 hb92 hg92; have HB92 := Lib.hid hb92; have HG92 := Lib.hid (HG91.out.trans hg92); clear hb92 hg92) | (at_builtin; refine append_buf _ rfl _ _ rfl E V ([] ++ [45] ++ [b] ++ [46]) (dl u n 1 p) 3 rfl rfl HB92.out ⟨D, 1, none⟩ p 31 (dl_len _ _ _ _) rfl (fun j hj => HSD.out _ HG92.out j hj) (by omega) ?_; intro w93 hb93 hg93; have HB93 := Lib.hid hb93; have HG93 := Lib.hid (HG92.out.trans hg93); clear hb93 hg93))
    go_loopw [0, 114] (fun vd vi wr => ∃ j l : Nat, vi = .int .i64 j ∧ j ≤ 0 ∧ vd = .slice (some ⟨E, 1, none⟩) l 64 ∧ l ≤ 60 ∧ Hid (l = (3 + p) + j) ∧ Hid (BufAt wr E V (([] ++ [45] ++ [b] ++ [46] ++ dl u n 1 p))) ∧ Hid (w.grownBy wr (some E))) (fun _ vi _ => 0 - (intOf vi).toNat)
    case atStart => exact ⟨0, (3 + p), rfl, Nat.zero_le _, rfl, by omega, Lib.hid rfl, Lib.hid (HB93.out.cast (by simp [dl])), HG93⟩
    case round =>
      obtain ⟨x1, hx1⟩ : ∃ x, x = wr := ⟨_, rfl⟩
      subst hx1
      obtain ⟨j, l1, rfl, hj, rfl, hl1, HL1, HB1, HG1⟩ := hrel
      obtain rfl : j = 0 := by omega
      have HC1 : Hid (BufAt x1 E V ([] ++ [45] ++ [b] ++ [46] ++ dl u n 1 p)) := HB1
      have hm1 : Hid (l1 = (3 + p)) := Lib.hid (by have := HL1.out; omega)
      go_wp2_with (first | (at_builtin; refine append_byte _ rfl _ _ rfl E V ([] ++ [45] ++ [b] ++ [46] ++ dl u n 1 p) 101 _ rfl l1 (by have hhm1 := hm1.out; simp [dl_len]; omega) rfl HC1.out rfl (by omega) ?_; intro w60 hb60 hg60; have HB60 := Lib.hid hb60; have HG60 := Lib.hid (HG1.out.trans hg60); clear hb60 hg60) | (at_builtin; refine append_byte _ rfl _ _ rfl E V ([] ++ [45] ++ [b] ++ [46] ++ dl u n 1 p ++ [101]) 45 _ rfl (l1 + 1) (by have hhm1 := hm1.out; simp [dl_len]; omega) rfl HB60.out rfl (by omega) ?_; intro w61 hb61 hg61; have HB61 := Lib.hid hb61; have HG61 := Lib.hid (HG60.out.trans hg61); clear hb61 hg61) | (at_builtin; refine append_lit _ rfl _ _ rfl E V ([] ++ [45] ++ [b] ++ [46] ++ dl u n 1 p ++ [101] ++ [45]) [e1, e2] #[.int .u8 z1, .int .u8 z2] HX.out (l1 + 2) 2 rfl (by have hhm1 := hm1.out; simp [dl_len]; omega) rfl HB61.out rfl (by have hhm1 := hm1.out; omega) ?_; intro w62 hb62 hg62; have HB62 := Lib.hid hb62; have HG62 := Lib.hid (HG61.out.trans hg62); clear hb62 hg62))
      have HLL : Hid (l1 + 2 + 2 = ([] ++ [45] ++ [b] ++ [46] ++ dl u n 1 p ++ [101] ++ [45] ++ [e1, e2]).length) := Lib.hid (by have hhm1 := hm1.out; simp [dl_len]; omega)
      go_ret
      exact ⟨[] ++ [45] ++ [b] ++ [46] ++ dl u n 1 p ++ [101] ++ [45] ++ [e1, e2], by rw [← HLL.out]; rfl, by simp, HB62.out, HG62.out⟩


set_option maxRecDepth 100000 in
set_option maxHeartbeats 2000000 in
theorem fe_mm3 (E D n u a : Nat) (p : Nat) (hp : 1 ≤ p) (hpn : p + 1 ≤ n) (dp : Int) (V : Value) (neg : Bool) (w : World) (hB : BufAt w E V []) (hD : DigAt w D n u) (hED : D ≠ E) (hn : n ≤ 20) (ha0 : 100 ≤ a) (ha : a < 1000) (hdp : dp - 1 = -(a : Int)) (ha1 : 1 ≤ a) :
    Calls Tryd.prog 24 #[.slice (some ⟨E, 1, none⟩) 0 64, .bool neg, .slice (some ⟨D, 0, none⟩) 32 32, .int .i64 dp, .int .i64 ((p : Int) + 1), .int .i64 p, .int .u8 101, .bool true] w fun res w' => ∃ L : List UInt8, res = .returned (.slice (some ⟨E, 1, none⟩) L.length 64) ∧ L = (if neg then [45] else []) ++ [Lib.dg u (n - 1)] ++ [46] ++ dl u n 1 p ++ [101] ++ [45] ++ [UInt8.ofNat (48 + a / 100), UInt8.ofNat (48 + a / 10 % 10), UInt8.ofNat (48 + a % 10)] ∧ BufAt w' E V L ∧ w.grownBy w' (some E) := by
  have HB0 := Lib.hid hB
  have HG0 := Lib.hid (World.grownBy.refl w (some E))
  obtain ⟨z1, hz1⟩ : ∃ z : Int, z = (a : Int) / 100 + 48 := ⟨_, rfl⟩
  obtain ⟨e1, he1⟩ : ∃ e : UInt8, e = UInt8.ofNat (48 + a / 100) := ⟨_, rfl⟩
  have hze1 : z1 = (e1.toNat : Int) := by rw [hz1, he1, UInt8.toNat_ofNat']; omega
  rw [← he1]
  obtain ⟨z2, hz2⟩ : ∃ z : Int, z = (a : Int) / 10 % 10 + 48 := ⟨_, rfl⟩
  obtain ⟨e2, he2⟩ : ∃ e : UInt8, e = UInt8.ofNat (48 + a / 10 % 10) := ⟨_, rfl⟩
  have hze2 : z2 = (e2.toNat : Int) := by rw [hz2, he2, UInt8.toNat_ofNat']; omega
  rw [← he2]
  obtain ⟨z3, hz3⟩ : ∃ z : Int, z = (a : Int) % 10 + 48 := ⟨_, rfl⟩
  obtain ⟨e3, he3⟩ : ∃ e : UInt8, e = UInt8.ofNat (48 + a % 10) := ⟨_, rfl⟩
  have hze3 : z3 = (e3.toNat : Int) := by rw [hz3, he3, UInt8.toNat_ofNat']; omega
  rw [← he3]
  have HX : Hid ((#[.int .u8 z1, .int .u8 z2, .int .u8 z3] : Array Value).toList = Lib.byteCells [e1, e2, e3]) := Lib.hid (by simp [Lib.byteCells, hze1, hze2, hze3])
  have q1 : IntKind.u8.wrap ((a : Int) / 100) = (a : Int) / 100 := by rw [IntKind.wrap_u8]; omega
  have q2 : IntKind.u8.wrap ((a : Int) / 100 + 48) = z1 := by rw [IntKind.wrap_u8]; omega
  have q5 : IntKind.u8.wrap ((a : Int) / 10) = (a : Int) / 10 := by rw [IntKind.wrap_u8]; omega
  have q6 : IntKind.u8.wrap ((a : Int) / 10 % 10 + 48) = z2 := by rw [IntKind.wrap_u8]; omega
  have q3 : IntKind.u8.wrap ((a : Int) % 10) = (a : Int) % 10 := by rw [IntKind.wrap_u8]; omega
  have q4 : IntKind.u8.wrap ((a : Int) % 10 + 48) = z3 := by rw [IntKind.wrap_u8]; omega
  have y1 : decide (dp - 1 < 0) = true := by simp; omega
  have y1m : decide (-(a : Int) < 0) = true := by simp; omega
  have y1n : 0 < a := ha1
  have y2 : - -(a : Int) = (a : Int) := by omega
  have y3 : decide ((a : Int) < 10) = false := by simp; omega
  have y3n : decide (a < 10) = false := by simp; omega
  have y4 : decide ((a : Int) < 100) = false := by simp; omega
  have y4n : decide (a < 100) = false := by simp; omega
  have y5 : decide ((p : Int) > 0) = true := by simp; omega
  have y5n : decide (0 < p) = true := by simp; omega
  have y5p : 0 < p := hp
  have y6 : min ((p : Int) + 1) ((p : Int) + 1) = (p : Int) + 1 := by omega
  have y7 : decide (1 < (p : Int) + 1) = true := by simp; omega
  have y8 : (((p : Int) + 1 == 0)) = false := by simp; omega
  have y9 : ((p : Int) + 1 != 0) = true := by simp; omega
  have y10 : (p : Int) + 1 - ((p : Int) + 1) = 0 := by omega
  have y11 : (p : Int) + 1 ≤ 32 := by omega
  obtain ⟨b, hb⟩ : ∃ b, b = Lib.dg u (n - 1) := ⟨_, rfl⟩
  rw [← hb]
  have HC1 : Hid (∀ w1 : World, w.grownBy w1 (some E) → w1.cell? ⟨D, 0, none⟩ = some (.int .u8 (b.toNat : Int))) := Lib.hid (fun w1 hg => by rw [hb]; exact hg.cell (hD 0 (by omega)) (by simp [hED]))
  have HSD : Hid (∀ w1 : World, w.grownBy w1 (some E) → ∀ j, j < p → w1.cell? ((⟨D, 1, none⟩ : Addr).add j) = some (.int .u8 (((dl u n 1 p).getD j 0).toNat : Int))) := Lib.hid (fun w1 hg j hj => by
    rw [show (⟨D, 1, none⟩ : Addr).add j = ⟨D, 1 + j, none⟩ from by cases j <;> rfl, hg.cell (hD (1 + j) (by omega)) (by simp [hED])]
    simp [dl, List.getD, hj])
  obtain ⟨c, hc⟩ : ∃ c : Int, c = (b.toNat : Int) := ⟨_, rfl⟩
  rw [← hc] at HC1
  have HCc := Lib.hid hc
  clear hb hc hB hD hz1 he1 hze1 hz2 he2 hze2 hz3 he3 hze3
  have c1 := HC1.out w HG0.out
  cases neg
  · go_enter Tryd.func24, Tryd.ntmps24
    go_wp2_with (first | (at_builtin; refine append_byte _ rfl _ _ rfl E V ([]) b c HCc.out 0 rfl rfl HB0.out rfl (by omega) ?_; intro w90 hb90 hg90; have HB90 := Lib.hid hb90; have HG90 := Lib.hid (HG0.out.trans hg90); clear hb90 hg90) | (at_builtin; refine append_byte _ rfl _ _ rfl E V ([] ++ [b]) 46 _ rfl 1 rfl rfl HB90.out rfl (by omega) ?_; intro w91 hb91 hg91; have HB91 := Lib.hid hb91; have HG91 := Lib.hid (HG90.out.trans hg91); clear hb91 hg91) | (at_builtin; refine append_buf _ rfl _ _ rfl E V ([] ++ [b] ++ [46]) (dl u n 1 p) 2 rfl rfl HB91.out ⟨D, 1, none⟩ p 31 (dl_len _ _ _ _) rfl (fun j hj => HSD.out _ HG91.out j hj) (by omega) ?_; intro w92 hb92 hg92; have HB92 := Lib.hid hb92; have HG92 := Lib.hid (HG91.out.trans hg92); clear hb92 hg92))
    go_loopw [0, 114] (fun vd vi wr => ∃ j l : Nat, vi = .int .i64 j ∧ j ≤ 0 ∧ vd = .slice (some ⟨E, 1, none⟩) l 64 ∧ l ≤ 60 ∧ Hid (l = (2 + p) + j) ∧ Hid (BufAt wr E V (([] ++ [b] ++ [46] ++ dl u n 1 p))) ∧ Hid (w.grownBy wr (some E))) (fun _ vi _ => 0 - (intOf vi).toNat)
    case atStart => exact ⟨0, (2 + p), rfl, Nat.zero_le _, rfl, by omega, Lib.hid rfl, Lib.hid (HB92.out.cast (by simp [dl])), HG92⟩
    case round =>
      obtain ⟨x1, hx1⟩ : ∃ x, x = wr := ⟨_, rfl⟩
      subst hx1
      obtain ⟨j, l1, rfl, hj, rfl, hl1, HL1, HB1, HG1⟩ := hrel
      obtain rfl : j = 0 := by omega
      have HC1 : Hid (BufAt x1 E V ([] ++ [b] ++ [46] ++ dl u n 1 p)) := HB1
      have hm1 : Hid (l1 = (2 + p)) := Lib.hid (by have := HL1.out; omega)
      go_wp2_with (first | (at_builtin; refine append_byte _ rfl _ _ rfl E V ([] ++ [b] ++ [46] ++ dl u n 1 p) 101 _ rfl l1 (by have hhm1 := hm1.out; simp [dl_len]; omega) rfl HC1.out rfl (by omega) ?_; intro w60 hb60 hg60; have HB60 := Lib.hid hb60; have HG60 := Lib.hid (HG1.out.trans hg60); clear hb60 hg60) | (at_builtin; refine append_byte _ rfl _ _ rfl E V ([] ++ [b] ++ [46] ++ dl u n 1 p ++ [101]) 45 _ rfl (l1 + 1) (by have hhm1 := hm1.out; simp [dl_len]; omega) rfl HB60.out rfl (by omega) ?_; intro w61 hb61 hg61; have HB61 := Lib.hid hb61; have HG61 := Lib.hid (HG60.out.trans hg61); clear hb61 hg61) | (at_builtin; refine append_lit _ rfl _ _ rfl E V ([] ++ [b] ++ [46] ++ dl u n 1 p ++ [101] ++ [45]) [e1, e2, e3] #[.int .u8 z1, .int .u8 z2, .int .u8 z3] HX.out (l1 + 2) 3 rfl (by have hhm1 := hm1.out; simp [dl_len]; omega) rfl HB61.out rfl (by have hhm1 := hm1.out; omega) ?_; intro w62 hb62 hg62; have HB62 := Lib.hid hb62; have HG62 := Lib.hid (HG61.out.trans hg62); clear hb62 hg62))
      have HLL : Hid (l1 + 2 + 3 = ([] ++ [b] ++ [46] ++ dl u n 1 p ++ [101] ++ [45] ++ [e1, e2, e3]).length) := Lib.hid (by have hhm1 := hm1.out; simp [dl_len]; omega)
      go_ret
      exact ⟨[] ++ [b] ++ [46] ++ dl u n 1 p ++ [101] ++ [45] ++ [e1, e2, e3], by rw [← HLL.out]; rfl, by simp, HB62.out, HG62.out⟩
  · go_enter Tryd.func24, Tryd.ntmps24
    go_wp2_with (first | (at_builtin; refine append_byte _ rfl _ _ rfl E V ([]) 45 _ rfl 0 rfl rfl HB0.out rfl (by omega) ?_; intro w90 hb90 hg90; have HB90 := Lib.hid hb90; have HG90 := Lib.hid (HG0.out.trans hg90); clear hb90 hg90; have c2 := HC1.out _ HG90.out) | (at_builtin; refine append_byte _ rfl _ _ rfl E V ([] ++ [45]) b c HCc.out 1 rfl rfl HB90.out rfl (by omega) ?_; intro w91 hb91 hg91; have HB91 := Lib.hid hb91; have HG91 := Lib.hid (HG90.out.trans hg91); clear hb91 hg91) | (at_builtin; refine append_byte _ rfl _ _ rfl E V ([] ++ [45] ++ [b]) 46 _ rfl 2 rfl rfl HB91.out rfl (by omega) ?_; intro w92 hb92 hg92; have HB92 := Lib.hid hb92; have HG92 := Lib.hid (HG91.out.trans hg92); clear hb92 hg92) | (at_builtin; refine append_buf _ rfl _ _ rfl E V ([] ++ [45] ++ [b] ++ [46]) (dl u n 1 p) 3 rfl rfl HB92.out ⟨D, 1, none⟩ p 31 (dl_len _ _ _ _) rfl (fun j hj => HSD.out _ HG92.out j hj) (by omega) ?_; intro w93 hb93 hg93; have HB93 := Lib.hid hb93; have HG93 := Lib.hid (HG92.out.trans hg93); clear hb93 hg93))
    go_loopw [0, 114] (fun vd vi wr => ∃ j l : Nat, vi = .int .i64 j ∧ j ≤ 0 ∧ vd = .slice (some ⟨E, 1, none⟩) l 64 ∧ l ≤ 60 ∧ Hid (l = (3 + p) + j) ∧ Hid (BufAt wr E V (([] ++ [45] ++ [b] ++ [46] ++ dl u n 1 p))) ∧ Hid (w.grownBy wr (some E))) (fun _ vi _ => 0 - (intOf vi).toNat)
    case atStart => exact ⟨0, (3 + p), rfl, Nat.zero_le _, rfl, by omega, Lib.hid rfl, Lib.hid (HB93.out.cast (by simp [dl])), HG93⟩
    case round =>
      obtain ⟨x1, hx1⟩ : ∃ x, x = wr := ⟨_, rfl⟩
      subst hx1
      obtain ⟨j, l1, rfl, hj, rfl, hl1, HL1, HB1, HG1⟩ := hrel
      obtain rfl : j = 0 := by omega
      have HC1 : Hid (BufAt x1 E V ([] ++ [45] ++ [b] ++ [46] ++ dl u n 1 p)) := HB1
      have hm1 : Hid (l1 = (3 + p)) := Lib.hid (by have := HL1.out; omega)
      go_wp2_with (first | (at_builtin; refine append_byte _ rfl _ _ rfl E V ([] ++ [45] ++ [b] ++ [46] ++ dl u n 1 p) 101 _ rfl l1 (by have hhm1 := hm1.out; simp [dl_len]; omega) rfl HC1.out rfl (by omega) ?_; intro w60 hb60 hg60; have HB60 := Lib.hid hb60; have HG60 := Lib.hid (HG1.out.trans hg60); clear hb60 hg60) | (at_builtin; refine append_byte _ rfl _ _ rfl E V ([] ++ [45] ++ [b] ++ [46] ++ dl u n 1 p ++ [101]) 45 _ rfl (l1 + 1) (by have hhm1 := hm1.out; simp [dl_len]; omega) rfl HB60.out rfl (by omega) ?_; intro w61 hb61 hg61; have HB61 := Lib.hid hb61; have HG61 := Lib.hid (HG60.out.trans hg61); clear hb61 hg61) | (at_builtin; refine append_lit _ rfl _ _ rfl E V ([] ++ [45] ++ [b] ++ [46] ++ dl u n 1 p ++ [101] ++ [45]) [e1, e2, e3] #[.int .u8 z1, .int .u8 z2, .int .u8 z3] HX.out (l1 + 2) 3 rfl (by have hhm1 := hm1.out; simp [dl_len]; omega) rfl HB61.out rfl (by have hhm1 := hm1.out; omega) ?_; intro w62 hb62 hg62; have HB62 := Lib.hid hb62; have HG62 := Lib.hid (HG61.out.trans hg62); clear hb62 hg62))
      have HLL : Hid (l1 + 2 + 3 = ([] ++ [45] ++ [b] ++ [46] ++ dl u n 1 p ++ [101] ++ [45] ++ [e1, e2, e3]).length) := Lib.hid (by have hhm1 := hm1.out; simp [dl_len]; omega)
      go_ret
      exact ⟨[] ++ [45] ++ [b] ++ [46] ++ dl u n 1 p ++ [101] ++ [45] ++ [e1, e2, e3], by rw [← HLL.out]; rfl, by simp, HB62.out, HG62.out⟩


set_option maxRecDepth 100000 in
set_option maxHeartbeats 2000000 in
theorem fe_mp2 (E D n u a : Nat) (p : Nat) (hp : 1 ≤ p) (hpn : p + 1 ≤ n) (dp : Int) (V : Value) (neg : Bool) (w : World) (hB : BufAt w E V []) (hD : DigAt w D n u) (hED : D ≠ E) (hn : n ≤ 20) (ha0 : 10 ≤ a) (ha : a < 100) (hdp : dp - 1 = (a : Int)) :
    Calls Tryd.prog 24 #[.slice (some ⟨E, 1, none⟩) 0 64, .bool neg, .slice (some ⟨D, 0, none⟩) 32 32, .int .i64 dp, .int .i64 ((p : Int) + 1), .int .i64 p, .int .u8 101, .bool true] w fun res w' => ∃ L : List UInt8, res = .returned (.slice (some ⟨E, 1, none⟩) L.length 64) ∧ L = (if neg then [45] else []) ++ [Lib.dg u (n - 1)] ++ [46] ++ dl u n 1 p ++ [101] ++ [43] ++ [UInt8.ofNat (48 + a / 10), UInt8.ofNat (48 + a % 10)] ∧ BufAt w' E V L ∧ w.grownBy w' (some E) := by
  have HB0 := Lib.hid hB
  have HG0 := Lib.hid (World.grownBy.refl w (some E))
  obtain ⟨z1, hz1⟩ : ∃ z : Int, z = (a : Int) / 10 + 48 := ⟨_, rfl⟩
  obtain ⟨e1, he1⟩ : ∃ e : UInt8, e = UInt8.ofNat (48 + a / 10) := ⟨_, rfl⟩
  have hze1 : z1 = (e1.toNat : Int) := by rw [hz1, he1, UInt8.toNat_ofNat']; omega
  rw [← he1]
  obtain ⟨z2, hz2⟩ : ∃ z : Int, z = (a : Int) % 10 + 48 := ⟨_, rfl⟩
  obtain ⟨e2, he2⟩ : ∃ e : UInt8, e = UInt8.ofNat (48 + a % 10) := ⟨_, rfl⟩
  have hze2 : z2 = (e2.toNat : Int) := by rw [hz2, he2, UInt8.toNat_ofNat']; omega
  rw [← he2]
  have HX : Hid ((#[.int .u8 z1, .int .u8 z2] : Array Value).toList = Lib.byteCells [e1, e2]) := Lib.hid (by simp [Lib.byteCells, hze1, hze2])
  have q1 : IntKind.u8.wrap ((a : Int) / 10) = (a : Int) / 10 := by rw [IntKind.wrap_u8]; omega
  have q2 : IntKind.u8.wrap ((a : Int) / 10 + 48) = z1 := by rw [IntKind.wrap_u8]; omega
  have q3 : IntKind.u8.wrap ((a : Int) % 10) = (a : Int) % 10 := by rw [IntKind.wrap_u8]; omega
  have q4 : IntKind.u8.wrap ((a : Int) % 10 + 48) = z2 := by rw [IntKind.wrap_u8]; omega
  have y1 : decide (dp - 1 < 0) = false := by simp; omega
  have y1m : decide ((a : Int) < 0) = false := by simp
  have y3 : decide ((a : Int) < 10) = false := by simp; omega
  have y3n : decide (a < 10) = false := by simp; omega
  have y4 : decide ((a : Int) < 100) = true := by simp; omega
  have y4n : decide (a < 100) = true := by simp; omega
  have y5 : decide ((p : Int) > 0) = true := by simp; omega
  have y5n : decide (0 < p) = true := by simp; omega
  have y5p : 0 < p := hp
  have y6 : min ((p : Int) + 1) ((p : Int) + 1) = (p : Int) + 1 := by omega
  have y7 : decide (1 < (p : Int) + 1) = true := by simp; omega
  have y8 : (((p : Int) + 1 == 0)) = false := by simp; omega
  have y9 : ((p : Int) + 1 != 0) = true := by simp; omega
  have y10 : (p : Int) + 1 - ((p : Int) + 1) = 0 := by omega
  have y11 : (p : Int) + 1 ≤ 32 := by omega
  obtain ⟨b, hb⟩ : ∃ b, b = Lib.dg u (n - 1) := ⟨_, rfl⟩
  rw [← hb]
  have HC1 : Hid (∀ w1 : World, w.grownBy w1 (some E) → w1.cell? ⟨D, 0, none⟩ = some (.int .u8 (b.toNat : Int))) := Lib.hid (fun w1 hg => by rw [hb]; exact hg.cell (hD 0 (by omega)) (by simp [hED]))
  have HSD : Hid (∀ w1 : World, w.grownBy w1 (some E) → ∀ j, j < p → w1.cell? ((⟨D, 1, none⟩ : Addr).add j) = some (.int .u8 (((dl u n 1 p).getD j 0).toNat : Int))) := Lib.hid (fun w1 hg j hj => by
    rw [show (⟨D, 1, none⟩ : Addr).add j = ⟨D, 1 + j, none⟩ from by cases j <;> rfl, hg.cell (hD (1 + j) (by omega)) (by simp [hED])]
    simp [dl, List.getD, hj])
  obtain ⟨c, hc⟩ : ∃ c : Int, c = (b.toNat : Int) := ⟨_, rfl⟩
  rw [← hc] at HC1
  have HCc := Lib.hid hc
  clear hb hc hB hD hz1 he1 hze1 hz2 he2 hze2
  have c1 := HC1.out w HG0.out
  cases neg
  · go_enter Tryd.func24, Tryd.ntmps24
    go_wp2_with (first | (at_builtin; refine append_byte _ rfl _ _ rfl E V ([]) b c HCc.out 0 rfl rfl HB0.out rfl (by omega) ?_; intro w90 hb90 hg90; have HB90 := Lib.hid hb90; have HG90 := Lib.hid (HG0.out.trans hg90); clear hb90 hg90) | (at_builtin; refine append_byte _ rfl _ _ rfl E V ([] ++ [b]) 46 _ rfl 1 rfl rfl HB90.out rfl (by omega) ?_; intro w91 hb91 hg91; have HB91 := Lib.hid hb91; have HG91 := Lib.hid (HG90.out.trans hg91); clear hb91 hg91) | (at_builtin; refine append_buf _ rfl _ _ rfl E V ([] ++ [b] ++ [46]) (dl u n 1 p) 2 rfl rfl HB91.out ⟨D, 1, none⟩ p 31 (dl_len _ _ _ _) rfl (fun j hj => HSD.out _ HG91.out j hj) (by omega) ?_; intro w92 hb92 hg92; have HB92 := Lib.hid hb92; have HG92 := Lib.hid (HG91.out.trans hg92); clear hb92 hg92))
    go_loopw [0, 114] (fun vd vi wr => ∃ j l : Nat, vi = .int .i64 j ∧ j ≤ 0 ∧ vd = .slice (some ⟨E, 1, none⟩) l 64 ∧ l ≤ 60 ∧ Hid (l = (2 + p) + j) ∧ Hid (BufAt wr E V (([] ++ [b] ++ [46] ++ dl u n 1 p))) ∧ Hid (w.grownBy wr (some E))) (fun _ vi _ => 0 - (intOf vi).toNat)
    case atStart => exact ⟨0, (2 + p), rfl, Nat.zero_le _, rfl, by omega, Lib.hid rfl, Lib.hid (HB92.out.cast (by simp [dl])), HG92⟩
    case round =>
      obtain ⟨x1, hx1⟩ : ∃ x, x = wr := ⟨_, rfl⟩
      subst hx1
      obtain ⟨j, l1, rfl, hj, rfl, hl1, HL1, HB1, HG1⟩ := hrel
      obtain rfl : j = 0 := by omega
      have HC1 : Hid (BufAt x1 E V ([] ++ [b] ++ [46] ++ dl u n 1 p)) := HB1
      have hm1 : Hid (l1 = (2 + p)) := Lib.hid (by have := HL1.out; omega)
      go_wp2_with (first | (at_builtin; refine append_byte _ rfl _ _ rfl E V ([] ++ [b] ++ [46] ++ dl u n 1 p) 101 _ rfl l1 (by have hhm1 := hm1.out; simp [dl_len]; omega) rfl HC1.out rfl (by omega) ?_; intro w60 hb60 hg60; have HB60 := Lib.hid hb60; have HG60 := Lib.hid (HG1.out.trans hg60); clear hb60 hg60) | (at_builtin; refine append_byte _ rfl _ _ rfl E V ([] ++ [b] ++ [46] ++ dl u n 1 p ++ [101]) 43 _ rfl (l1 + 1) (by have hhm1 := hm1.out; simp [dl_len]; omega) rfl HB60.out rfl (by omega) ?_; intro w61 hb61 hg61; have HB61 := Lib.hid hb61; have HG61 := Lib.hid (HG60.out.trans hg61); clear hb61 hg61) | (at_builtin; refine append_lit _ rfl _ _ rfl E V ([] ++ [b] ++ [46] ++ dl u n 1 p ++ [101] ++ [43]) [e1, e2] #[.int .u8 z1, .int .u8 z2] HX.out (l1 + 2) 2 rfl (by have hhm1 := hm1.out; simp [dl_len]; omega) rfl HB61.out rfl (by have hhm1 := hm1.out; omega) ?_; intro w62 hb62 hg62; have HB62 := Lib.hid hb62; have HG62 := Lib.hid (HG61.out.trans hg62); clear hb62 hg62))
      have HLL : Hid (l1 + 2 + 2 = ([] ++ [b] ++ [46] ++ dl u n 1 p ++ [101] ++ [43] ++ [e1, e2]).length) := Lib.hid (by have hhm1 := hm1.out; simp [dl_len]; omega)
      go_ret
      exact ⟨[] ++ [b] ++ [46] ++ dl u n 1 p ++ [101] ++ [43] ++ [e1, e2], by rw [← HLL.out]; rfl, by simp, HB62.out, HG62.out⟩
  · go_enter Tryd.func24, Tryd.ntmps24
    go_wp2_with (first | (at_builtin; refine append_byte _ rfl _ _ rfl E V ([]) 45 _ rfl 0 rfl rfl HB0.out rfl (by omega) ?_; intro w90 hb90 hg90; have HB90 := Lib.hid hb90; have HG90 := Lib.hid (HG0.out.trans hg90); clear hb90 hg90; have c2 := HC1.out _ HG90.out) | (at_builtin; refine append_byte _ rfl _ _ rfl E V ([] ++ [45]) b c HCc.out 1 rfl rfl HB90.out rfl (by omega) ?_; intro w91 hb91 hg91; have HB91 := Lib.hid hb91; have HG91 := Lib.hid (HG90.out.trans hg91); clear hb91 hg91) | (at_builtin; refine append_byte _ rfl _ _ rfl E V ([] ++ [45] ++ [b]) 46 _ rfl 2 rfl rfl HB91.out rfl (by omega) ?_; intro w92 hb92 hg92; have HB92 := Lib.hid hb92; have HG92 := Lib.hid (HG91.out.trans hg92); clear hb92 hg92) | (at_builtin; refine append_buf _ rfl _ _ rfl E V ([] ++ [45] ++ [b] ++ [46]) (dl u n 1 p) 3 rfl rfl HB92.out ⟨D, 1, none⟩ p 31 (dl_len _ _ _ _) rfl (fun j hj => HSD.out _ HG92.out j hj) (by omega) ?_; intro w93 hb93 hg93; have HB93 := Lib.hid hb93; have HG93 := Lib.hid (HG92.out.trans hg93); clear hb93 hg93))
    go_loopw [0, 114] (fun vd vi wr => ∃ j l : Nat, vi = .int .i64 j ∧ j ≤ 0 ∧ vd = .slice (some ⟨E, 1, none⟩) l 64 ∧ l ≤ 60 ∧ Hid (l = (3 + p) + j) ∧ Hid (BufAt wr E V (([] ++ [45] ++ [b] ++ [46] ++ dl u n 1 p))) ∧ Hid (w.grownBy wr (some E))) (fun _ vi _ => 0 - (intOf vi).toNat)
    case atStart => exact ⟨0, (3 + p), rfl, Nat.zero_le _, rfl, by omega, Lib.hid rfl, Lib.hid (HB93.out.cast (by simp [dl])), HG93⟩
    case round =>
      obtain ⟨x1, hx1⟩ : ∃ x, x = wr := ⟨_, rfl⟩
      subst hx1
      obtain ⟨j, l1, rfl, hj, rfl, hl1, HL1, HB1, HG1⟩ := hrel
      obtain rfl : j = 0 := by omega
      have HC1 : Hid (BufAt x1 E V ([] ++ [45] ++ [b] ++ [46] ++ dl u n 1 p)) := HB1
      have hm1 : Hid (l1 = (3 + p)) := Lib.hid (by have := HL1.out; omega)
      go_wp2_with (first | (at_builtin; refine append_byte _ rfl _ _ rfl E V ([] ++ [45] ++ [b] ++ [46] ++ dl u n 1 p) 101 _ rfl l1 (by have hhm1 := hm1.out; simp [dl_len]; omega) rfl HC1.out rfl (by omega) ?_; intro w60 hb60 hg60; have HB60 := Lib.hid hb60; have HG60 := Lib.hid (HG1.out.trans hg60); clear hb60 hg60) | (at_builtin; refine append_byte _ rfl _ _ rfl E V ([] ++ [45] ++ [b] ++ [46] ++ dl u n 1 p ++ [101]) 43 _ rfl (l1 + 1) (by have hhm1 := hm1.out; simp [dl_len]; omega) rfl HB60.out rfl (by omega) ?_; intro w61 hb61 hg61; have HB61 := Lib.hid hb61; have HG61 := Lib.hid (HG60.out.trans hg61); clear hb61 hg61) | (at_builtin; refine append_lit _ rfl _ _ rfl E V ([] ++ [45] ++ [b] ++ [46] ++ dl u n 1 p ++ [101] ++ [43]) [e1, e2] #[.int .u8 z1, .int .u8 z2] HX.out (l1 + 2) 2 rfl (by have hhm1 := hm1.out; simp [dl_len]; omega) rfl HB61.out rfl (by have hhm1 := hm1.out; omega) ?_; intro w62 hb62 hg62; have HB62 := Lib.hid hb62; have HG62 := Lib.hid (HG61.out.trans hg62); clear hb62 hg62))
      have HLL : Hid (l1 + 2 + 2 = ([] ++ [45] ++ [b] ++ [46] ++ dl u n 1 p ++ [101] ++ [43] ++ [e1, e2]).length) := Lib.hid (by have hhm1 := hm1.out; simp [dl_len]; omega)
      go_ret
      exact ⟨[] ++ [45] ++ [b] ++ [46] ++ dl u n 1 p ++ [101] ++ [43] ++ [e1, e2], by rw [← HLL.out]; rfl, by simp, HB62.out, HG62.out⟩


set_option maxRecDepth 100000 in
set_option maxHeartbeats 2000000 in
theorem fe_mp3 (E D n u a : Nat) (p : Nat) (hp : 1 ≤ p) (hpn : p + 1 ≤ n) (dp : Int) (V : Value) (neg : Bool) (w : World) (hB : BufAt w E V []) (hD : DigAt w D n u) (hED : D ≠ E) (hn : n ≤ 20) (ha0 : 100 ≤ a) (ha : a < 1000) (hdp : dp - 1 = (a : Int)) :
    Calls Tryd.prog 24 #[.slice (some ⟨E, 1, none⟩) 0 64, .bool neg, .slice (some ⟨D, 0, none⟩) 32 32, .int .i64 dp, .int .i64 ((p : Int) + 1), .int .i64 p, .int .u8 101, .bool true] w fun res w' => ∃ L : List UInt8, res = .returned (.slice (some ⟨E, 1, none⟩) L.length 64) ∧ L = (if neg then [45] else []) ++ [Lib.dg u (n - 1)] ++ [46] ++ dl u n 1 p ++ [101] ++ [43] ++ [UInt8.ofNat (48 + a / 100), UInt8.ofNat (48 + a / 10 % 10), UInt8.ofNat (48 + a % 10)] ∧ BufAt w' E V L ∧ w.grownBy w' (some E) := by
  have HB0 := Lib.hid hB
  have HG0 := Lib.hid (World.grownBy.refl w (some E))
  obtain ⟨z1, hz1⟩ : ∃ z : Int, z = (a : Int) / 100 + 48 := ⟨_, rfl⟩
  obtain ⟨e1, he1⟩ : ∃ e : UInt8, e = UInt8.ofNat (48 + a / 100) := ⟨_, rfl⟩
  have hze1 : z1 = (e1.toNat : Int) := by rw [hz1, he1, UInt8.toNat_ofNat']; omega
  rw [← he1]
  obtain ⟨z2, hz2⟩ : ∃ z : Int, z = (a : Int) / 10 % 10 + 48 := ⟨_, rfl⟩
  obtain ⟨e2, he2⟩ : ∃ e : UInt8, e = UInt8.ofNat (48 + a / 10 % 10) := ⟨_, rfl⟩
  have hze2 : z2 = (e2.toNat : Int) := by rw [hz2, he2, UInt8.toNat_ofNat']; omega
  rw [← he2]
  obtain ⟨z3, hz3⟩ : ∃ z : Int, z = (a : Int) % 10 + 48 := ⟨_, rfl⟩
  obtain ⟨e3, he3⟩ : ∃ e : UInt8, e = UInt8.ofNat (48 + a % 10) := ⟨_, rfl⟩
  have hze3 : z3 = (e3.toNat : Int) := by rw [hz3, he3, UInt8.toNat_ofNat']; omega
  rw [← he3]
  have HX : Hid ((#[.int .u8 z1, .int .u8 z2, .int .u8 z3] : Array Value).toList = Lib.byteCells [e1, e2, e3]) := Lib.hid (by simp [Lib.byteCells, hze1, hze2, hze3])
  have q1 : IntKind.u8.wrap ((a : Int) / 100) = (a : Int) / 100 := by rw [IntKind.wrap_u8]; omega
  have q2 : IntKind.u8.wrap ((a : Int) / 100 + 48) = z1 := by rw [IntKind.wrap_u8]; omega
  have q5 : IntKind.u8.wrap ((a : Int) / 10) = (a : Int) / 10 := by rw [IntKind.wrap_u8]; omega
  have q6 : IntKind.u8.wrap ((a : Int) / 10 % 10 + 48) = z2 := by rw [IntKind.wrap_u8]; omega
  have q3 : IntKind.u8.wrap ((a : Int) % 10) = (a : Int) % 10 := by rw [IntKind.wrap_u8]; omega
  have q4 : IntKind.u8.wrap ((a : Int) % 10 + 48) = z3 := by rw [IntKind.wrap_u8]; omega
  have y1 : decide (dp - 1 < 0) = false := by simp; omega
  have y1m : decide ((a : Int) < 0) = false := by simp
  have y3 : decide ((a : Int) < 10) = false := by simp; omega
  have y3n : decide (a < 10) = false := by simp; omega
  have y4 : decide ((a : Int) < 100) = false := by simp; omega
  have y4n : decide (a < 100) = false := by simp; omega
  have y5 : decide ((p : Int) > 0) = true := by simp; omega
  have y5n : decide (0 < p) = true := by simp; omega
  have y5p : 0 < p := hp
  have y6 : min ((p : Int) + 1) ((p : Int) + 1) = (p : Int) + 1 := by omega
  have y7 : decide (1 < (p : Int) + 1) = true := by simp; omega
  have y8 : (((p : Int) + 1 == 0)) = false := by simp; omega
  have y9 : ((p : Int) + 1 != 0) = true := by simp; omega
  have y10 : (p : Int) + 1 - ((p : Int) + 1) = 0 := by omega
  have y11 : (p : Int) + 1 ≤ 32 := by omega
  obtain ⟨b, hb⟩ : ∃ b, b = Lib.dg u (n - 1) := ⟨_, rfl⟩
  rw [← hb]
  have HC1 : Hid (∀ w1 : World, w.grownBy w1 (some E) → w1.cell? ⟨D, 0, none⟩ = some (.int .u8 (b.toNat : Int))) := Lib.hid (fun w1 hg => by rw [hb]; exact hg.cell (hD 0 (by omega)) (by simp [hED]))
  have HSD : Hid (∀ w1 : World, w.grownBy w1 (some E) → ∀ j, j < p → w1.cell? ((⟨D, 1, none⟩ : Addr).add j) = some (.int .u8 (((dl u n 1 p).getD j 0).toNat : Int))) := Lib.hid (fun w1 hg j hj => by
    rw [show (⟨D, 1, none⟩ : Addr).add j = ⟨D, 1 + j, none⟩ from by cases j <;> rfl, hg.cell (hD (1 + j) (by omega)) (by simp [hED])]
    simp [dl, List.getD, hj])
  obtain ⟨c, hc⟩ : ∃ c : Int, c = (b.toNat : Int) := ⟨_, rfl⟩
  rw [← hc] at HC1
  have HCc := Lib.hid hc
  clear hb hc hB hD hz1 he1 hze1 hz2 he2 hze2 hz3 he3 hze3
  have c1 := HC1.out w HG0.out
  cases neg
  · go_enter Tryd.func24, Tryd.ntmps24
    go_wp2_with (first | (at_builtin; refine append_byte _ rfl _ _ rfl E V ([]) b c HCc.out 0 rfl rfl HB0.out rfl (by omega) ?_; intro w90 hb90 hg90; have HB90 := Lib.hid hb90; have HG90 := Lib.hid (HG0.out.trans hg90); clear hb90 hg90) | (at_builtin; refine append_byte _ rfl _ _ rfl E V ([] ++ [b]) 46 _ rfl 1 rfl rfl HB90.out rfl (by omega) ?_; intro w91 hb91 hg91; have HB91 := Lib.hid hb91; have HG91 := Lib.hid (HG90.out.trans hg91); clear hb91 hg91) | (at_builtin; refine append_buf _ rfl _ _ rfl E V ([] ++ [b] ++ [46]) (dl u n 1 p) 2 rfl rfl HB91.out ⟨D, 1, none⟩ p 31 (dl_len _ _ _ _) rfl (fun j hj => HSD.out _ HG91.out j hj) (by omega) ?_; intro w92 hb92 hg92; have HB92 := Lib.hid hb92; have HG92 := Lib.hid (HG91.out.trans hg92); clear hb92 hg92))
    go_loopw [0, 114] (fun vd vi wr => ∃ j l : Nat, vi = .int .i64 j ∧ j ≤ 0 ∧ vd = .slice (some ⟨E, 1, none⟩) l 64 ∧ l ≤ 60 ∧ Hid (l = (2 + p) + j) ∧ Hid (BufAt wr E V (([] ++ [b] ++ [46] ++ dl u n 1 p))) ∧ Hid (w.grownBy wr (some E))) (fun _ vi _ => 0 - (intOf vi).toNat)
    case atStart => exact ⟨0, (2 + p), rfl, Nat.zero_le _, rfl, by omega, Lib.hid rfl, Lib.hid (HB92.out.cast (by simp [dl])), HG92⟩
    case round =>
      obtain ⟨x1, hx1⟩ : ∃ x, x = wr := ⟨_, rfl⟩
      subst hx1
      obtain ⟨j, l1, rfl, hj, rfl, hl1, HL1, HB1, HG1⟩ := hrel
      obtain rfl : j = 0 := by omega
      have HC1 : Hid (BufAt x1 E V ([] ++ [b] ++ [46] ++ dl u n 1 p)) := HB1
      have hm1 : Hid (l1 = (2 + p)) := Lib.hid (by have := HL1.out; omega)
      go_wp2_with (first | (at_builtin; refine append_byte _ rfl _ _ rfl E V ([] ++ [b] ++ [46] ++ dl u n 1 p) 101 _ rfl l1 (by have hhm1 := hm1.out; simp [dl_len]; omega) rfl HC1.out rfl (by omega) ?_; intro w60 hb60 hg60; have HB60 := Lib.hid hb60; have HG60 := Lib.hid (HG1.out.trans hg60); clear hb60 hg60) | (at_builtin; refine append_byte _ rfl _ _ rfl E V ([] ++ [b] ++ [46] ++ dl u n 1 p ++ [101]) 43 _ rfl (l1 + 1) (by have hhm1 := hm1.out; simp [dl_len]; omega) rfl HB60.out rfl (by omega) ?_; intro w61 hb61 hg61; have HB61 := Lib.hid hb61; have HG61 := Lib.hid (HG60.out.trans hg61); clear hb61 hg61) | (at_builtin; refine append_lit _ rfl _ _ rfl E V ([] ++ [b] ++ [46] ++ dl u n 1 p ++ [101] ++ [43]) [e1, e2, e3] #[.int .u8 z1, .int .u8 z2, .int .u8 z3] HX.out (l1 + 2) 3 rfl (by have hhm1 := hm1.out; simp [dl_len]; omega) rfl HB61.out rfl (by have hhm1 := hm1.out; omega) ?_; intro w62 hb62 hg62; have HB62 := Lib.hid hb62; have HG62 := Lib.hid (HG61.out.trans hg62); clear hb62 hg62))
      have HLL : Hid (l1 + 2 + 3 = ([] ++ [b] ++ [46] ++ dl u n 1 p ++ [101] ++ [43] ++ [e1, e2, e3]).length) := Lib.hid (by have hhm1 := hm1.out; simp [dl_len]; omega)
      go_ret
      exact ⟨[] ++ [b] ++ [46] ++ dl u n 1 p ++ [101] ++ [43] ++ [e1, e2, e3], by rw [← HLL.out]; rfl, by simp, HB62.out, HG62.out⟩
  · go_enter Tryd.func24, Tryd.ntmps24
    go_wp2_with (first | (at_builtin; refine append_byte _ rfl _ _ rfl E V ([]) 45 _ rfl 0 rfl rfl HB0.out rfl (by omega) ?_; intro w90 hb90 hg90; have HB90 := Lib.hid hb90; have HG90 := Lib.hid (HG0.out.trans hg90); clear hb90 hg90; have c2 := HC1.out _ HG90.out) | (at_builtin; refine append_byte _ rfl _ _ rfl E V ([] ++ [45]) b c HCc.out 1 rfl rfl HB90.out rfl (by omega) ?_; intro w91 hb91 hg91; have HB91 := Lib.hid hb91; have HG91 := Lib.hid (HG90.out.trans hg91); clear hb91 hg91) | (at_builtin; refine append_byte _ rfl _ _ rfl E V ([] ++ [45] ++ [b]) 46 _ rfl 2 rfl rfl HB91.out rfl (by omega) ?_; intro w92 hb92 hg92; have HB92 := Lib.hid hb92; have HG92 := Lib.hid (HG91.out.trans hg92); clear hb92 hg92) | (at_builtin; refine append_buf _ rfl _ _ rfl E V ([] ++ [45] ++ [b] ++ [46]) (dl u n 1 p) 3 rfl rfl HB92.out ⟨D, 1, none⟩ p 31 (dl_len _ _ _ _) rfl (fun j hj => HSD.out _ HG92.out j hj) (by omega) ?_; intro w93 hb93 hg93; have HB93 := Lib.hid hb93; have HG93 := Lib.hid (HG92.out.trans hg93); clear hb93 hg93))
    go_loopw [0, 114] (fun vd vi wr => ∃ j l : Nat, vi = .int .i64 j ∧ j ≤ 0 ∧ vd = .slice (some ⟨E, 1, none⟩) l 64 ∧ l ≤ 60 ∧ Hid (l = (3 + p) + j) ∧ Hid (BufAt wr E V (([] ++ [45] ++ [b] ++ [46] ++ dl u n 1 p))) ∧ Hid (w.grownBy wr (some E))) (fun _ vi _ => 0 - (intOf vi).toNat)
    case atStart => exact ⟨0, (3 + p), rfl, Nat.zero_le _, rfl, by omega, Lib.hid rfl, Lib.hid (HB93.out.cast (by simp [dl])), HG93⟩
    case round =>
      obtain ⟨x1, hx1⟩ : ∃ x, x = wr := ⟨_, rfl⟩
      subst hx1
      obtain ⟨j, l1, rfl, hj, rfl, hl1, HL1, HB1, HG1⟩ := hrel
      obtain rfl : j = 0 := by omega
      have HC1 : Hid (BufAt x1 E V ([] ++ [45] ++ [b] ++ [46] ++ dl u n 1 p)) := HB1
      have hm1 : Hid (l1 = (3 + p)) := Lib.hid (by have := HL1.out; omega)
      go_wp2_with (first | (at_builtin; refine append_byte _ rfl _ _ rfl E V ([] ++ [45] ++ [b] ++ [46] ++ dl u n 1 p) 101 _ rfl l1 (by have hhm1 := hm1.out; simp [dl_len]; omega) rfl HC1.out rfl (by omega) ?_; intro w60 hb60 hg60; have HB60 := Lib.hid hb60; have HG60 := Lib.hid (HG1.out.trans hg60); clear hb60 hg60) | (at_builtin; refine append_byte _ rfl _ _ rfl E V ([] ++ [45] ++ [b] ++ [46] ++ dl u n 1 p ++ [101]) 43 _ rfl (l1 + 1) (by have hhm1 := hm1.out; simp [dl_len]; omega) rfl HB60.out rfl (by omega) ?_; intro w61 hb61 hg61; have HB61 := Lib.hid hb61; have HG61 := Lib.hid (HG60.out.trans hg61); clear hb61 hg61) | (at_builtin; refine append_lit _ rfl _ _ rfl E V ([] ++ [45] ++ [b] ++ [46] ++ dl u n 1 p ++ [101] ++ [43]) [e1, e2, e3] #[.int .u8 z1, .int .u8 z2, .int .u8 z3] HX.out (l1 + 2) 3 rfl (by have hhm1 := hm1.out; simp [dl_len]; omega) rfl HB61.out rfl (by have hhm1 := hm1.out; omega) ?_; intro w62 hb62 hg62; have HB62 := Lib.hid hb62; have HG62 := Lib.hid (HG61.out.trans hg62); clear hb62 hg62))
      have HLL : Hid (l1 + 2 + 3 = ([] ++ [45] ++ [b] ++ [46] ++ dl u n 1 p ++ [101] ++ [43] ++ [e1, e2, e3]).length) := Lib.hid (by have hhm1 := hm1.out; simp [dl_len]; omega)
      go_ret
      exact ⟨[] ++ [45] ++ [b] ++ [46] ++ dl u n 1 p ++ [101] ++ [43] ++ [e1, e2, e3], by rw [← HLL.out]; rfl, by simp, HB62.out, HG62.out⟩

end Go.Proofs.YtkincdcknmdboaaDoor
