/- The walks of the fields of a time, of its making, and of epochToArray at UTC. -/
import Derived.Test.YtiomakknhaiikaaW8
import Derived.Test.YtiomakknhaiikaaL1
import Derived.IntWalk
namespace Go.Proofs.Ytiomakknhaiikaa
open Go.RowKit
set_option linter.unusedVariables false

section
variable (n e : Int) (w : World) (h0 : 0 ≤ n) (h1 : n < 1000000000) (b0 : -2000000000000 ≤ e - 62135596800) (b1 : e - 62135596800 ≤ 2000000000000)
include h0 h1 b0 b1

theorem Month_any : Calls Try.prog 24 #[.agg #[.int .u64 n, .int .i64 e, .pointer none]] w fun r w' =>
    r = .returned (.int .i64 (Cal.am (Cal.ga (dayOf (e - 62135596800))) - Cal.jf (Cal.ga (dayOf (e - 62135596800))) * 12)) ∧ Below w.heap.size w w' := by
  have d0 := dayOf_bd _ b0 b1
  have d3 := ga_bd (dayOf (e - 62135596800))
  have d4 := jf_bd (Cal.ga (dayOf (e - 62135596800)))
  have d5 := am_bd _ d3.1 d3.2
  go_enter Try.func24, Try.ntmps24
  go_wp2_with (first
    | (go_at_call 36; refine (absSec_any n e _ h0 h1 b0 b1).mono ?_; rintro x w1 ⟨rfl, hb⟩)
    | (go_at_call 37; refine (daysOf_any (e - 62135596800) _ b0 b1).mono ?_; rintro x w2 ⟨rfl, rfl⟩)
    | (go_at_call 38; refine (split_any (dayOf (e - 62135596800)) _ d0.1 (by omega)).mono ?_; rintro x w2 ⟨rfl, rfl⟩)
    | (go_at_call 41; refine (mdsplit_any (Cal.ga (dayOf (e - 62135596800))) _ d3.1 d3.2).mono ?_; rintro x w2 ⟨rfl, rfl⟩)
    | (go_at_call 39; refine (janFeb_any (Cal.ga (dayOf (e - 62135596800))) _ d3.1 d3.2).mono ?_; rintro x w2 ⟨rfl, rfl⟩)
    | (go_at_call 42; refine (month_any (Cal.am (Cal.ga (dayOf (e - 62135596800)))) (Cal.jf (Cal.ga (dayOf (e - 62135596800)))) _ d5.1 d5.2 d4.1 d4.2).mono ?_; rintro x w2 ⟨rfl, rfl⟩))
  go_ret
  exact ⟨rfl, ((Below.refl _ _).alloc (Nat.le_refl _) _).trans (hb.mono (by simp))⟩

theorem Day_any : Calls Try.prog 25 #[.agg #[.int .u64 n, .int .i64 e, .pointer none]] w fun r w' =>
    r = .returned (.int .i64 (Cal.md (Cal.ga (dayOf (e - 62135596800))))) ∧ Below w.heap.size w w' := by
  have d0 := dayOf_bd _ b0 b1
  have d3 := ga_bd (dayOf (e - 62135596800))
  go_enter Try.func25, Try.ntmps25
  go_wp2_with (first
    | (go_at_call 36; refine (absSec_any n e _ h0 h1 b0 b1).mono ?_; rintro x w1 ⟨rfl, hb⟩)
    | (go_at_call 37; refine (daysOf_any (e - 62135596800) _ b0 b1).mono ?_; rintro x w2 ⟨rfl, rfl⟩)
    | (go_at_call 38; refine (split_any (dayOf (e - 62135596800)) _ d0.1 (by omega)).mono ?_; rintro x w2 ⟨rfl, rfl⟩)
    | (go_at_call 41; refine (mdsplit_any (Cal.ga (dayOf (e - 62135596800))) _ d3.1 d3.2).mono ?_; rintro x w2 ⟨rfl, rfl⟩))
  go_ret
  exact ⟨rfl, ((Below.refl _ _).alloc (Nat.le_refl _) _).trans (hb.mono (by simp))⟩

theorem Hour_any : Calls Try.prog 26 #[.agg #[.int .u64 n, .int .i64 e, .pointer none]] w fun r w' =>
    r = .returned (.int .i64 (absOf (e - 62135596800) % 86400 / 3600)) ∧ Below w.heap.size w w' := by
  have d0 := absOf_bd _ b0 b1
  go_enter Try.func26, Try.ntmps26
  go_wp2_with (go_at_call 36; refine (absSec_any n e _ h0 h1 b0 b1).mono ?_; rintro x w1 ⟨rfl, hb⟩)
  go_ret
  exact ⟨rfl, ((Below.refl _ _).alloc (Nat.le_refl _) _).trans (hb.mono (by simp))⟩

theorem Minute_any : Calls Try.prog 27 #[.agg #[.int .u64 n, .int .i64 e, .pointer none]] w fun r w' =>
    r = .returned (.int .i64 (absOf (e - 62135596800) % 3600 / 60)) ∧ Below w.heap.size w w' := by
  have d0 := absOf_bd _ b0 b1
  go_enter Try.func27, Try.ntmps27
  go_wp2_with (go_at_call 36; refine (absSec_any n e _ h0 h1 b0 b1).mono ?_; rintro x w1 ⟨rfl, hb⟩)
  go_ret
  exact ⟨rfl, ((Below.refl _ _).alloc (Nat.le_refl _) _).trans (hb.mono (by simp))⟩

theorem Second_any : Calls Try.prog 28 #[.agg #[.int .u64 n, .int .i64 e, .pointer none]] w fun r w' =>
    r = .returned (.int .i64 (absOf (e - 62135596800) % 60)) ∧ Below w.heap.size w w' := by
  have d0 := absOf_bd _ b0 b1
  go_enter Try.func28, Try.ntmps28
  go_wp2_with (go_at_call 36; refine (absSec_any n e _ h0 h1 b0 b1).mono ?_; rintro x w1 ⟨rfl, hb⟩)
  go_ret
  exact ⟨rfl, ((Below.refl _ _).alloc (Nat.le_refl _) _).trans (hb.mono (by simp))⟩

theorem Weekday_any : Calls Try.prog 29 #[.agg #[.int .u64 n, .int .i64 e, .pointer none]] w fun r w' =>
    r = .returned (.int .i64 ((dayOf (e - 62135596800) + 3) % 7)) ∧ Below w.heap.size w w' := by
  have d0 := dayOf_bd _ b0 b1
  go_enter Try.func29, Try.ntmps29
  go_wp2_with (first
    | (go_at_call 36; refine (absSec_any n e _ h0 h1 b0 b1).mono ?_; rintro x w1 ⟨rfl, hb⟩)
    | (go_at_call 37; refine (daysOf_any (e - 62135596800) _ b0 b1).mono ?_; rintro x w2 ⟨rfl, rfl⟩)
    | (go_at_call 43; refine (weekday_any (dayOf (e - 62135596800)) _ d0.1 (by omega)).mono ?_; rintro x w2 ⟨rfl, rfl⟩))
  go_ret
  exact ⟨rfl, ((Below.refl _ _).alloc (Nat.le_refl _) _).trans (hb.mono (by simp))⟩

theorem YearDay_any : Calls Try.prog 30 #[.agg #[.int .u64 n, .int .i64 e, .pointer none]] w fun r w' =>
    r = .returned (.int .i64 (Cal.yd (dayOf (e - 62135596800)))) ∧ Below w.heap.size w w' := by
  have d0 := dayOf_bd _ b0 b1
  go_enter Try.func30, Try.ntmps30
  go_wp2_with (first
    | (go_at_call 36; refine (absSec_any n e _ h0 h1 b0 b1).mono ?_; rintro x w1 ⟨rfl, hb⟩)
    | (go_at_call 37; refine (daysOf_any (e - 62135596800) _ b0 b1).mono ?_; rintro x w2 ⟨rfl, rfl⟩)
    | (go_at_call 44; refine (yearYday_any (dayOf (e - 62135596800)) _ d0.1 d0.2).mono ?_; rintro x w2 ⟨rfl, rfl⟩))
  go_ret
  exact ⟨rfl, ((Below.refl _ _).alloc (Nat.le_refl _) _).trans (hb.mono (by simp))⟩
end

theorem stripMono_any (n : Int) (a : Nat) (w : World) (h0 : 0 ≤ n) (h1 : n < 1000000000) (c0 : w.cell? ⟨a, 0, none⟩ = some (.int .u64 n)) :
    Calls Try.prog 49 #[.pointer (some ⟨a, 0, none⟩)] w fun r w' => r = .returned (.tuple #[]) ∧ w = w' := by
  have ht := and_top n h0 h1
  go_enter Try.func49, Try.ntmps49
  go_wp2
  go_end0
  exact ⟨rfl, rfl⟩

theorem setLoc_utc (n e : Int) (a p : Nat) (l : Value) (w : World) (h0 : 0 ≤ n) (h1 : n < 1000000000) (c0 : w.cell? ⟨a, 0, none⟩ = some (.int .u64 n)) (c2 : w.cell? ⟨a, 2, none⟩ = some l)
    (f2 : w.frozen? ⟨a, 2, none⟩ = false) (cp : w.cell? ⟨p, 0, none⟩ = some (.bool true)) :
    Calls Try.prog 35 #[.pointer (some ⟨a, 0, none⟩), .pointer (some ⟨p, 0, none⟩)] w fun r w' => r = .returned (.tuple #[]) ∧ w.setCell ⟨a, 2, none⟩ (.pointer none) = w' := by
  go_enter Try.func35, Try.ntmps35
  go_wp2_with (go_at_call 49; refine (stripMono_any n a _ h0 h1 c0).mono ?_; rintro x w2 ⟨rfl, rfl⟩)
  go_end0
  exact ⟨rfl, rfl⟩

theorem in_utc (n e : Int) (p : Nat) (w : World) (h0 : 0 ≤ n) (h1 : n < 1000000000) (hp : p < w.heap.size) (cp : w.cell? ⟨p, 0, none⟩ = some (.bool true)) :
    Calls Try.prog 22 #[.agg #[.int .u64 n, .int .i64 e, .pointer none], .pointer (some ⟨p, 0, none⟩)] w fun r w' =>
      r = .returned (.agg #[.int .u64 n, .int .i64 e, .pointer none]) ∧ Below w.heap.size w w' := by
  have hne : ¬ p = w.heap.size := by omega
  have hne' : ¬ p = w.heap.size + 1 := by omega
  go_enter Try.func22, Try.ntmps22
  go_wp2_with (go_at_call 35; refine (setLoc_utc n e w.heap.size p (.pointer none) _ h0 h1 (by go_simp) (by go_simp) (by go_simp) (by go_simp)).mono ?_; rintro x w2 ⟨rfl, rfl⟩)
  exact bodyPost_ret (v := .agg #[.int .u64 n, .int .i64 e, .pointer none]) (by simp [results, Try.results22, go_sem]) rfl ⟨rfl, ((Below.refl _ _).alloc (Nat.le_refl _) _).alloc (by simp) _⟩

/-- math.archFloor's entry, at a float that has been read -/
def floorEntry (x : Nat) (d : Ieee.Datum) : Sem Value :=
  match d with
  | .nan s t =>
    if FloatKind.f64.format.quiet t = t then pure (.float .f64 x) else do
    let kept ← choose (.extern "math.Floor,Ceil,Trunc,RoundToEven.signallingNaN kept" 2)
    pure (.float .f64 (if kept == 1 then x else FloatKind.f64.encode (.nan s (FloatKind.f64.format.quiet t))))
  | d => pure (.float .f64 (FloatKind.f64.encode (d.integral .down)))

theorem floorEntry_is (x : Nat) : Extern.MathFloor.toIntegral "math.archFloor" .down #[.float .f64 x] = floorEntry x (FloatKind.f64.decode x) := rfl

theorem floor_any (x y : Nat) (w : World) (hx : Flt.fin x) (hy : FloatKind.f64.encode ((FloatKind.f64.decode x).integral .down) = y) :
    Calls Try.prog 21 #[.float .f64 x] w fun r w' => r = .returned (.float .f64 y) ∧ w = w' := by
  have hc : ∀ W, (callFunc 33 #[.float .f64 x]).run Try.prog W = .ok (.value (.float .f64 y)) W := by
    intro W
    rw [run_callFunc_extern (e := Extern.MathFloor.toIntegral "math.archFloor" .down) Try.func33 (by kernel_rfl) (by kernel_rfl) (by kernel_rfl) (by kernel_rfl)]
    obtain ⟨m, q, hr, _⟩ := Flt.read_fin hx
    have hd : FloatKind.f64.decode x = .number (Flt.sg x) m ((q : Int) - 1074) := hr
    rw [floorEntry_is, hd, ← hy, hd]
    rfl
  go_enter Try.func21, Try.ntmps21
  go_wp2
  go_ret
  exact ⟨rfl, rfl⟩

/-- what epochToArray hands back: a new row of eight values -/
def EpochOut (Y M D h m : Int) (sc : Nat) (wd yd : Int) (w : World) (r : Ending) (w' : World) : Prop :=
  ∃ b, r = .returned (.slice (some ⟨b, 0, none⟩) 8 8) ∧ Below w.heap.size w w' ∧
    w'.cell? ⟨b, 0, none⟩ = some (.iface 3 (.int .i64 Y)) ∧ w'.cell? ⟨b, 1, none⟩ = some (.iface 3 (.int .i64 M)) ∧ w'.cell? ⟨b, 2, none⟩ = some (.iface 3 (.int .i64 D)) ∧
    w'.cell? ⟨b, 3, none⟩ = some (.iface 3 (.int .i64 h)) ∧ w'.cell? ⟨b, 4, none⟩ = some (.iface 3 (.int .i64 m)) ∧ w'.cell? ⟨b, 5, none⟩ = some (.iface 22 (.float .f64 sc)) ∧
    w'.cell? ⟨b, 6, none⟩ = some (.iface 3 (.int .i64 wd)) ∧ w'.cell? ⟨b, 7, none⟩ = some (.iface 3 (.int .i64 yd))

/-- of the second u and the nanoseconds n: what the eight values are, sc the seconds as a float -/
def EpochOf (u : Int) (sc : Nat) (w : World) (r : Ending) (w' : World) : Prop :=
  EpochOut (Cal.year (dayOf u)) (Cal.am (Cal.ga (dayOf u)) - Cal.jf (Cal.ga (dayOf u)) * 12 - 1) (Cal.md (Cal.ga (dayOf u))) (absOf u % 86400 / 3600) (absOf u % 3600 / 60) sc
    ((dayOf u + 3) % 7) (Cal.yd (dayOf u) - 1) w r w'

theorem epoch_any (v fl sb pr q r p : Nat) (u n : Int) (w : World) (hp : p < w.heap.size) (cp : w.cell? ⟨p, 0, none⟩ = some (.bool true))
    (hv : Flt.fin v) (hfl : FloatKind.f64.encode ((FloatKind.f64.decode v).integral .down) = fl) (hsb : floatBits .sub .f64 v fl = some sb) (hpr : floatBits .mul .f64 sb 4741671816366391296 = some pr)
    (hu : floatToIntVal .f64 v .i64 = some u) (hn : floatToIntVal .f64 pr .i64 = some n) (h0 : 0 ≤ n) (h1 : n < 1000000000) (b0 : -1500000000000 ≤ u) (b1 : u ≤ 1500000000000)
    (hq : floatBits .quo .f64 (floatOfInt .f64 n) 4741671816366391296 = some q) (hr : floatBits .add .f64 (floatOfInt .f64 (absOf u % 60)) q = some r) :
    Calls Try.prog 12 #[.float .f64 v, .pointer (some ⟨p, 0, none⟩)] w (EpochOf u r w) := by
  have H1 := fun w => run_float_arith (P := Try.prog) w .sub 22 .f64 _ _ _ hsb
  have H2 := fun w => run_float_arith (P := Try.prog) w .mul 22 .f64 _ _ _ hpr
  have H3 := fun w => run_convert_float_int (P := Try.prog) w 22 2 .f64 .i64 v u (by rw [Try.underlying22]; rfl) Try.underlying2 hu
  have H4 := fun w => run_convert_float_int (P := Try.prog) w 22 2 .f64 .i64 pr n (by rw [Try.underlying22]; rfl) Try.underlying2 hn
  have H5 := fun w => run_float_arith (P := Try.prog) w .quo 22 .f64 _ _ _ hq
  have H6 := fun w => run_float_arith (P := Try.prog) w .add 22 .f64 _ _ _ hr
  have HF := Lib.hid (fun w => floor_any v fl w hv hfl)
  clear hsb hpr hu hn hq hr hfl hv
  have d0 := absOf_bd u (by omega) (by omega)
  have d1 := dayOf_bd u (by omega) (by omega)
  have k1 : IntKind.i64.wrap (Cal.am (Cal.ga (dayOf u)) - Cal.jf (Cal.ga (dayOf u)) * 12 - 1) = Cal.am (Cal.ga (dayOf u)) - Cal.jf (Cal.ga (dayOf u)) * 12 - 1 := by
    have x1 := ga_bd (dayOf u)
    have x2 := am_bd _ x1.1 x1.2
    have x3 := jf_bd (Cal.ga (dayOf u))
    exact IntWalk.i64_in _ (by omega)
  have k2 : IntKind.i64.wrap (Cal.yd (dayOf u) - 1) = Cal.yd (dayOf u) - 1 := by
    have x1 := ga_bd (dayOf u)
    have x3 := jf_bd (Cal.ga (dayOf u))
    have x4 := lp_or (Cal.gc (dayOf u)) (Cal.gy (dayOf u))
    refine IntWalk.i64_in _ ?_
    unfold Cal.yd
    split <;> omega
  have c0 : -2000000000000 ≤ u + 62135596800 - 62135596800 := by omega
  have c1 : u + 62135596800 - 62135596800 ≤ 2000000000000 := by omega
  have e1 := Lib.hid (show u + 62135596800 - 62135596800 = u by omega)
  go_enter Try.func12, Try.ntmps12
  go_wp2_with (first
    | (go_at_call 21; refine (HF.out _).mono ?_; rintro x w2 ⟨rfl, rfl⟩)
    | (go_at_call 11; refine (unixF_in u n _ h0 h1 (by omega) (by omega)).mono ?_; rintro x w2 ⟨rfl, hb2⟩; obtain ⟨hcc, hff⟩ := bcell hb2; have hs2 := hb2.size)
    | (go_at_call 22; refine (in_utc n (u + 62135596800) p _ h0 h1 (by omega) (by go_simp)).mono ?_; rintro x w3 ⟨rfl, hb3⟩))
  have HB : Below w.heap.size w (w3.alloc (Obj.cells #[Value.int IntKind.u64 n, Value.int IntKind.i64 (u + 62135596800), Value.pointer none] 36)).drew :=
    ((hb2.trans (hb3.mono hs2)).alloc (Nat.le_trans hs2 hb3.size) _).drew
  have hs3 := Nat.le_trans hs2 hb3.size
  go_region_held3 (fun w' => w'.cell? ⟨w3.heap.size, 0, none⟩ = some (.int .u64 n) ∧ w'.cell? ⟨w3.heap.size, 1, none⟩ = some (.int .i64 (u + 62135596800)) ∧ w'.cell? ⟨w3.heap.size, 2, none⟩ = some (.pointer none) ∧ Below w.heap.size w w')
    (first | (go_keep; done) | (go_split_ands; exact ⟨(hb1.cell (p := ⟨w3.heap.size, 0, none⟩) (World.block_lt_of_cell? _ ⟨w3.heap.size, 0, none⟩ (by assumption))).trans (by assumption), (hb1.cell (p := ⟨w3.heap.size, 1, none⟩) (World.block_lt_of_cell? _ ⟨w3.heap.size, 1, none⟩ (by assumption))).trans (by assumption), (hb1.cell (p := ⟨w3.heap.size, 2, none⟩) (World.block_lt_of_cell? _ ⟨w3.heap.size, 2, none⟩ (by assumption))).trans (by assumption), Below.trans (by assumption) (hb1.mono (Nat.le_trans hs3 (Nat.le_of_lt (World.block_lt_of_cell? _ ⟨w3.heap.size, 0, none⟩ (by assumption)))))⟩) | (go_split_ands; exact ⟨cell_alloc (by assumption) _, cell_alloc (by assumption) _, cell_alloc (by assumption) _, below_alloc (by assumption) _⟩))
    (first | (go_at_call 23; refine (Year_any n (u + 62135596800) _ h0 h1 c0 c1).mono ?_; (try rw [e1.out]); rintro x w1 ⟨rfl, hb1⟩) | (go_at_call 24; refine (Month_any n (u + 62135596800) _ h0 h1 c0 c1).mono ?_; (try rw [e1.out]); rintro x w1 ⟨rfl, hb1⟩) | (go_at_call 25; refine (Day_any n (u + 62135596800) _ h0 h1 c0 c1).mono ?_; (try rw [e1.out]); rintro x w1 ⟨rfl, hb1⟩) | (go_at_call 26; refine (Hour_any n (u + 62135596800) _ h0 h1 c0 c1).mono ?_; (try rw [e1.out]); rintro x w1 ⟨rfl, hb1⟩) | (go_at_call 27; refine (Minute_any n (u + 62135596800) _ h0 h1 c0 c1).mono ?_; (try rw [e1.out]); rintro x w1 ⟨rfl, hb1⟩) | (go_at_call 28; refine (Second_any n (u + 62135596800) _ h0 h1 c0 c1).mono ?_; (try rw [e1.out]); rintro x w1 ⟨rfl, hb1⟩) | (go_at_call 19; refine (nanosecond_any n (u + 62135596800) _ _ h0 h1).mono ?_; (try rw [e1.out]); rintro x w1 ⟨rfl, hb1⟩) | (go_at_call 29; refine (Weekday_any n (u + 62135596800) _ h0 h1 c0 c1).mono ?_; (try rw [e1.out]); rintro x w1 ⟨rfl, hb1⟩) | (go_at_call 30; refine (YearDay_any n (u + 62135596800) _ h0 h1 c0 c1).mono ?_; (try rw [e1.out]); rintro x w1 ⟨rfl, hb1⟩))
  go_wp2
  go_ret
  refine ⟨w1.heap.size, rfl, by go_split_ands; assumption, ?_, ?_, ?_, ?_, ?_, ?_, ?_, ?_⟩ <;> go_simp

@[go_sem] theorem as20_3 (v : Value) (w : World) : (Instr.typeAssert (.iface 3 v) 20 3 false).run Try.prog w = .ok v w := by kernel_rfl
@[go_sem] theorem as20_22 (v : Value) (w : World) : (Instr.typeAssert (.iface 22 v) 20 22 false).run Try.prog w = .ok v w := by kernel_rfl

theorem ZZepoch_any (v fl sb pr q r : Nat) (u n : Int) (w : World)
    (hv : Flt.fin v) (hfl : FloatKind.f64.encode ((FloatKind.f64.decode v).integral .down) = fl) (hsb : floatBits .sub .f64 v fl = some sb) (hpr : floatBits .mul .f64 sb 4741671816366391296 = some pr)
    (hu : floatToIntVal .f64 v .i64 = some u) (hn : floatToIntVal .f64 pr .i64 = some n) (h0 : 0 ≤ n) (h1 : n < 1000000000) (b0 : -1500000000000 ≤ u) (b1 : u ≤ 1500000000000)
    (hq : floatBits .quo .f64 (floatOfInt .f64 n) 4741671816366391296 = some q) (hr : floatBits .add .f64 (floatOfInt .f64 (absOf u % 60)) q = some r) :
    Calls Try.prog 8 #[.float .f64 v] w fun e w' =>
      e = .returned (.tuple #[.int .i64 (Cal.year (dayOf u)), .int .i64 (Cal.am (Cal.ga (dayOf u)) - Cal.jf (Cal.ga (dayOf u)) * 12 - 1), .int .i64 (Cal.md (Cal.ga (dayOf u))), .int .i64 (absOf u % 86400 / 3600), .int .i64 (absOf u % 3600 / 60), .float .f64 r,
        .int .i64 ((dayOf u + 3) % 7), .int .i64 (Cal.yd (dayOf u) - 1)]) ∧ Below w.heap.size w w' := by
  have HE := Lib.hid (fun p w hp cp => epoch_any v fl sb pr q r p u n w hp cp hv hfl hsb hpr hu hn h0 h1 b0 b1 hq hr)
  clear hv hfl hsb hpr hu hn hq hr
  go_enter Try.func8, Try.ntmps8
  go_wp2_with (first
    | (go_at_call 13; refine (utc_any _).mono ?_; rintro x w1 ⟨rfl, hb1, hc1, hs1⟩)
    | (go_at_call 12; refine (HE.out _ _ (by assumption) (by assumption)).mono ?_; rintro x w2 ⟨b, rfl, hb2, g0, g1, g2, g3, g4, g5, g6, g7⟩))
  go_quiet (fail)
  go_wp2
  exact bodyPost_ret (v := .tuple #[.int .i64 (Cal.year (dayOf u)), .int .i64 (Cal.am (Cal.ga (dayOf u)) - Cal.jf (Cal.ga (dayOf u)) * 12 - 1), .int .i64 (Cal.md (Cal.ga (dayOf u))), .int .i64 (absOf u % 86400 / 3600), .int .i64 (absOf u % 3600 / 60), .float .f64 r,
        .int .i64 ((dayOf u + 3) % 7), .int .i64 (Cal.yd (dayOf u) - 1)]) (by simp [results, Try.results8, go_sem]) rfl ⟨rfl, below_drewN (hb1.trans (hb2.mono hb1.size)) nq⟩
end Go.Proofs.Ytiomakknhaiikaa
