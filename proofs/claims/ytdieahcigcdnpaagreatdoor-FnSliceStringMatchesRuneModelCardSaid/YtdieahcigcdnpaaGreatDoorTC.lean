/- Plain facts on math.Ceil and toIntCeil, by values. -/
import Derived.Test.YtdieahcigcdnpaaGreatDoorTF
import Derived.Laws.Externs
import Derived.Laws.NewFold
import GoSem.Extern.MathFloor
namespace Go.Proofs.YtdieahcigcdnpaaGreatDoor
open Flt
set_option linter.unusedVariables false

/-- math.archCeil's entry, at a float that has been read -/
def ceilEntry (x : Nat) (d : Ieee.Datum) : Sem Value :=
  match d with
  | .nan s t =>
    if FloatKind.f64.format.quiet t = t then pure (.float .f64 x) else do
    let kept ← choose (.extern "math.Floor,Ceil,Trunc,RoundToEven.signallingNaN kept" 2)
    pure (.float .f64 (if kept == 1 then x else FloatKind.f64.encode (.nan s (FloatKind.f64.format.quiet t))))
  | d => pure (.float .f64 (FloatKind.f64.encode (d.integral .up)))

theorem ceilEntry_is (x : Nat) : Extern.MathFloor.toIntegral "math.archCeil" .up #[.float .f64 x] = ceilEntry x (FloatKind.f64.decode x) := rfl

/-- the word of the ceiling of what is no NaN -/
def cl (x : Nat) : Nat := FloatKind.f64.encode ((FloatKind.f64.decode x).integral .up)

theorem quiet_nan (s : Bool) (t : Nat) : nan (FloatKind.f64.encode (.nan s (FloatKind.f64.format.quiet t))) := by
  show nan (Ieee.double.word s (Ieee.double.infRung + (t ||| 2^51) % Ieee.double.binade))
  have h3 : Ieee.double.infRung = 2047 * 2^52 := by decide
  have h2 : Ieee.double.binade = 2^52 := rfl
  rw [h3, h2]
  have hb : (t ||| 2^51) % 2^52 < 2^52 := Nat.mod_lt _ (by omega)
  have hp : 2^51 ≤ (t ||| 2^51) % 2^52 := by
    rw [Nat.or_mod_two_pow]; exact Nat.right_le_or
  unfold nan
  rw [mg_word _ (by omega)]
  omega

theorem ceil_run {P : Program} (x : Nat) (w : World) : ∃ y w', (Extern.MathFloor.toIntegral "math.archCeil" .up #[.float .f64 x]).run P w = .ok (.float .f64 y) w' ∧ (w' = w ∨ w' = w.drew) ∧
    (¬ nan x → y = cl x) ∧ (nan x → nan y) := by
  rw [ceilEntry_is]
  by_cases h : nan x
  · have hd : FloatKind.f64.decode x = .nan (sg x) (mg x - 2047 * 2^52) := read_nan h
    rw [hd]
    by_cases hq : FloatKind.f64.format.quiet (mg x - 2047 * 2^52) = mg x - 2047 * 2^52
    · refine ⟨x, w, ?_, Or.inl rfl, fun hn => absurd h hn, fun _ => h⟩
      simp only [ceilEntry, if_pos hq]
      rfl
    · refine ⟨if (Question.extern "math.Floor,Ceil,Trunc,RoundToEven.signallingNaN kept" 2).cut (w.tape w.drawn (Question.extern "math.Floor,Ceil,Trunc,RoundToEven.signallingNaN kept" 2)) == 1 then x else FloatKind.f64.encode (.nan (sg x) (FloatKind.f64.format.quiet (mg x - 2047 * 2^52))), w.drew, ?_, Or.inr rfl, fun hn => absurd h hn, ?_⟩
      · simp only [ceilEntry, if_neg hq]
        rfl
      · intro _
        split
        · exact h
        · exact quiet_nan _ _
  · refine ⟨cl x, w, ?_, Or.inl rfl, fun _ => rfl, fun hn => absurd hn h⟩
    unfold cl
    have hcase : (∃ s m e, FloatKind.f64.decode x = .number s m e) ∨ (∃ s, FloatKind.f64.decode x = .infinity s) := by
      unfold nan at h
      rcases Nat.lt_or_eq_of_le (Nat.le_of_not_lt h) with hf | hf
      · obtain ⟨m, q, hr, _⟩ := read_fin hf; exact Or.inl ⟨_, _, _, hr⟩
      · exact Or.inr ⟨_, read_inf hf⟩
    rcases hcase with ⟨s, m, e, hd⟩ | ⟨s, hd⟩
    · rw [hd]; rfl
    · rw [hd]; rfl

/-- what toIntCeil gives -/
def tci (x : Nat) : Int := if nan x then -9223372036854775808 else fti (cl x)
theorem tci_nan {x : Nat} (h : nan x) : tci x = -9223372036854775808 := by unfold tci; rw [if_pos h]
theorem tci_num {x : Nat} (h : ¬ nan x) : tci x = fti (cl x) := by unfold tci; rw [if_neg h]

/-- floatToInt goes by the value alone -/
theorem fti_of_V {x y : Nat} (hx : ¬ nan x) (hy : ¬ nan y) (h : V x = V y) : fti x = fti y := by
  have hp := one_pos
  by_cases h1 : V x < -(9223372036854775808 * (Uno : Int))
  · rw [fti_low hx h1, fti_low hy (by omega)]
  by_cases h2 : 9223372036854775808 * (Uno : Int) ≤ V x
  · rw [fti_high hx h2, fti_high hy (by omega)]
  rw [fti_mid hx (by omega) (by omega), fti_mid hy (by omega) (by omega)]
  have e : vr (mg x) = vr (mg y) := by rw [← abs_V, ← abs_V, h]
  rw [e]
  by_cases z : vr (mg y) = 0
  · rw [z, Nat.zero_div]; cases sg x <;> cases sg y <;> rfl
  · have : sg x = sg y := by
      unfold V at h
      rw [e] at h
      cases hs : sg x <;> cases hs' : sg y <;> rw [hs, hs'] at h <;> simp at h <;> first | rfl | omega
    rw [this]

theorem cl_inf {x : Nat} (h : mg x = 2047 * 2^52) : ¬ nan (cl x) ∧ V (cl x) = V x := by
  have hd : FloatKind.f64.decode x = .infinity (sg x) := read_inf h
  have e : cl x = Ieee.double.word (sg x) (2047 * 2^52) := by
    unfold cl; rw [hd]; rfl
  rw [e]
  refine ⟨by unfold nan; rw [mg_word _ (by omega)]; omega, ?_⟩
  rw [V_word _ (by omega)]; unfold V; rw [h]

theorem cl_fin {x : Nat} (h : fin x) : ∃ u : Nat, u = vr (mg x) / Uno + (if (!sg x) = true ∧ vr (mg x) % Uno ≠ 0 then 1 else 0) ∧ fin (cl x) ∧ V (cl x) = if sg x then -((u : Int) * (Uno : Int)) else (u : Int) * (Uno : Int) := by
  obtain ⟨u, hu, hv, hr, hi⟩ := whole_fin (way := .up) (by decide) h
  have e : cl x = Ieee.double.word (sg x) (rungd u 0) := by
    show Ieee.double.write ((Ieee.double.read x).integral .up) = _
    rw [hu]; exact nearest_eq _ _ _
  refine ⟨u, hv, ?_, ?_⟩
  · rw [e]; unfold fin; rw [mg_word _ (rung_lt63 _ _)]; exact hi
  · rw [e, V_word _ (rung_lt63 _ _), hr, Int.natCast_mul]

theorem pm_abs (s : Bool) (a : Nat) : (if s then -(a : Int) else (a : Int)).natAbs = a := by cases s <;> simp
theorem pm_bd (s : Bool) (a B : Nat) (h : a ≤ B) : -(B : Int) ≤ (if s then -(a : Int) else (a : Int)) ∧ (if s then -(a : Int) else (a : Int)) ≤ (B : Int) := by cases s <;> simp <;> omega

/-- nothing is cut of a great number -/
theorem tci_big {x : Nat} (h : ¬ nan x) (hb : 4503599627370496 * (Uno : Int) ≤ V x ∨ V x ≤ -(4503599627370496 * (Uno : Int))) : tci x = fti x := by
  rw [tci_num h]
  have hp := one_pos
  unfold nan at h
  rcases Nat.lt_or_eq_of_le (Nat.le_of_not_lt h) with hf | hf
  · have hv : 4503599627370496 * Uno ≤ vr (mg x) := by have := abs_V x; omega
    obtain ⟨t, ht, _⟩ := whole_big hf hv
    obtain ⟨u, hu, cf, cv⟩ := cl_fin hf
    rw [ht, Nat.mul_mod_left, Nat.mul_div_cancel _ hp, if_neg (fun hh => hh.2 rfl), Nat.add_zero] at hu
    refine fti_of_V (not_nan_of_fin cf) h ?_
    rw [cv, hu]; unfold V; rw [ht, Int.natCast_mul]
  · have := cl_inf hf
    exact fti_of_V this.1 h this.2

theorem tci_small {x : Nat} (h : ¬ nan x) (h1 : -(4503599627370496 * (Uno : Int)) < V x) (h2 : V x < 4503599627370496 * (Uno : Int)) :
    (V x ≤ 0 → tci x = fti x) ∧ (0 < V x → fti x * (Uno : Int) = V x → tci x = fti x) ∧ (0 < V x → ¬ fti x * (Uno : Int) = V x → tci x = fti x + 1) := by
  have hp := one_pos
  have hf : fin x := fin_mid (by omega) (by omega)
  obtain ⟨u, hu, cf, cv⟩ := cl_fin hf
  have e := fti_mid (x := x) h (by omega) (by omega)
  have cn := not_nan_of_fin cf
  obtain ⟨t, r, hv, hr, ht⟩ := parts x
  have hmod : vr (mg x) % Uno = r := by rw [hv, Nat.mul_comm, Nat.mul_add_mod, Nat.mod_eq_of_lt hr]
  rw [ht] at e
  rw [ht, hmod] at hu
  have htU : ((t * Uno : Nat) : Int) = (t : Int) * (Uno : Int) := Int.natCast_mul _ _
  have hVa := abs_V x
  rw [hv] at hVa
  have tb : t ≤ 4503599627370495 := by
    refine Nat.le_of_not_lt fun hlt => ?_
    have h3 : 4503599627370496 * Uno ≤ t * Uno := Nat.mul_le_mul_right _ hlt
    omega
  have ub : u ≤ 4503599627370496 := by rw [hu]; split <;> omega
  have uU : u * Uno ≤ 4503599627370496 * Uno := Nat.mul_le_mul_right _ ub
  have uUc : ((u * Uno : Nat) : Int) = (u : Int) * (Uno : Int) := Int.natCast_mul _ _
  rw [← uUc] at cv
  have um : vr (mg (cl x)) = u * Uno := by rw [← abs_V, cv, pm_abs]
  have cb := pm_bd (sg x) (u * Uno) (4503599627370496 * Uno) uU
  rw [← cv] at cb
  have ce : fti (cl x) = if sg (cl x) then -(u : Int) else (u : Int) := by
    have := fti_mid (x := cl x) cn (by omega) (by omega)
    rw [um, Nat.mul_div_cancel _ hp] at this
    exact this
  have cs : u ≠ 0 → sg (cl x) = sg x := by
    intro hu0
    have hpos : 0 < u * Uno := Nat.mul_pos (Nat.pos_of_ne_zero hu0) hp
    clear cb uU ub tb hVa htU hv hr ht hu e h1 h2
    unfold V at cv
    rw [um] at cv
    generalize u * Uno = Z at *
    cases hs : sg x <;> cases hs' : sg (cl x) <;> rw [hs, hs'] at cv <;> simp at cv <;> first | rfl | omega
  rw [tci_num h]
  have vx : V x = if sg x then -((t : Int) * (Uno : Int) + r) else (t : Int) * (Uno : Int) + r := by
    unfold V; rw [hv, Int.natCast_add, htU]
  refine ⟨fun hle => ?_, fun hlt heq => ?_, fun hlt hne => ?_⟩
  · -- not above zero
    have hut : u = t := by
      rw [hu]
      cases hs : sg x
      · rw [hs] at vx; simp only [Bool.false_eq_true, if_false] at vx
        have : r = 0 := by omega
        rw [if_neg (by omega)]; omega
      · rw [if_neg (by simp)]; omega
    rw [ce, e, hut]
    by_cases z : t = 0
    · rw [z]; cases sg (cl x) <;> cases sg x <;> rfl
    · rw [cs (by omega)]
  · have hs : sg x = false := by
      cases hs : sg x
      · rfl
      · rw [hs] at vx; simp only [if_true] at vx; omega
    rw [hs] at e vx
    simp only [Bool.false_eq_true, if_false] at e vx
    rw [e, vx] at heq
    have hut : u = t := by rw [hu, if_neg (by omega)]; omega
    have t0 : u ≠ 0 := by
      intro z
      have : t = 0 := by omega
      rw [this] at vx; simp at vx; omega
    rw [ce, e, cs t0, hs, hut]; rfl
  · have hs : sg x = false := by
      cases hs : sg x
      · rfl
      · rw [hs] at vx; simp only [if_true] at vx; omega
    rw [hs] at e vx
    simp only [Bool.false_eq_true, if_false] at e vx
    rw [e, vx] at hne
    have hut : u = t + 1 := by rw [hu, if_pos ⟨by rw [hs]; rfl, by omega⟩]
    rw [ce, e, cs (by omega), hs, hut]
    simp
attribute [irreducible] tci
end Go.Proofs.YtdieahcigcdnpaaGreatDoor
