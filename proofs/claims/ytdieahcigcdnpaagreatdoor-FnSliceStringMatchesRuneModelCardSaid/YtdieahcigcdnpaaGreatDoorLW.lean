/- The plain law of a cut's two ends: which positions it keeps. -/
import Derived.WalkKit
import Derived.Lib.Hide
namespace Go.Proofs.YtdieahcigcdnpaaGreatDoor
open Go
set_option linter.unusedVariables false

/-- an index brought between two bounds, counted from the end where it is negative -/
def clampI (i mn mx : Int) : Int := if i < 0 then (if i + mx < mn then mn else if i + mx < mx then i + mx else mx) else (if i < mn then mn else if i < mx then i else mx)
def stOf (b : Bool) (s n : Int) : Int := if b = true then clampI s 0 n else 0
def enOf (b : Bool) (e st n : Int) : Int := if b = true then clampI e st n else n

theorem st_bounds (b : Bool) (s n : Int) (h : 0 ≤ n) : 0 ≤ stOf b s n ∧ stOf b s n ≤ n := by
  unfold stOf clampI
  repeat' split
  all_goals omega
theorem en_bounds (b : Bool) (e st n : Int) (h : 0 ≤ st) (h1 : st ≤ n) : st ≤ enOf b e st n ∧ enOf b e st n ≤ n := by
  unfold enOf clampI
  repeat' split
  all_goals omega

/-- what zzInRange says of a position -/
def inR (i n : Int) (sb : Bool) (s : Int) (eb : Bool) (e : Int) : Bool :=
  !(sb && decide (i < (if 0 ≤ s then s else s + n))) && !(eb && decide ((if 0 ≤ e then e else e + n) ≤ i))

theorem inR_window (i n : Int) (sb : Bool) (s : Int) (eb : Bool) (e : Int) (h0 : 0 ≤ i) (h1 : i < n) :
    inR i n sb s eb e = (decide (stOf sb s n ≤ i) && decide (i < enOf eb e (stOf sb s n) n)) := by
  have H := Bool.eq_iff_iff (a := inR i n sb s eb e) (b := (decide (stOf sb s n ≤ i) && decide (i < enOf eb e (stOf sb s n) n)))
  rw [H]
  unfold inR stOf enOf clampI
  cases sb <;> cases eb <;> simp
  all_goals (repeat' split) <;> (try simp) <;> omega

/-- the elements from position a on and before b -/
def win {α : Type} (xs : List α) (a b : Nat) : List α := (xs.take b).drop a

theorem win_len {α : Type} (xs : List α) (a b : Nat) (hb : b ≤ xs.length) : (win xs a b).length = b - a := by
  unfold win; simp; omega
theorem win_get {α : Type} (xs : List α) (a b j : Nat) (d : α) (hb : b ≤ xs.length) (hj : j < b - a) : (win xs a b).getD j d = xs.getD (a + j) d := by
  unfold win
  rw [List.getD_eq_getElem?_getD, List.getD_eq_getElem?_getD, List.getElem?_drop, List.getElem?_take, if_pos (by omega)]
theorem win_map {α β : Type} (f : α → β) (xs : List α) (a b : Nat) : win (xs.map f) a b = (win xs a b).map f := by
  unfold win; simp [List.map_drop, List.map_take]
theorem win_self {α : Type} (xs : List α) (a : Nat) : win xs a a = [] := by
  unfold win; simp
theorem win_low {α : Type} (xs : List α) (a b : Nat) (h : b ≤ a) : win xs a b = [] := by
  unfold win; simp; omega
theorem win_succ {α : Type} (xs : List α) (a b : Nat) (d : α) (hb : b < xs.length) (ha : a ≤ b) : win xs a (b + 1) = win xs a b ++ [xs.getD b d] := by
  unfold win
  rw [List.take_add_one, List.getElem?_eq_getElem hb, List.drop_append_of_le_length (by simp; omega)]
  simp [List.getD, hb]
theorem win_split {α : Type} (xs : List α) (a : Nat) : win xs 0 a ++ win xs a xs.length = xs := by
  unfold win; simp
end Go.Proofs.YtdieahcigcdnpaaGreatDoor
