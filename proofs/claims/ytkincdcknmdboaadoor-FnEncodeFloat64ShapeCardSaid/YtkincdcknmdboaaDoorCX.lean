/- What is checked of each exponent: the scale's place in the table and its shift. Plain Lean. -/
import Derived.Test.YtkincdcknmdboaaDoorUT
namespace Go.Proofs.YtkincdcknmdboaaDoor
open Go
set_option linter.unusedVariables false

/-- e: the exponent of the 64-bit mantissa; L: the decimal place; the facts that the short search asks -/
def okL (e L : Int) : Bool :=
  let lp := -L * 108853 / 32768
  decide (-1200 ≤ L) && decide (L ≤ 1200) && decide (-5000 ≤ lp) && decide (lp ≤ 5000) && decide (0 ≤ -L + 348) && decide (-L + 348 < 696) && decide (3 ≤ -(e + lp + 3)) && decide (-(e + lp + 3) ≤ 58)
def okN (k : Nat) : Bool := okL ((k : Int) - 1085) (((k : Int) - 1074) * 78913 / 262144) && okL ((k : Int) - 1085) ((((k : Int) - 1074) * 631305 - 261663) / 2097152)
def okS (z : Nat) : Bool := okL (-1074 - (z : Int)) (-1074 * 78913 / 262144)
theorem okN_all : ∀ k, k < 2046 → okN k = true := by decide +kernel
theorem okS_all : ∀ z, z < 64 → 11 ≤ z → okS z = true := by decide +kernel
/-- small numbers scale up far, great ones down -/
def farN (k : Nat) : Bool :=
  (decide (1003 ≤ k) || decide (21 < -(((k : Int) - 1074) * 78913 / 262144)) && decide (21 < -((((k : Int) - 1074) * 631305 - 261663) / 2097152))) &&
  (decide (k < 1091) || decide (3 < ((k : Int) - 1074) * 78913 / 262144) && decide (3 < (((k : Int) - 1074) * 631305 - 261663) / 2097152))
theorem farN_all : ∀ k, k < 2046 → farN k = true := by decide +kernel
/-- the shift is at most 8 at a normal double -/
def okE (k : Nat) : Bool := decide (-((k : Int) - 1085 + -(((k : Int) - 1074) * 78913 / 262144) * 108853 / 32768 + 3) ≤ 8) && decide (-((k : Int) - 1085 + -((((k : Int) - 1074) * 631305 - 261663) / 2097152) * 108853 / 32768 + 3) ≤ 8)
theorem okE_all : ∀ k, k < 2046 → okE k = true := by decide +kernel
end Go.Proofs.YtkincdcknmdboaaDoor
