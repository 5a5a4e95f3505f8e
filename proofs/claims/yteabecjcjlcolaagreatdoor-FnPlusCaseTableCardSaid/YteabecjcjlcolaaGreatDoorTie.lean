/-
  DERIVED. GIVEN WITH THE SEED: THE PROGRAM's TIES (one call each: nine closed facts by the kernel) AND EACH ROW's TIE, after the 31st guide's Derived/Test/Toyas{Tie, Card}.lean. No idea stands in it: it is a product of the set-up. Laid BY PROGRAM, IN A SANDBOX (cutbox-door.mjs). By AI agents, Wed Nov 11 2026. No macro, syntax, notation, axiom, sorry.
-/
import Derived.Test.YteabecjcjlcolaaGreatDoorRows
import Derived.LaidByTextLater
import Derived.SevenTiedAt
import Derived.LaidSub
import Derived.LaidOnce
namespace Go.Proofs.YteabecjcjlcolaaGreatDoor
open Go
set_option maxRecDepth 100000
theorem seatTie1 : Tryz.prog.laidByTextLater [("math/bits.deBruijn32tab", Rows.laid_math_bits_deBruijn32tab), ("math/bits.deBruijn64tab", Rows.laid_math_bits_deBruijn64tab), ("github.com/itchyny/gojq/pub/bigall.leafSize", Rows.laid_github_com_itchyny_gojq_pub_bigall_leafSize), ("github.com/itchyny/gojq/pub/bigall.divRecursiveThreshold", Rows.laid_github_com_itchyny_gojq_pub_bigall_divRecursiveThreshold), ("github.com/itchyny/gojq/pub/bigall.karatsubaThreshold", Rows.laid_github_com_itchyny_gojq_pub_bigall_karatsubaThreshold), ("github.com/itchyny/gojq/pub/bigall.basicSqrThreshold", Rows.laid_github_com_itchyny_gojq_pub_bigall_basicSqrThreshold), ("github.com/itchyny/gojq/pub/bigall.karatsubaSqrThreshold", Rows.laid_github_com_itchyny_gojq_pub_bigall_karatsubaSqrThreshold)] [.data, .data, .data, .data, .data, .data, .data] true :=
  Program.laidByTextLater_by_one 39 8 65 (by kernel_rfl) (by kernel_rfl) (by kernel_rfl) (by kernel_rfl) (by kernel_rfl) (by kernel_rfl) (fun _ _ => by kernel_rfl)
theorem noOwnUnsafe : Tryz.pinned.checked.prog.headLifts.contains "ownunsafe" = false := by kernel_rfl
theorem tie : Tryz.prog.laidByTextLater [("math/bits.deBruijn32tab", Rows.laid_math_bits_deBruijn32tab), ("math/bits.deBruijn64tab", Rows.laid_math_bits_deBruijn64tab), ("github.com/itchyny/gojq/pub/bigall.leafSize", Rows.laid_github_com_itchyny_gojq_pub_bigall_leafSize), ("github.com/itchyny/gojq/pub/bigall.divRecursiveThreshold", Rows.laid_github_com_itchyny_gojq_pub_bigall_divRecursiveThreshold), ("github.com/itchyny/gojq/pub/bigall.karatsubaThreshold", Rows.laid_github_com_itchyny_gojq_pub_bigall_karatsubaThreshold), ("github.com/itchyny/gojq/pub/bigall.basicSqrThreshold", Rows.laid_github_com_itchyny_gojq_pub_bigall_basicSqrThreshold), ("github.com/itchyny/gojq/pub/bigall.karatsubaSqrThreshold", Rows.laid_github_com_itchyny_gojq_pub_bigall_karatsubaSqrThreshold)] [.data, .data, .data, .data, .data, .data, .data] true :=
  Program.laidByTextLater.sub seatTie1 ["math/bits.deBruijn32tab", "math/bits.deBruijn64tab", "github.com/itchyny/gojq/pub/bigall.leafSize", "github.com/itchyny/gojq/pub/bigall.divRecursiveThreshold", "github.com/itchyny/gojq/pub/bigall.karatsubaThreshold", "github.com/itchyny/gojq/pub/bigall.basicSqrThreshold", "github.com/itchyny/gojq/pub/bigall.karatsubaSqrThreshold"] (by kernel_rfl) (by kernel_rfl)
theorem fnNegateIsExactNegation_row_tie : Rows.fnNegateIsExactNegationRow.laidByTextAt .later Tryz.pinned [.data, .data, .data, .data, .data, .data, .data] true :=
  OpenClaim.laidByTextAt_later rfl rfl tie noOwnUnsafe
theorem fnPlusCaseTable_row_tie : Rows.fnPlusCaseTableRow.laidByTextAt .later Tryz.pinned [.data, .data, .data, .data, .data, .data, .data] true :=
  OpenClaim.laidByTextAt_later rfl rfl tie noOwnUnsafe
theorem fnNegateIsInvolutionAndFlipsSign_row_tie : Rows.fnNegateIsInvolutionAndFlipsSignRow.laidByTextAt .later Tryz.pinned [.data, .data, .data, .data, .data, .data, .data] true :=
  OpenClaim.laidByTextAt_later rfl rfl tie noOwnUnsafe
theorem fnNegateIsExactNegationUpto_row_tie : Rows.fnNegateIsExactNegationUptoRow.laidByTextAt .later Tryz.pinned [.data, .data, .data, .data, .data, .data, .data] true :=
  OpenClaim.laidByTextAt_later rfl rfl tie noOwnUnsafe
theorem fnPlusCaseTableUpto_row_tie : Rows.fnPlusCaseTableUptoRow.laidByTextAt .later Tryz.pinned [.data, .data, .data, .data, .data, .data, .data] true :=
  OpenClaim.laidByTextAt_later rfl rfl tie noOwnUnsafe
theorem fnNegateIsInvolutionAndFlipsSignUpto_row_tie : Rows.fnNegateIsInvolutionAndFlipsSignUptoRow.laidByTextAt .later Tryz.pinned [.data, .data, .data, .data, .data, .data, .data] true :=
  OpenClaim.laidByTextAt_later rfl rfl tie noOwnUnsafe
end Go.Proofs.YteabecjcjlcolaaGreatDoor
