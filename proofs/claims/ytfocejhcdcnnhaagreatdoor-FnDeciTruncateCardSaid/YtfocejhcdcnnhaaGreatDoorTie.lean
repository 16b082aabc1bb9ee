/-
  DERIVED. GIVEN WITH THE SEED: THE PROGRAM's TIES (one call each: nine closed facts by the kernel) AND EACH ROW's TIE, after the 31st guide's Derived/Test/Toyas{Tie, Card}.lean. No idea stands in it: it is a product of the set-up. Laid BY PROGRAM, IN A SANDBOX (cutbox-door.mjs). By AI agents, Wed Nov 11 2026. No macro, syntax, notation, axiom, sorry.
-/
import Derived.Test.YtfocejhcdcnnhaaGreatDoorRows
import Derived.LaidByTextLater
import Derived.SevenTiedAt
import Derived.LaidSub
import Derived.LaidOnce
namespace Go.Proofs.YtfocejhcdcnnhaaGreatDoor
open Go
set_option maxRecDepth 100000
theorem seatTie1 : Tryz.prog.laidByTextLater [("math/bits.deBruijn32tab", Rows.laid_math_bits_deBruijn32tab), ("math/bits.deBruijn64tab", Rows.laid_math_bits_deBruijn64tab), ("pub-doubloon/pub/bigall.divRecursiveThreshold", Rows.laid_pub_doubloon_pub_bigall_divRecursiveThreshold), ("pub-doubloon/pub/bigall.karatsubaThreshold", Rows.laid_pub_doubloon_pub_bigall_karatsubaThreshold), ("pub-doubloon/pub/bigall.basicSqrThreshold", Rows.laid_pub_doubloon_pub_bigall_basicSqrThreshold), ("pub-doubloon/pub/bigall.karatsubaSqrThreshold", Rows.laid_pub_doubloon_pub_bigall_karatsubaSqrThreshold), ("pub-doubloon/pub/cosmosmath.ErrIntOverflow", Rows.laid_pub_doubloon_pub_cosmosmath_ErrIntOverflow)] [.data, .data, .data, .data, .data, .data, .sentinel] true :=
  Program.laidByTextLater_by_one 54 8 65 (by kernel_rfl) (by kernel_rfl) (by kernel_rfl) (by kernel_rfl) (by kernel_rfl) (by kernel_rfl) (fun _ _ => by kernel_rfl)
theorem noOwnUnsafe : Tryz.pinned.checked.prog.headLifts.contains "ownunsafe" = false := by kernel_rfl
theorem tie : Tryz.prog.laidByTextLater [("math/bits.deBruijn32tab", Rows.laid_math_bits_deBruijn32tab), ("math/bits.deBruijn64tab", Rows.laid_math_bits_deBruijn64tab), ("pub-doubloon/pub/bigall.divRecursiveThreshold", Rows.laid_pub_doubloon_pub_bigall_divRecursiveThreshold), ("pub-doubloon/pub/bigall.karatsubaThreshold", Rows.laid_pub_doubloon_pub_bigall_karatsubaThreshold), ("pub-doubloon/pub/bigall.basicSqrThreshold", Rows.laid_pub_doubloon_pub_bigall_basicSqrThreshold), ("pub-doubloon/pub/bigall.karatsubaSqrThreshold", Rows.laid_pub_doubloon_pub_bigall_karatsubaSqrThreshold)] [.data, .data, .data, .data, .data, .data] true :=
  Program.laidByTextLater.sub seatTie1 ["math/bits.deBruijn32tab", "math/bits.deBruijn64tab", "pub-doubloon/pub/bigall.divRecursiveThreshold", "pub-doubloon/pub/bigall.karatsubaThreshold", "pub-doubloon/pub/bigall.basicSqrThreshold", "pub-doubloon/pub/bigall.karatsubaSqrThreshold"] (by kernel_rfl) (by kernel_rfl)
theorem fnDeciTimes_row_tie : Rows.fnDeciTimesRow.laidByTextAt .later Tryz.pinned [.data, .data, .data, .data, .data, .data] true :=
  OpenClaim.laidByTextAt_later rfl rfl tie noOwnUnsafe
theorem fnDeciOver_row_tie : Rows.fnDeciOverRow.laidByTextAt .later Tryz.pinned [.data, .data, .data, .data, .data, .data] true :=
  OpenClaim.laidByTextAt_later rfl rfl tie noOwnUnsafe
theorem fnDeciNew_row_tie : Rows.fnDeciNewRow.laidByTextAt .later Tryz.pinned [.data, .data, .data, .data, .data, .data] true :=
  OpenClaim.laidByTextAt_later rfl rfl tie noOwnUnsafe
theorem fnDeciFrom_row_tie : Rows.fnDeciFromRow.laidByTextAt .later Tryz.pinned [.data, .data, .data, .data, .data, .data] true :=
  OpenClaim.laidByTextAt_later rfl rfl tie noOwnUnsafe
theorem fnDeciThereBack_row_tie : Rows.fnDeciThereBackRow.laidByTextAt .later Tryz.pinned [.data, .data, .data, .data, .data, .data] true :=
  OpenClaim.laidByTextAt_later rfl rfl tie noOwnUnsafe
theorem tie2 : Tryz.prog.laidByTextLater [("math/bits.deBruijn32tab", Rows.laid_math_bits_deBruijn32tab), ("math/bits.deBruijn64tab", Rows.laid_math_bits_deBruijn64tab), ("pub-doubloon/pub/bigall.divRecursiveThreshold", Rows.laid_pub_doubloon_pub_bigall_divRecursiveThreshold), ("pub-doubloon/pub/bigall.karatsubaThreshold", Rows.laid_pub_doubloon_pub_bigall_karatsubaThreshold), ("pub-doubloon/pub/bigall.basicSqrThreshold", Rows.laid_pub_doubloon_pub_bigall_basicSqrThreshold), ("pub-doubloon/pub/bigall.karatsubaSqrThreshold", Rows.laid_pub_doubloon_pub_bigall_karatsubaSqrThreshold), ("pub-doubloon/pub/cosmosmath.ErrIntOverflow", Rows.laid_pub_doubloon_pub_cosmosmath_ErrIntOverflow)] [.data, .data, .data, .data, .data, .data, .sentinel] true :=
  Program.laidByTextLater.sub seatTie1 ["math/bits.deBruijn32tab", "math/bits.deBruijn64tab", "pub-doubloon/pub/bigall.divRecursiveThreshold", "pub-doubloon/pub/bigall.karatsubaThreshold", "pub-doubloon/pub/bigall.basicSqrThreshold", "pub-doubloon/pub/bigall.karatsubaSqrThreshold", "pub-doubloon/pub/cosmosmath.ErrIntOverflow"] (by kernel_rfl) (by kernel_rfl)
theorem fnDeciTruncate_row_tie : Rows.fnDeciTruncateRow.laidByTextAt .later Tryz.pinned [.data, .data, .data, .data, .data, .data, .sentinel] true :=
  OpenClaim.laidByTextAt_later rfl rfl tie2 noOwnUnsafe
theorem fnDeciParted_row_tie : Rows.fnDeciPartedRow.laidByTextAt .later Tryz.pinned [.data, .data, .data, .data, .data, .data, .sentinel] true :=
  OpenClaim.laidByTextAt_later rfl rfl tie2 noOwnUnsafe
theorem fnDeciTimesUpto_row_tie : Rows.fnDeciTimesUptoRow.laidByTextAt .later Tryz.pinned [.data, .data, .data, .data, .data, .data] true :=
  OpenClaim.laidByTextAt_later rfl rfl tie noOwnUnsafe
theorem fnDeciOverUpto_row_tie : Rows.fnDeciOverUptoRow.laidByTextAt .later Tryz.pinned [.data, .data, .data, .data, .data, .data] true :=
  OpenClaim.laidByTextAt_later rfl rfl tie noOwnUnsafe
theorem fnDeciNewUpto_row_tie : Rows.fnDeciNewUptoRow.laidByTextAt .later Tryz.pinned [.data, .data, .data, .data, .data, .data] true :=
  OpenClaim.laidByTextAt_later rfl rfl tie noOwnUnsafe
theorem fnDeciFromUpto_row_tie : Rows.fnDeciFromUptoRow.laidByTextAt .later Tryz.pinned [.data, .data, .data, .data, .data, .data] true :=
  OpenClaim.laidByTextAt_later rfl rfl tie noOwnUnsafe
theorem fnDeciThereBackUpto_row_tie : Rows.fnDeciThereBackUptoRow.laidByTextAt .later Tryz.pinned [.data, .data, .data, .data, .data, .data] true :=
  OpenClaim.laidByTextAt_later rfl rfl tie noOwnUnsafe
theorem fnDeciTruncateUpto_row_tie : Rows.fnDeciTruncateUptoRow.laidByTextAt .later Tryz.pinned [.data, .data, .data, .data, .data, .data, .sentinel] true :=
  OpenClaim.laidByTextAt_later rfl rfl tie2 noOwnUnsafe
theorem fnDeciPartedUpto_row_tie : Rows.fnDeciPartedUptoRow.laidByTextAt .later Tryz.pinned [.data, .data, .data, .data, .data, .data, .sentinel] true :=
  OpenClaim.laidByTextAt_later rfl rfl tie2 noOwnUnsafe
end Go.Proofs.YtfocejhcdcnnhaaGreatDoor
