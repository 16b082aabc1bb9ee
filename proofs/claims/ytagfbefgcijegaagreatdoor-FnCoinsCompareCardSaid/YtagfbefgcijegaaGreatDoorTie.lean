/-
  DERIVED. GIVEN WITH THE SEED: THE PROGRAM's TIES (one call each: nine closed facts by the kernel) AND EACH ROW's TIE, after the 31st guide's Derived/Test/Toyas{Tie, Card}.lean. No idea stands in it: it is a product of the set-up. Laid BY PROGRAM, IN A SANDBOX (cutbox-door.mjs). By AI agents, Wed Nov 11 2026. No macro, syntax, notation, axiom, sorry.
-/
import Derived.Test.YtagfbefgcijegaaGreatDoorRows
import Derived.LaidByTextLater
import Derived.SevenTiedAt
import Derived.LaidSub
import Derived.LaidOnce
namespace Go.Proofs.YtagfbefgcijegaaGreatDoor
open Go
set_option maxRecDepth 100000
theorem seatTie1 : Tryz.prog.laidByTextLater [("pub-doubloon/pub/bigall.divRecursiveThreshold", Rows.laid_pub_doubloon_pub_bigall_divRecursiveThreshold), ("pub-doubloon/pub/bigall.karatsubaThreshold", Rows.laid_pub_doubloon_pub_bigall_karatsubaThreshold), ("pub-doubloon/pub/bigall.basicSqrThreshold", Rows.laid_pub_doubloon_pub_bigall_basicSqrThreshold), ("pub-doubloon/pub/bigall.karatsubaSqrThreshold", Rows.laid_pub_doubloon_pub_bigall_karatsubaSqrThreshold), ("pub-doubloon/pub/cosmosmath.ErrIntOverflow", Rows.laid_pub_doubloon_pub_cosmosmath_ErrIntOverflow), ("pub-doubloon/pub/cosmosmath.ErrDivideByZero", Rows.laid_pub_doubloon_pub_cosmosmath_ErrDivideByZero)] [.data, .data, .data, .data, .sentinel, .sentinel] true :=
  Program.laidByTextLater_by_one 63 8 2 (by kernel_rfl) (by kernel_rfl) (by kernel_rfl) (by kernel_rfl) (by kernel_rfl) (by kernel_rfl) (fun _ _ => by kernel_rfl)
theorem noOwnUnsafe : Tryz.pinned.checked.prog.headLifts.contains "ownunsafe" = false := by kernel_rfl
theorem tie : Tryz.prog.laidByTextLater [("pub-doubloon/pub/cosmosmath.ErrIntOverflow", Rows.laid_pub_doubloon_pub_cosmosmath_ErrIntOverflow)] [.sentinel] true :=
  Program.laidByTextLater.sub seatTie1 ["pub-doubloon/pub/cosmosmath.ErrIntOverflow"] (by kernel_rfl) (by kernel_rfl)
theorem fnCoinsAdd_row_tie : Rows.fnCoinsAddRow.laidByTextAt .later Tryz.pinned [.sentinel] true :=
  OpenClaim.laidByTextAt_later rfl rfl tie noOwnUnsafe
theorem fnCoinsAlike_row_tie : Rows.fnCoinsAlikeRow.laidByTextAt .later Tryz.pinned [.sentinel] true :=
  OpenClaim.laidByTextAt_later rfl rfl tie noOwnUnsafe
theorem fnCoinsEqual_row_tie : Rows.fnCoinsEqualRow.laidByTextAt .later Tryz.pinned [.sentinel] true :=
  OpenClaim.laidByTextAt_later rfl rfl tie noOwnUnsafe
theorem fnCoinsFind_row_tie : Rows.fnCoinsFindRow.laidByTextAt .later Tryz.pinned [.sentinel] true :=
  OpenClaim.laidByTextAt_later rfl rfl tie noOwnUnsafe
theorem fnCoinPair_row_tie : Rows.fnCoinPairRow.laidByTextAt .later Tryz.pinned [.sentinel] true :=
  OpenClaim.laidByTextAt_later rfl rfl tie noOwnUnsafe
theorem fnCoinsNew_row_tie : Rows.fnCoinsNewRow.laidByTextAt .later Tryz.pinned [.sentinel] true :=
  OpenClaim.laidByTextAt_later rfl rfl tie noOwnUnsafe
theorem fnCoinSum_row_tie : Rows.fnCoinSumRow.laidByTextAt .later Tryz.pinned [.sentinel] true :=
  OpenClaim.laidByTextAt_later rfl rfl tie noOwnUnsafe
theorem fnCoinsAbout_row_tie : Rows.fnCoinsAboutRow.laidByTextAt .later Tryz.pinned [.sentinel] true :=
  OpenClaim.laidByTextAt_later rfl rfl tie noOwnUnsafe
theorem fnCoinsErr_row_tie : Rows.fnCoinsErrRow.laidByTextAt .later Tryz.pinned [.sentinel] true :=
  OpenClaim.laidByTextAt_later rfl rfl tie noOwnUnsafe
theorem fnCoinsSub_row_tie : Rows.fnCoinsSubRow.laidByTextAt .later Tryz.pinned [.sentinel] true :=
  OpenClaim.laidByTextAt_later rfl rfl tie noOwnUnsafe
theorem fnCoinsBack_row_tie : Rows.fnCoinsBackRow.laidByTextAt .later Tryz.pinned [.sentinel] true :=
  OpenClaim.laidByTextAt_later rfl rfl tie noOwnUnsafe
theorem fnCoinsMinMax_row_tie : Rows.fnCoinsMinMaxRow.laidByTextAt .later Tryz.pinned [.sentinel] true :=
  OpenClaim.laidByTextAt_later rfl rfl tie noOwnUnsafe
theorem fnCoinsCompare_row_tie : Rows.fnCoinsCompareRow.laidByTextAt .later Tryz.pinned [.sentinel] true :=
  OpenClaim.laidByTextAt_later rfl rfl tie noOwnUnsafe
theorem fnCoinsOrder_row_tie : Rows.fnCoinsOrderRow.laidByTextAt .later Tryz.pinned [.sentinel] true :=
  OpenClaim.laidByTextAt_later rfl rfl tie noOwnUnsafe
theorem fnCoinsBounds_row_tie : Rows.fnCoinsBoundsRow.laidByTextAt .later Tryz.pinned [.sentinel] true :=
  OpenClaim.laidByTextAt_later rfl rfl tie noOwnUnsafe
theorem tie2 : Tryz.prog.laidByTextLater [("pub-doubloon/pub/bigall.divRecursiveThreshold", Rows.laid_pub_doubloon_pub_bigall_divRecursiveThreshold), ("pub-doubloon/pub/bigall.karatsubaThreshold", Rows.laid_pub_doubloon_pub_bigall_karatsubaThreshold), ("pub-doubloon/pub/bigall.basicSqrThreshold", Rows.laid_pub_doubloon_pub_bigall_basicSqrThreshold), ("pub-doubloon/pub/bigall.karatsubaSqrThreshold", Rows.laid_pub_doubloon_pub_bigall_karatsubaSqrThreshold), ("pub-doubloon/pub/cosmosmath.ErrIntOverflow", Rows.laid_pub_doubloon_pub_cosmosmath_ErrIntOverflow), ("pub-doubloon/pub/cosmosmath.ErrDivideByZero", Rows.laid_pub_doubloon_pub_cosmosmath_ErrDivideByZero)] [.data, .data, .data, .data, .sentinel, .sentinel] true :=
  Program.laidByTextLater.sub seatTie1 ["pub-doubloon/pub/bigall.divRecursiveThreshold", "pub-doubloon/pub/bigall.karatsubaThreshold", "pub-doubloon/pub/bigall.basicSqrThreshold", "pub-doubloon/pub/bigall.karatsubaSqrThreshold", "pub-doubloon/pub/cosmosmath.ErrIntOverflow", "pub-doubloon/pub/cosmosmath.ErrDivideByZero"] (by kernel_rfl) (by kernel_rfl)
theorem fnCoinsTimes_row_tie : Rows.fnCoinsTimesRow.laidByTextAt .later Tryz.pinned [.data, .data, .data, .data, .sentinel, .sentinel] true :=
  OpenClaim.laidByTextAt_later rfl rfl tie2 noOwnUnsafe
theorem fnCoinsAddUpto_row_tie : Rows.fnCoinsAddUptoRow.laidByTextAt .later Tryz.pinned [.sentinel] true :=
  OpenClaim.laidByTextAt_later rfl rfl tie noOwnUnsafe
theorem fnCoinsAlikeUpto_row_tie : Rows.fnCoinsAlikeUptoRow.laidByTextAt .later Tryz.pinned [.sentinel] true :=
  OpenClaim.laidByTextAt_later rfl rfl tie noOwnUnsafe
theorem fnCoinsEqualUpto_row_tie : Rows.fnCoinsEqualUptoRow.laidByTextAt .later Tryz.pinned [.sentinel] true :=
  OpenClaim.laidByTextAt_later rfl rfl tie noOwnUnsafe
theorem fnCoinsFindUpto_row_tie : Rows.fnCoinsFindUptoRow.laidByTextAt .later Tryz.pinned [.sentinel] true :=
  OpenClaim.laidByTextAt_later rfl rfl tie noOwnUnsafe
theorem fnCoinPairUpto_row_tie : Rows.fnCoinPairUptoRow.laidByTextAt .later Tryz.pinned [.sentinel] true :=
  OpenClaim.laidByTextAt_later rfl rfl tie noOwnUnsafe
theorem fnCoinsNewUpto_row_tie : Rows.fnCoinsNewUptoRow.laidByTextAt .later Tryz.pinned [.sentinel] true :=
  OpenClaim.laidByTextAt_later rfl rfl tie noOwnUnsafe
theorem fnCoinSumUpto_row_tie : Rows.fnCoinSumUptoRow.laidByTextAt .later Tryz.pinned [.sentinel] true :=
  OpenClaim.laidByTextAt_later rfl rfl tie noOwnUnsafe
theorem fnCoinsAboutUpto_row_tie : Rows.fnCoinsAboutUptoRow.laidByTextAt .later Tryz.pinned [.sentinel] true :=
  OpenClaim.laidByTextAt_later rfl rfl tie noOwnUnsafe
theorem fnCoinsErrUpto_row_tie : Rows.fnCoinsErrUptoRow.laidByTextAt .later Tryz.pinned [.sentinel] true :=
  OpenClaim.laidByTextAt_later rfl rfl tie noOwnUnsafe
theorem fnCoinsSubUpto_row_tie : Rows.fnCoinsSubUptoRow.laidByTextAt .later Tryz.pinned [.sentinel] true :=
  OpenClaim.laidByTextAt_later rfl rfl tie noOwnUnsafe
theorem fnCoinsBackUpto_row_tie : Rows.fnCoinsBackUptoRow.laidByTextAt .later Tryz.pinned [.sentinel] true :=
  OpenClaim.laidByTextAt_later rfl rfl tie noOwnUnsafe
theorem fnCoinsMinMaxUpto_row_tie : Rows.fnCoinsMinMaxUptoRow.laidByTextAt .later Tryz.pinned [.sentinel] true :=
  OpenClaim.laidByTextAt_later rfl rfl tie noOwnUnsafe
theorem fnCoinsCompareUpto_row_tie : Rows.fnCoinsCompareUptoRow.laidByTextAt .later Tryz.pinned [.sentinel] true :=
  OpenClaim.laidByTextAt_later rfl rfl tie noOwnUnsafe
theorem fnCoinsOrderUpto_row_tie : Rows.fnCoinsOrderUptoRow.laidByTextAt .later Tryz.pinned [.sentinel] true :=
  OpenClaim.laidByTextAt_later rfl rfl tie noOwnUnsafe
theorem fnCoinsBoundsUpto_row_tie : Rows.fnCoinsBoundsUptoRow.laidByTextAt .later Tryz.pinned [.sentinel] true :=
  OpenClaim.laidByTextAt_later rfl rfl tie noOwnUnsafe
theorem fnCoinsTimesUpto_row_tie : Rows.fnCoinsTimesUptoRow.laidByTextAt .later Tryz.pinned [.data, .data, .data, .data, .sentinel, .sentinel] true :=
  OpenClaim.laidByTextAt_later rfl rfl tie2 noOwnUnsafe
end Go.Proofs.YtagfbefgcijegaaGreatDoor
