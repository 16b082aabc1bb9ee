/-
  DERIVED. GIVEN WITH THE SEED: THE PROGRAM's TIES (one call each: nine closed facts by the kernel) AND EACH ROW's TIE, after the 31st guide's Derived/Test/Toyas{Tie, Card}.lean. No idea stands in it: it is a product of the set-up. Laid BY PROGRAM, IN A SANDBOX (cutbox-door.mjs). By AI agents, Wed Nov 11 2026. No macro, syntax, notation, axiom, sorry.
-/
import Derived.Test.YtfafiahefjimdaaGreatDoorRows
import Derived.LaidByTextLater
import Derived.SevenTiedAt
import Derived.LaidSub
import Derived.LaidOnce
namespace Go.Proofs.YtfafiahefjimdaaGreatDoor
open Go
set_option maxRecDepth 100000
theorem seatTie1 : Tryz.prog.laidByTextLater [("math/bits.deBruijn32tab", Rows.laid_math_bits_deBruijn32tab), ("math/bits.deBruijn64tab", Rows.laid_math_bits_deBruijn64tab), ("io.EOF", Rows.laid_io_EOF), ("pub-doubloon/pub/bigall.errNoDigits", Rows.laid_pub_doubloon_pub_bigall_errNoDigits), ("pub-doubloon/pub/bigall.errInvalSep", Rows.laid_pub_doubloon_pub_bigall_errInvalSep), ("pub-doubloon/pub/bigall.leafSize", Rows.laid_pub_doubloon_pub_bigall_leafSize), ("pub-doubloon/pub/bigall.divRecursiveThreshold", Rows.laid_pub_doubloon_pub_bigall_divRecursiveThreshold), ("pub-doubloon/pub/bigall.karatsubaThreshold", Rows.laid_pub_doubloon_pub_bigall_karatsubaThreshold), ("pub-doubloon/pub/bigall.basicSqrThreshold", Rows.laid_pub_doubloon_pub_bigall_basicSqrThreshold), ("pub-doubloon/pub/bigall.karatsubaSqrThreshold", Rows.laid_pub_doubloon_pub_bigall_karatsubaSqrThreshold), ("pub-doubloon/pub/cosmosmath.ErrLegacyEmptyDecimalStr", Rows.laid_pub_doubloon_pub_cosmosmath_ErrLegacyEmptyDecimalStr), ("pub-doubloon/pub/cosmosmath.ErrLegacyInvalidDecimalLength", Rows.laid_pub_doubloon_pub_cosmosmath_ErrLegacyInvalidDecimalLength), ("pub-doubloon/pub/cosmosmath.ErrLegacyInvalidDecimalStr", Rows.laid_pub_doubloon_pub_cosmosmath_ErrLegacyInvalidDecimalStr), ("pub-doubloon/pub/cosmosmath.ErrIntOverflow", Rows.laid_pub_doubloon_pub_cosmosmath_ErrIntOverflow)] [.data, .data, .sentinel, .sentinel, .sentinel, .data, .data, .data, .data, .data, .sentinel, .sentinel, .sentinel, .sentinel] true :=
  Program.laidByTextLater_by_one 172 8 65 (by kernel_rfl) (by kernel_rfl) (by kernel_rfl) (by kernel_rfl) (by kernel_rfl) (by kernel_rfl) (fun _ _ => by kernel_rfl)
theorem noOwnUnsafe : Tryz.pinned.checked.prog.headLifts.contains "ownunsafe" = false := by kernel_rfl
theorem tie : Tryz.prog.laidByTextLater [("math/bits.deBruijn32tab", Rows.laid_math_bits_deBruijn32tab), ("math/bits.deBruijn64tab", Rows.laid_math_bits_deBruijn64tab), ("pub-doubloon/pub/bigall.divRecursiveThreshold", Rows.laid_pub_doubloon_pub_bigall_divRecursiveThreshold), ("pub-doubloon/pub/bigall.karatsubaThreshold", Rows.laid_pub_doubloon_pub_bigall_karatsubaThreshold), ("pub-doubloon/pub/bigall.basicSqrThreshold", Rows.laid_pub_doubloon_pub_bigall_basicSqrThreshold), ("pub-doubloon/pub/bigall.karatsubaSqrThreshold", Rows.laid_pub_doubloon_pub_bigall_karatsubaSqrThreshold)] [.data, .data, .data, .data, .data, .data] true :=
  Program.laidByTextLater.sub seatTie1 ["math/bits.deBruijn32tab", "math/bits.deBruijn64tab", "pub-doubloon/pub/bigall.divRecursiveThreshold", "pub-doubloon/pub/bigall.karatsubaThreshold", "pub-doubloon/pub/bigall.basicSqrThreshold", "pub-doubloon/pub/bigall.karatsubaSqrThreshold"] (by kernel_rfl) (by kernel_rfl)
theorem fnDeciOver_row_tie : Rows.fnDeciOverRow.laidByTextAt .later Tryz.pinned [.data, .data, .data, .data, .data, .data] true :=
  OpenClaim.laidByTextAt_later rfl rfl tie noOwnUnsafe
theorem fnUnits_row_tie : Rows.fnUnitsRow.laidByTextAt .later Tryz.pinned [.data, .data, .data, .data, .data, .data] true :=
  OpenClaim.laidByTextAt_later rfl rfl tie noOwnUnsafe
theorem fnUnitsWhole_row_tie : Rows.fnUnitsWholeRow.laidByTextAt .later Tryz.pinned [.data, .data, .data, .data, .data, .data] true :=
  OpenClaim.laidByTextAt_later rfl rfl tie noOwnUnsafe
theorem tie2 : Tryz.prog.laidByTextLater [("math/bits.deBruijn32tab", Rows.laid_math_bits_deBruijn32tab), ("math/bits.deBruijn64tab", Rows.laid_math_bits_deBruijn64tab), ("io.EOF", Rows.laid_io_EOF), ("pub-doubloon/pub/bigall.errNoDigits", Rows.laid_pub_doubloon_pub_bigall_errNoDigits), ("pub-doubloon/pub/bigall.errInvalSep", Rows.laid_pub_doubloon_pub_bigall_errInvalSep), ("pub-doubloon/pub/bigall.divRecursiveThreshold", Rows.laid_pub_doubloon_pub_bigall_divRecursiveThreshold), ("pub-doubloon/pub/bigall.karatsubaThreshold", Rows.laid_pub_doubloon_pub_bigall_karatsubaThreshold), ("pub-doubloon/pub/bigall.basicSqrThreshold", Rows.laid_pub_doubloon_pub_bigall_basicSqrThreshold), ("pub-doubloon/pub/bigall.karatsubaSqrThreshold", Rows.laid_pub_doubloon_pub_bigall_karatsubaSqrThreshold), ("pub-doubloon/pub/cosmosmath.ErrLegacyEmptyDecimalStr", Rows.laid_pub_doubloon_pub_cosmosmath_ErrLegacyEmptyDecimalStr), ("pub-doubloon/pub/cosmosmath.ErrLegacyInvalidDecimalLength", Rows.laid_pub_doubloon_pub_cosmosmath_ErrLegacyInvalidDecimalLength), ("pub-doubloon/pub/cosmosmath.ErrLegacyInvalidDecimalStr", Rows.laid_pub_doubloon_pub_cosmosmath_ErrLegacyInvalidDecimalStr)] [.data, .data, .sentinel, .sentinel, .sentinel, .data, .data, .data, .data, .sentinel, .sentinel, .sentinel] true :=
  Program.laidByTextLater.sub seatTie1 ["math/bits.deBruijn32tab", "math/bits.deBruijn64tab", "io.EOF", "pub-doubloon/pub/bigall.errNoDigits", "pub-doubloon/pub/bigall.errInvalSep", "pub-doubloon/pub/bigall.divRecursiveThreshold", "pub-doubloon/pub/bigall.karatsubaThreshold", "pub-doubloon/pub/bigall.basicSqrThreshold", "pub-doubloon/pub/bigall.karatsubaSqrThreshold", "pub-doubloon/pub/cosmosmath.ErrLegacyEmptyDecimalStr", "pub-doubloon/pub/cosmosmath.ErrLegacyInvalidDecimalLength", "pub-doubloon/pub/cosmosmath.ErrLegacyInvalidDecimalStr"] (by kernel_rfl) (by kernel_rfl)
theorem fnParseDec_row_tie : Rows.fnParseDecRow.laidByTextAt .later Tryz.pinned [.data, .data, .sentinel, .sentinel, .sentinel, .data, .data, .data, .data, .sentinel, .sentinel, .sentinel] true :=
  OpenClaim.laidByTextAt_later rfl rfl tie2 noOwnUnsafe
theorem fnDenom_row_tie : Rows.fnDenomRow.laidByTextAt .later Tryz.pinned [.data, .data, .sentinel, .sentinel, .sentinel, .data, .data, .data, .data, .sentinel, .sentinel, .sentinel] true :=
  OpenClaim.laidByTextAt_later rfl rfl tie2 noOwnUnsafe
theorem fnParseCoin_row_tie : Rows.fnParseCoinRow.laidByTextAt .later Tryz.pinned [.data, .data, .sentinel, .sentinel, .sentinel, .data, .data, .data, .data, .sentinel, .sentinel, .sentinel] true :=
  OpenClaim.laidByTextAt_later rfl rfl tie2 noOwnUnsafe
theorem fnParseUnits_row_tie : Rows.fnParseUnitsRow.laidByTextAt .later Tryz.pinned [.data, .data, .sentinel, .sentinel, .sentinel, .data, .data, .data, .data, .sentinel, .sentinel, .sentinel] true :=
  OpenClaim.laidByTextAt_later rfl rfl tie2 noOwnUnsafe
theorem tie3 : Tryz.prog.laidByTextLater [("math/bits.deBruijn32tab", Rows.laid_math_bits_deBruijn32tab), ("math/bits.deBruijn64tab", Rows.laid_math_bits_deBruijn64tab), ("pub-doubloon/pub/bigall.leafSize", Rows.laid_pub_doubloon_pub_bigall_leafSize), ("pub-doubloon/pub/bigall.divRecursiveThreshold", Rows.laid_pub_doubloon_pub_bigall_divRecursiveThreshold), ("pub-doubloon/pub/bigall.karatsubaThreshold", Rows.laid_pub_doubloon_pub_bigall_karatsubaThreshold), ("pub-doubloon/pub/bigall.basicSqrThreshold", Rows.laid_pub_doubloon_pub_bigall_basicSqrThreshold), ("pub-doubloon/pub/bigall.karatsubaSqrThreshold", Rows.laid_pub_doubloon_pub_bigall_karatsubaSqrThreshold)] [.data, .data, .data, .data, .data, .data, .data] true :=
  Program.laidByTextLater.sub seatTie1 ["math/bits.deBruijn32tab", "math/bits.deBruijn64tab", "pub-doubloon/pub/bigall.leafSize", "pub-doubloon/pub/bigall.divRecursiveThreshold", "pub-doubloon/pub/bigall.karatsubaThreshold", "pub-doubloon/pub/bigall.basicSqrThreshold", "pub-doubloon/pub/bigall.karatsubaSqrThreshold"] (by kernel_rfl) (by kernel_rfl)
theorem fnDeciOne_row_tie : Rows.fnDeciOneRow.laidByTextAt .later Tryz.pinned [.data, .data, .data, .data, .data, .data, .data] true :=
  OpenClaim.laidByTextAt_later rfl rfl tie3 noOwnUnsafe
theorem tie4 : Tryz.prog.laidByTextLater [("math/bits.deBruijn32tab", Rows.laid_math_bits_deBruijn32tab), ("math/bits.deBruijn64tab", Rows.laid_math_bits_deBruijn64tab), ("pub-doubloon/pub/bigall.leafSize", Rows.laid_pub_doubloon_pub_bigall_leafSize), ("pub-doubloon/pub/bigall.divRecursiveThreshold", Rows.laid_pub_doubloon_pub_bigall_divRecursiveThreshold), ("pub-doubloon/pub/bigall.karatsubaThreshold", Rows.laid_pub_doubloon_pub_bigall_karatsubaThreshold), ("pub-doubloon/pub/bigall.basicSqrThreshold", Rows.laid_pub_doubloon_pub_bigall_basicSqrThreshold), ("pub-doubloon/pub/bigall.karatsubaSqrThreshold", Rows.laid_pub_doubloon_pub_bigall_karatsubaSqrThreshold), ("pub-doubloon/pub/cosmosmath.ErrIntOverflow", Rows.laid_pub_doubloon_pub_cosmosmath_ErrIntOverflow)] [.data, .data, .data, .data, .data, .data, .data, .sentinel] true :=
  Program.laidByTextLater.sub seatTie1 ["math/bits.deBruijn32tab", "math/bits.deBruijn64tab", "pub-doubloon/pub/bigall.leafSize", "pub-doubloon/pub/bigall.divRecursiveThreshold", "pub-doubloon/pub/bigall.karatsubaThreshold", "pub-doubloon/pub/bigall.basicSqrThreshold", "pub-doubloon/pub/bigall.karatsubaSqrThreshold", "pub-doubloon/pub/cosmosmath.ErrIntOverflow"] (by kernel_rfl) (by kernel_rfl)
theorem fnCoinOne_row_tie : Rows.fnCoinOneRow.laidByTextAt .later Tryz.pinned [.data, .data, .data, .data, .data, .data, .data, .sentinel] true :=
  OpenClaim.laidByTextAt_later rfl rfl tie4 noOwnUnsafe
theorem fnCoinsText_row_tie : Rows.fnCoinsTextRow.laidByTextAt .later Tryz.pinned [.data, .data, .data, .data, .data, .data, .data, .sentinel] true :=
  OpenClaim.laidByTextAt_later rfl rfl tie4 noOwnUnsafe
theorem fnDeciOverUpto_row_tie : Rows.fnDeciOverUptoRow.laidByTextAt .later Tryz.pinned [.data, .data, .data, .data, .data, .data] true :=
  OpenClaim.laidByTextAt_later rfl rfl tie noOwnUnsafe
theorem fnUnitsUpto_row_tie : Rows.fnUnitsUptoRow.laidByTextAt .later Tryz.pinned [.data, .data, .data, .data, .data, .data] true :=
  OpenClaim.laidByTextAt_later rfl rfl tie noOwnUnsafe
theorem fnUnitsWholeUpto_row_tie : Rows.fnUnitsWholeUptoRow.laidByTextAt .later Tryz.pinned [.data, .data, .data, .data, .data, .data] true :=
  OpenClaim.laidByTextAt_later rfl rfl tie noOwnUnsafe
theorem fnParseDecUpto_row_tie : Rows.fnParseDecUptoRow.laidByTextAt .later Tryz.pinned [.data, .data, .sentinel, .sentinel, .sentinel, .data, .data, .data, .data, .sentinel, .sentinel, .sentinel] true :=
  OpenClaim.laidByTextAt_later rfl rfl tie2 noOwnUnsafe
theorem fnDenomUpto_row_tie : Rows.fnDenomUptoRow.laidByTextAt .later Tryz.pinned [.data, .data, .sentinel, .sentinel, .sentinel, .data, .data, .data, .data, .sentinel, .sentinel, .sentinel] true :=
  OpenClaim.laidByTextAt_later rfl rfl tie2 noOwnUnsafe
theorem fnDeciOneUpto_row_tie : Rows.fnDeciOneUptoRow.laidByTextAt .later Tryz.pinned [.data, .data, .data, .data, .data, .data, .data] true :=
  OpenClaim.laidByTextAt_later rfl rfl tie3 noOwnUnsafe
theorem fnCoinOneUpto_row_tie : Rows.fnCoinOneUptoRow.laidByTextAt .later Tryz.pinned [.data, .data, .data, .data, .data, .data, .data, .sentinel] true :=
  OpenClaim.laidByTextAt_later rfl rfl tie4 noOwnUnsafe
theorem fnCoinsTextUpto_row_tie : Rows.fnCoinsTextUptoRow.laidByTextAt .later Tryz.pinned [.data, .data, .data, .data, .data, .data, .data, .sentinel] true :=
  OpenClaim.laidByTextAt_later rfl rfl tie4 noOwnUnsafe
theorem fnParseCoinUpto_row_tie : Rows.fnParseCoinUptoRow.laidByTextAt .later Tryz.pinned [.data, .data, .sentinel, .sentinel, .sentinel, .data, .data, .data, .data, .sentinel, .sentinel, .sentinel] true :=
  OpenClaim.laidByTextAt_later rfl rfl tie2 noOwnUnsafe
theorem fnParseUnitsUpto_row_tie : Rows.fnParseUnitsUptoRow.laidByTextAt .later Tryz.pinned [.data, .data, .sentinel, .sentinel, .sentinel, .data, .data, .data, .data, .sentinel, .sentinel, .sentinel] true :=
  OpenClaim.laidByTextAt_later rfl rfl tie2 noOwnUnsafe
end Go.Proofs.YtfafiahefjimdaaGreatDoor
