/-
  NARROWER THAN 'FOR EVERY INPUT', by the rows' own cells (each row's printed sentence says how): FnDeciTimes: laid · FnDeciOver: laid · FnUnitsBase: laid · FnUnitsOnce: laid · FnUnitsWhole: laid · FnDenom: laid · FnCoinOne: laid · FnCoinsText: laid.
  DERIVED. THE GIVEN ROWS OF THIS SEAT. 8 by the template 'for every input the law returns true; each argument reads behind the call as it read before'; 0 by the template 'total and deterministic' (their statements: YtcoffndnfaemoaaGreatDoorTotals.lean).
  GIVEN WITH THE SEED: the statements are not yours to turn. If you find one false, say at which input.
  Laid BY PROGRAM, IN A SANDBOX (cutbox-rows.mjs): the forced cells as the released guide's own fill.sh prints them over the translation a600d1c6d337cc69… (all of the seat's roots in one cut). By AI agents, Wed Nov 11 2026. No macro, syntax, notation, axiom, sorry.
-/
import Derived.Test.YtcoffndnfaemoaaGreatDoorChecked
import GoSem.Claim
import GoSem.ClaimJoined
import GoSem.ClaimMapViews
import Derived.JoinedTies
import Derived.KernelRfl
namespace Go.Proofs.YtcoffndnfaemoaaGreatDoor
/- THE CELL 'sum', in the pinned program and in every row, IS THE sha256 OF THE DUMP (.gsa) THAT YtcoffndnfaemoaaGreatDoorProg.lean LOADS. Nothing in Lean hashes anything: it is a label: what it is worth is what the hold of that sum in a sandbox is worth. -/
noncomputable def Tryz.pinned : Pinned := { name := "ytcoffndnfaemoaagreatdoor", sum := "a600d1c6d337cc697f0724c89627748c113b21721c22df443ba8393039ddd7f3", checked := Tryz.checked }
namespace Rows
def none {H : Type} : Left H := { results := [], args := [] }

/- WHAT THE LISTED PACKAGE-LEVEL VARIABLES READ AS WHEN THE CALL BEGINS. Each datum BY PROGRAM (the guide's laid-datum.mjs) off the statement by which the dump's own 'gosem.cut.vars' lays the variable. In a bare row this is a premise. The card (YtcoffndnfaemoaaGreatDoorCards.lean) ties it to the program's text. -/
def laid_math_bits_deBruijn32tab {H : Type} : DataW H := .agg [.lit (.int .u8 0), .lit (.int .u8 1), .lit (.int .u8 28), .lit (.int .u8 2), .lit (.int .u8 29), .lit (.int .u8 14), .lit (.int .u8 24), .lit (.int .u8 3), .lit (.int .u8 30), .lit (.int .u8 22), .lit (.int .u8 20), .lit (.int .u8 15), .lit (.int .u8 25), .lit (.int .u8 17), .lit (.int .u8 4), .lit (.int .u8 8), .lit (.int .u8 31), .lit (.int .u8 27), .lit (.int .u8 13), .lit (.int .u8 23), .lit (.int .u8 21), .lit (.int .u8 19), .lit (.int .u8 16), .lit (.int .u8 7), .lit (.int .u8 26), .lit (.int .u8 12), .lit (.int .u8 18), .lit (.int .u8 6), .lit (.int .u8 11), .lit (.int .u8 5), .lit (.int .u8 10), .lit (.int .u8 9)]
def laid_math_bits_deBruijn64tab {H : Type} : DataW H := .agg [.lit (.int .u8 0), .lit (.int .u8 1), .lit (.int .u8 56), .lit (.int .u8 2), .lit (.int .u8 57), .lit (.int .u8 49), .lit (.int .u8 28), .lit (.int .u8 3), .lit (.int .u8 61), .lit (.int .u8 58), .lit (.int .u8 42), .lit (.int .u8 50), .lit (.int .u8 38), .lit (.int .u8 29), .lit (.int .u8 17), .lit (.int .u8 4), .lit (.int .u8 62), .lit (.int .u8 47), .lit (.int .u8 59), .lit (.int .u8 36), .lit (.int .u8 45), .lit (.int .u8 43), .lit (.int .u8 51), .lit (.int .u8 22), .lit (.int .u8 53), .lit (.int .u8 39), .lit (.int .u8 33), .lit (.int .u8 30), .lit (.int .u8 24), .lit (.int .u8 18), .lit (.int .u8 12), .lit (.int .u8 5), .lit (.int .u8 63), .lit (.int .u8 55), .lit (.int .u8 48), .lit (.int .u8 27), .lit (.int .u8 60), .lit (.int .u8 41), .lit (.int .u8 37), .lit (.int .u8 16), .lit (.int .u8 46), .lit (.int .u8 35), .lit (.int .u8 44), .lit (.int .u8 21), .lit (.int .u8 52), .lit (.int .u8 32), .lit (.int .u8 23), .lit (.int .u8 11), .lit (.int .u8 54), .lit (.int .u8 26), .lit (.int .u8 40), .lit (.int .u8 15), .lit (.int .u8 34), .lit (.int .u8 20), .lit (.int .u8 31), .lit (.int .u8 10), .lit (.int .u8 25), .lit (.int .u8 14), .lit (.int .u8 19), .lit (.int .u8 9), .lit (.int .u8 13), .lit (.int .u8 8), .lit (.int .u8 7), .lit (.int .u8 6)]
def laid_pub_doubloon_pub_bigall_divRecursiveThreshold {H : Type} : DataW H := .lit (.int .i64 40)
def laid_pub_doubloon_pub_bigall_karatsubaThreshold {H : Type} : DataW H := .lit (.int .i64 40)
def laid_pub_doubloon_pub_bigall_basicSqrThreshold {H : Type} : DataW H := .lit (.int .i64 12)
def laid_pub_doubloon_pub_bigall_karatsubaSqrThreshold {H : Type} : DataW H := .lit (.int .i64 80)
def laid_io_EOF {H : Type} : DataW H := .iface "*errors.errorString" (.ptr (.agg [.lit (.string [69, 79, 70])]))
def laid_pub_doubloon_pub_bigall_errNoDigits {H : Type} : DataW H := .iface "*errors.errorString" (.ptr (.agg [.lit (.string [110, 117, 109, 98, 101, 114, 32, 104, 97, 115, 32, 110, 111, 32, 100, 105, 103, 105, 116, 115])]))
def laid_pub_doubloon_pub_bigall_errInvalSep {H : Type} : DataW H := .iface "*errors.errorString" (.ptr (.agg [.lit (.string [39, 95, 39, 32, 109, 117, 115, 116, 32, 115, 101, 112, 97, 114, 97, 116, 101, 32, 115, 117, 99, 99, 101, 115, 115, 105, 118, 101, 32, 100, 105, 103, 105, 116, 115])]))
def laid_pub_doubloon_pub_cosmosmath_ErrLegacyEmptyDecimalStr {H : Type} : DataW H := .iface "*errors.errorString" (.ptr (.agg [.lit (.string [100, 101, 99, 105, 109, 97, 108, 32, 115, 116, 114, 105, 110, 103, 32, 99, 97, 110, 110, 111, 116, 32, 98, 101, 32, 101, 109, 112, 116, 121])]))
def laid_pub_doubloon_pub_cosmosmath_ErrLegacyInvalidDecimalLength {H : Type} : DataW H := .iface "*errors.errorString" (.ptr (.agg [.lit (.string [105, 110, 118, 97, 108, 105, 100, 32, 100, 101, 99, 105, 109, 97, 108, 32, 108, 101, 110, 103, 116, 104])]))
def laid_pub_doubloon_pub_cosmosmath_ErrLegacyInvalidDecimalStr {H : Type} : DataW H := .iface "*errors.errorString" (.ptr (.agg [.lit (.string [105, 110, 118, 97, 108, 105, 100, 32, 100, 101, 99, 105, 109, 97, 108, 32, 115, 116, 114, 105, 110, 103])]))
def laid_pub_doubloon_pub_bigall_leafSize {H : Type} : DataW H := .lit (.int .i64 8)
def laid_pub_doubloon_pub_cosmosmath_ErrIntOverflow {H : Type} : DataW H := .iface "*errors.errorString" (.ptr (.agg [.lit (.string [105, 110, 116, 101, 103, 101, 114, 32, 111, 118, 101, 114, 102, 108, 111, 119])]))

/-- 'laws.FnDeciTimes': WHATEVER THE INPUT: true; the input reads as it did. -/
def fnDeciTimesSpec : ChangeSpec := { name := "fnDeciTimes", fn := fun _ => fun
  | [d1, d2, d3] => { results := [.lit (.bool true)], args := [d1, d2, d3] }
  | _ => none }
def fnDeciTimesRow : OpenClaim := { program := "ytcoffndnfaemoaagreatdoor", sum := "a600d1c6d337cc697f0724c89627748c113b21721c22df443ba8393039ddd7f3", func := "pub-doubloon/laws.FnDeciTimes", spec := "fnDeciTimes", inPlace := ["math/bits.Add64", "math/bits.Sub64"], unfollowed := true, recurses := true, named := ["pub-doubloon/pub/bigall.basicSqrThreshold", "pub-doubloon/pub/bigall.karatsubaSqrThreshold", "pub-doubloon/pub/bigall.karatsubaThreshold", "pub-doubloon/pub/bigall.divRecursiveThreshold", "math/bits.deBruijn32tab", "math/bits.deBruijn64tab"], apart := false, laid := [("math/bits.deBruijn32tab", laid_math_bits_deBruijn32tab), ("math/bits.deBruijn64tab", laid_math_bits_deBruijn64tab), ("pub-doubloon/pub/bigall.divRecursiveThreshold", laid_pub_doubloon_pub_bigall_divRecursiveThreshold), ("pub-doubloon/pub/bigall.karatsubaThreshold", laid_pub_doubloon_pub_bigall_karatsubaThreshold), ("pub-doubloon/pub/bigall.basicSqrThreshold", laid_pub_doubloon_pub_bigall_basicSqrThreshold), ("pub-doubloon/pub/bigall.karatsubaSqrThreshold", laid_pub_doubloon_pub_bigall_karatsubaSqrThreshold)] }
def FnDeciTimesSaid : Prop := fnDeciTimesRow.holds Tryz.pinned (OpenSpec.ofChange fnDeciTimesSpec)

/-- ITS FALSE NEIGHBOUR: 'it returns false'. Refute it at one input. -/
def fnDeciTimesWrong : ChangeSpec := { name := "fnDeciTimes", fn := fun _ => fun
  | [d1, d2, d3] => { results := [.lit (.bool false)], args := [d1, d2, d3] }
  | _ => none }
def FnDeciTimesWrongFalsely : Prop := fnDeciTimesRow.holds Tryz.pinned (OpenSpec.ofChange fnDeciTimesWrong)

/-- 'laws.FnDeciOver': WHATEVER THE INPUT: true; the input reads as it did. -/
def fnDeciOverSpec : ChangeSpec := { name := "fnDeciOver", fn := fun _ => fun
  | [d1, d2, d3] => { results := [.lit (.bool true)], args := [d1, d2, d3] }
  | _ => none }
def fnDeciOverRow : OpenClaim := { program := "ytcoffndnfaemoaagreatdoor", sum := "a600d1c6d337cc697f0724c89627748c113b21721c22df443ba8393039ddd7f3", func := "pub-doubloon/laws.FnDeciOver", spec := "fnDeciOver", inPlace := ["math/bits.Add64", "math/bits.Sub64"], unfollowed := true, recurses := true, named := ["pub-doubloon/pub/bigall.basicSqrThreshold", "pub-doubloon/pub/bigall.karatsubaSqrThreshold", "pub-doubloon/pub/bigall.karatsubaThreshold", "pub-doubloon/pub/bigall.divRecursiveThreshold", "math/bits.deBruijn32tab", "math/bits.deBruijn64tab"], apart := false, laid := [("math/bits.deBruijn32tab", laid_math_bits_deBruijn32tab), ("math/bits.deBruijn64tab", laid_math_bits_deBruijn64tab), ("pub-doubloon/pub/bigall.divRecursiveThreshold", laid_pub_doubloon_pub_bigall_divRecursiveThreshold), ("pub-doubloon/pub/bigall.karatsubaThreshold", laid_pub_doubloon_pub_bigall_karatsubaThreshold), ("pub-doubloon/pub/bigall.basicSqrThreshold", laid_pub_doubloon_pub_bigall_basicSqrThreshold), ("pub-doubloon/pub/bigall.karatsubaSqrThreshold", laid_pub_doubloon_pub_bigall_karatsubaSqrThreshold)] }
def FnDeciOverSaid : Prop := fnDeciOverRow.holds Tryz.pinned (OpenSpec.ofChange fnDeciOverSpec)

/-- ITS FALSE NEIGHBOUR: 'it returns false'. Refute it at one input. -/
def fnDeciOverWrong : ChangeSpec := { name := "fnDeciOver", fn := fun _ => fun
  | [d1, d2, d3] => { results := [.lit (.bool false)], args := [d1, d2, d3] }
  | _ => none }
def FnDeciOverWrongFalsely : Prop := fnDeciOverRow.holds Tryz.pinned (OpenSpec.ofChange fnDeciOverWrong)

/-- 'laws.FnUnitsBase': WHATEVER THE INPUT: true; the input reads as it did. -/
def fnUnitsBaseSpec : ChangeSpec := { name := "fnUnitsBase", fn := fun _ => fun
  | [d] => { results := [.lit (.bool true)], args := [d] }
  | _ => none }
def fnUnitsBaseRow : OpenClaim := { program := "ytcoffndnfaemoaagreatdoor", sum := "a600d1c6d337cc697f0724c89627748c113b21721c22df443ba8393039ddd7f3", func := "pub-doubloon/laws.FnUnitsBase", spec := "fnUnitsBase", inPlace := ["math/bits.Add64", "math/bits.Sub64"], unfollowed := true, recurses := true, named := ["pub-doubloon/pub/bigall.basicSqrThreshold", "pub-doubloon/pub/bigall.karatsubaSqrThreshold", "pub-doubloon/pub/bigall.karatsubaThreshold", "pub-doubloon/pub/bigall.divRecursiveThreshold", "math/bits.deBruijn32tab", "math/bits.deBruijn64tab"], apart := false, laid := [("math/bits.deBruijn32tab", laid_math_bits_deBruijn32tab), ("math/bits.deBruijn64tab", laid_math_bits_deBruijn64tab), ("pub-doubloon/pub/bigall.divRecursiveThreshold", laid_pub_doubloon_pub_bigall_divRecursiveThreshold), ("pub-doubloon/pub/bigall.karatsubaThreshold", laid_pub_doubloon_pub_bigall_karatsubaThreshold), ("pub-doubloon/pub/bigall.basicSqrThreshold", laid_pub_doubloon_pub_bigall_basicSqrThreshold), ("pub-doubloon/pub/bigall.karatsubaSqrThreshold", laid_pub_doubloon_pub_bigall_karatsubaSqrThreshold)] }
def FnUnitsBaseSaid : Prop := fnUnitsBaseRow.holds Tryz.pinned (OpenSpec.ofChange fnUnitsBaseSpec)

/-- ITS FALSE NEIGHBOUR: 'it returns false'. Refute it at one input. -/
def fnUnitsBaseWrong : ChangeSpec := { name := "fnUnitsBase", fn := fun _ => fun
  | [d] => { results := [.lit (.bool false)], args := [d] }
  | _ => none }
def FnUnitsBaseWrongFalsely : Prop := fnUnitsBaseRow.holds Tryz.pinned (OpenSpec.ofChange fnUnitsBaseWrong)

/-- 'laws.FnUnitsOnce': WHATEVER THE INPUT: true; the input reads as it did. -/
def fnUnitsOnceSpec : ChangeSpec := { name := "fnUnitsOnce", fn := fun _ => fun
  | [d1, d2, d3] => { results := [.lit (.bool true)], args := [d1, d2, d3] }
  | _ => none }
def fnUnitsOnceRow : OpenClaim := { program := "ytcoffndnfaemoaagreatdoor", sum := "a600d1c6d337cc697f0724c89627748c113b21721c22df443ba8393039ddd7f3", func := "pub-doubloon/laws.FnUnitsOnce", spec := "fnUnitsOnce", inPlace := ["math/bits.Add64", "math/bits.Sub64"], unfollowed := true, recurses := true, named := ["pub-doubloon/pub/bigall.basicSqrThreshold", "pub-doubloon/pub/bigall.karatsubaSqrThreshold", "pub-doubloon/pub/bigall.karatsubaThreshold", "pub-doubloon/pub/bigall.divRecursiveThreshold", "math/bits.deBruijn32tab", "math/bits.deBruijn64tab"], apart := false, laid := [("math/bits.deBruijn32tab", laid_math_bits_deBruijn32tab), ("math/bits.deBruijn64tab", laid_math_bits_deBruijn64tab), ("pub-doubloon/pub/bigall.divRecursiveThreshold", laid_pub_doubloon_pub_bigall_divRecursiveThreshold), ("pub-doubloon/pub/bigall.karatsubaThreshold", laid_pub_doubloon_pub_bigall_karatsubaThreshold), ("pub-doubloon/pub/bigall.basicSqrThreshold", laid_pub_doubloon_pub_bigall_basicSqrThreshold), ("pub-doubloon/pub/bigall.karatsubaSqrThreshold", laid_pub_doubloon_pub_bigall_karatsubaSqrThreshold)] }
def FnUnitsOnceSaid : Prop := fnUnitsOnceRow.holds Tryz.pinned (OpenSpec.ofChange fnUnitsOnceSpec)

/-- ITS FALSE NEIGHBOUR: 'it returns false'. Refute it at one input. -/
def fnUnitsOnceWrong : ChangeSpec := { name := "fnUnitsOnce", fn := fun _ => fun
  | [d1, d2, d3] => { results := [.lit (.bool false)], args := [d1, d2, d3] }
  | _ => none }
def FnUnitsOnceWrongFalsely : Prop := fnUnitsOnceRow.holds Tryz.pinned (OpenSpec.ofChange fnUnitsOnceWrong)

/-- 'laws.FnUnitsWhole': WHATEVER THE INPUT: true; the input reads as it did. -/
def fnUnitsWholeSpec : ChangeSpec := { name := "fnUnitsWhole", fn := fun _ => fun
  | [d1, d2, d3, d4] => { results := [.lit (.bool true)], args := [d1, d2, d3, d4] }
  | _ => none }
def fnUnitsWholeRow : OpenClaim := { program := "ytcoffndnfaemoaagreatdoor", sum := "a600d1c6d337cc697f0724c89627748c113b21721c22df443ba8393039ddd7f3", func := "pub-doubloon/laws.FnUnitsWhole", spec := "fnUnitsWhole", inPlace := ["math/bits.Add64", "math/bits.Sub64"], unfollowed := true, recurses := true, named := ["pub-doubloon/pub/bigall.basicSqrThreshold", "pub-doubloon/pub/bigall.karatsubaSqrThreshold", "pub-doubloon/pub/bigall.karatsubaThreshold", "pub-doubloon/pub/bigall.divRecursiveThreshold", "math/bits.deBruijn32tab", "math/bits.deBruijn64tab"], apart := false, laid := [("math/bits.deBruijn32tab", laid_math_bits_deBruijn32tab), ("math/bits.deBruijn64tab", laid_math_bits_deBruijn64tab), ("pub-doubloon/pub/bigall.divRecursiveThreshold", laid_pub_doubloon_pub_bigall_divRecursiveThreshold), ("pub-doubloon/pub/bigall.karatsubaThreshold", laid_pub_doubloon_pub_bigall_karatsubaThreshold), ("pub-doubloon/pub/bigall.basicSqrThreshold", laid_pub_doubloon_pub_bigall_basicSqrThreshold), ("pub-doubloon/pub/bigall.karatsubaSqrThreshold", laid_pub_doubloon_pub_bigall_karatsubaSqrThreshold)] }
def FnUnitsWholeSaid : Prop := fnUnitsWholeRow.holds Tryz.pinned (OpenSpec.ofChange fnUnitsWholeSpec)

/-- ITS FALSE NEIGHBOUR: 'it returns false'. Refute it at one input. -/
def fnUnitsWholeWrong : ChangeSpec := { name := "fnUnitsWhole", fn := fun _ => fun
  | [d1, d2, d3, d4] => { results := [.lit (.bool false)], args := [d1, d2, d3, d4] }
  | _ => none }
def FnUnitsWholeWrongFalsely : Prop := fnUnitsWholeRow.holds Tryz.pinned (OpenSpec.ofChange fnUnitsWholeWrong)

/-- 'laws.FnDenom': WHATEVER THE INPUT: true; the input reads as it did. -/
def fnDenomSpec : ChangeSpec := { name := "fnDenom", fn := fun _ => fun
  | [d] => { results := [.lit (.bool true)], args := [d] }
  | _ => none }
def fnDenomRow : OpenClaim := { program := "ytcoffndnfaemoaagreatdoor", sum := "a600d1c6d337cc697f0724c89627748c113b21721c22df443ba8393039ddd7f3", func := "pub-doubloon/laws.FnDenom", spec := "fnDenom", inPlace := ["internal/abi.NoEscape", "internal/bytealg.MakeNoZero", "math/bits.Add64", "math/bits.Sub64"], unfollowed := true, recurses := true, named := ["pub-doubloon/pub/cosmosmath.ErrLegacyEmptyDecimalStr", "pub-doubloon/pub/cosmosmath.ErrLegacyInvalidDecimalLength", "pub-doubloon/pub/cosmosmath.ErrLegacyInvalidDecimalStr", "io.EOF", "pub-doubloon/pub/bigall.errInvalSep", "pub-doubloon/pub/bigall.errNoDigits", "pub-doubloon/pub/bigall.divRecursiveThreshold", "pub-doubloon/pub/bigall.karatsubaThreshold", "pub-doubloon/pub/bigall.basicSqrThreshold", "pub-doubloon/pub/bigall.karatsubaSqrThreshold", "math/bits.deBruijn32tab", "math/bits.deBruijn64tab"], apart := false, laid := [("math/bits.deBruijn32tab", laid_math_bits_deBruijn32tab), ("math/bits.deBruijn64tab", laid_math_bits_deBruijn64tab), ("io.EOF", laid_io_EOF), ("pub-doubloon/pub/bigall.errNoDigits", laid_pub_doubloon_pub_bigall_errNoDigits), ("pub-doubloon/pub/bigall.errInvalSep", laid_pub_doubloon_pub_bigall_errInvalSep), ("pub-doubloon/pub/bigall.divRecursiveThreshold", laid_pub_doubloon_pub_bigall_divRecursiveThreshold), ("pub-doubloon/pub/bigall.karatsubaThreshold", laid_pub_doubloon_pub_bigall_karatsubaThreshold), ("pub-doubloon/pub/bigall.basicSqrThreshold", laid_pub_doubloon_pub_bigall_basicSqrThreshold), ("pub-doubloon/pub/bigall.karatsubaSqrThreshold", laid_pub_doubloon_pub_bigall_karatsubaSqrThreshold), ("pub-doubloon/pub/cosmosmath.ErrLegacyEmptyDecimalStr", laid_pub_doubloon_pub_cosmosmath_ErrLegacyEmptyDecimalStr), ("pub-doubloon/pub/cosmosmath.ErrLegacyInvalidDecimalLength", laid_pub_doubloon_pub_cosmosmath_ErrLegacyInvalidDecimalLength), ("pub-doubloon/pub/cosmosmath.ErrLegacyInvalidDecimalStr", laid_pub_doubloon_pub_cosmosmath_ErrLegacyInvalidDecimalStr)] }
def FnDenomSaid : Prop := fnDenomRow.holds Tryz.pinned (OpenSpec.ofChange fnDenomSpec)

/-- ITS FALSE NEIGHBOUR: 'it returns false'. Refute it at one input. -/
def fnDenomWrong : ChangeSpec := { name := "fnDenom", fn := fun _ => fun
  | [d] => { results := [.lit (.bool false)], args := [d] }
  | _ => none }
def FnDenomWrongFalsely : Prop := fnDenomRow.holds Tryz.pinned (OpenSpec.ofChange fnDenomWrong)

/-- 'laws.FnCoinOne': WHATEVER THE INPUT: true; the input reads as it did. -/
def fnCoinOneSpec : ChangeSpec := { name := "fnCoinOne", fn := fun _ => fun
  | [d] => { results := [.lit (.bool true)], args := [d] }
  | _ => none }
def fnCoinOneRow : OpenClaim := { program := "ytcoffndnfaemoaagreatdoor", sum := "a600d1c6d337cc697f0724c89627748c113b21721c22df443ba8393039ddd7f3", func := "pub-doubloon/laws.FnCoinOne", spec := "fnCoinOne", inPlace := ["math.Float64bits", "math.Float64frombits", "math.archLog", "math/bits.Add64", "math/bits.Sub64"], unfollowed := true, recurses := true, named := ["math/bits.deBruijn32tab", "math/bits.deBruijn64tab", "pub-doubloon/pub/bigall.leafSize", "pub-doubloon/pub/bigall.divRecursiveThreshold", "pub-doubloon/pub/bigall.karatsubaThreshold", "pub-doubloon/pub/bigall.basicSqrThreshold", "pub-doubloon/pub/bigall.karatsubaSqrThreshold", "pub-doubloon/pub/cosmosmath.ErrIntOverflow"], apart := false, laid := [("math/bits.deBruijn32tab", laid_math_bits_deBruijn32tab), ("math/bits.deBruijn64tab", laid_math_bits_deBruijn64tab), ("pub-doubloon/pub/bigall.leafSize", laid_pub_doubloon_pub_bigall_leafSize), ("pub-doubloon/pub/bigall.divRecursiveThreshold", laid_pub_doubloon_pub_bigall_divRecursiveThreshold), ("pub-doubloon/pub/bigall.karatsubaThreshold", laid_pub_doubloon_pub_bigall_karatsubaThreshold), ("pub-doubloon/pub/bigall.basicSqrThreshold", laid_pub_doubloon_pub_bigall_basicSqrThreshold), ("pub-doubloon/pub/bigall.karatsubaSqrThreshold", laid_pub_doubloon_pub_bigall_karatsubaSqrThreshold), ("pub-doubloon/pub/cosmosmath.ErrIntOverflow", laid_pub_doubloon_pub_cosmosmath_ErrIntOverflow)] }
def FnCoinOneSaid : Prop := fnCoinOneRow.holds Tryz.pinned (OpenSpec.ofChange fnCoinOneSpec)

/-- ITS FALSE NEIGHBOUR: 'it returns false'. Refute it at one input. -/
def fnCoinOneWrong : ChangeSpec := { name := "fnCoinOne", fn := fun _ => fun
  | [d] => { results := [.lit (.bool false)], args := [d] }
  | _ => none }
def FnCoinOneWrongFalsely : Prop := fnCoinOneRow.holds Tryz.pinned (OpenSpec.ofChange fnCoinOneWrong)

/-- 'laws.FnCoinsText': WHATEVER THE INPUT: true; the input reads as it did. -/
def fnCoinsTextSpec : ChangeSpec := { name := "fnCoinsText", fn := fun _ => fun
  | [d] => { results := [.lit (.bool true)], args := [d] }
  | _ => none }
def fnCoinsTextRow : OpenClaim := { program := "ytcoffndnfaemoaagreatdoor", sum := "a600d1c6d337cc697f0724c89627748c113b21721c22df443ba8393039ddd7f3", func := "pub-doubloon/laws.FnCoinsText", spec := "fnCoinsText", inPlace := ["math.Float64bits", "math.Float64frombits", "math.archLog", "math/bits.Add64", "math/bits.Sub64", "internal/abi.NoEscape"], unfollowed := true, recurses := true, named := ["math/bits.deBruijn32tab", "math/bits.deBruijn64tab", "pub-doubloon/pub/bigall.leafSize", "pub-doubloon/pub/bigall.divRecursiveThreshold", "pub-doubloon/pub/bigall.karatsubaThreshold", "pub-doubloon/pub/bigall.basicSqrThreshold", "pub-doubloon/pub/bigall.karatsubaSqrThreshold", "pub-doubloon/pub/cosmosmath.ErrIntOverflow"], apart := false, laid := [("math/bits.deBruijn32tab", laid_math_bits_deBruijn32tab), ("math/bits.deBruijn64tab", laid_math_bits_deBruijn64tab), ("pub-doubloon/pub/bigall.leafSize", laid_pub_doubloon_pub_bigall_leafSize), ("pub-doubloon/pub/bigall.divRecursiveThreshold", laid_pub_doubloon_pub_bigall_divRecursiveThreshold), ("pub-doubloon/pub/bigall.karatsubaThreshold", laid_pub_doubloon_pub_bigall_karatsubaThreshold), ("pub-doubloon/pub/bigall.basicSqrThreshold", laid_pub_doubloon_pub_bigall_basicSqrThreshold), ("pub-doubloon/pub/bigall.karatsubaSqrThreshold", laid_pub_doubloon_pub_bigall_karatsubaSqrThreshold), ("pub-doubloon/pub/cosmosmath.ErrIntOverflow", laid_pub_doubloon_pub_cosmosmath_ErrIntOverflow)] }
def FnCoinsTextSaid : Prop := fnCoinsTextRow.holds Tryz.pinned (OpenSpec.ofChange fnCoinsTextSpec)

/-- ITS FALSE NEIGHBOUR: 'it returns false'. Refute it at one input. -/
def fnCoinsTextWrong : ChangeSpec := { name := "fnCoinsText", fn := fun _ => fun
  | [d] => { results := [.lit (.bool false)], args := [d] }
  | _ => none }
def FnCoinsTextWrongFalsely : Prop := fnCoinsTextRow.holds Tryz.pinned (OpenSpec.ofChange fnCoinsTextWrong)

/- THE SECOND FORM. 'bulk': how many values and letters a reading holds, each counted each time it is reached (what is shared counts as often as it is met; a slice's spare places count too). A statement '..UptoSaid' is the law's where the arguments, and the package variables that the reading takes, are together of bulk at most 1048576: NARROWER than '..Said'. Prove '..Said' where nothing that the law and all that it calls make is longer than what came in: it says more and counts as full. Else prove '..UptoSaid'. A law counts once. -/
mutual
def uptoBulk {H : Type} : DataW H → Nat
  | .lit (.string bytes) => bytes.length + 1
  | .lit _ => 1
  | .nil => 1
  | .ptr d => uptoBulk d + 1
  | .slice elems spare => uptoBulkAll elems + uptoBulkAll spare + 1
  | .agg parts => uptoBulkAll parts + 1
  | .iface _ d => uptoBulk d + 1
  | .map entries => uptoBulkEntries entries + 1
  | .held _ => 1
def uptoBulkAll {H : Type} : List (DataW H) → Nat
  | [] => 0
  | d :: r => uptoBulk d + uptoBulkAll r
def uptoBulkEntries {H : Type} : List (Lit × DataW H) → Nat
  | [] => 0
  | x :: r => uptoBulkEntry x + uptoBulkEntries r
def uptoBulkEntry {H : Type} : Lit × DataW H → Nat
  | (.string bytes, d) => bytes.length + uptoBulk d + 1
  | (_, d) => uptoBulk d + 1
 end
def uptoSmall : (H : Type) → List (DataW H) → Bool := fun _ ds => decide (uptoBulkAll ds ≤ 1048576)
def OpenSpec.upto (s : _root_.Go.ChangeSpec) : _root_.Go.OpenSpec := { _root_.Go.OpenSpec.ofChange s with cond := some uptoSmall }

/-- 'laws.FnDeciTimes', WHERE WHAT IT READS IS OF BULK AT MOST 1048576: true; the input reads as it did. -/
def fnDeciTimesUptoRow : OpenClaim := { program := "ytcoffndnfaemoaagreatdoor", sum := "a600d1c6d337cc697f0724c89627748c113b21721c22df443ba8393039ddd7f3", func := "pub-doubloon/laws.FnDeciTimes", spec := "fnDeciTimes", inPlace := ["math/bits.Add64", "math/bits.Sub64"], unfollowed := true, recurses := true, named := ["pub-doubloon/pub/bigall.basicSqrThreshold", "pub-doubloon/pub/bigall.karatsubaSqrThreshold", "pub-doubloon/pub/bigall.karatsubaThreshold", "pub-doubloon/pub/bigall.divRecursiveThreshold", "math/bits.deBruijn32tab", "math/bits.deBruijn64tab"], apart := false, laid := [("math/bits.deBruijn32tab", laid_math_bits_deBruijn32tab), ("math/bits.deBruijn64tab", laid_math_bits_deBruijn64tab), ("pub-doubloon/pub/bigall.divRecursiveThreshold", laid_pub_doubloon_pub_bigall_divRecursiveThreshold), ("pub-doubloon/pub/bigall.karatsubaThreshold", laid_pub_doubloon_pub_bigall_karatsubaThreshold), ("pub-doubloon/pub/bigall.basicSqrThreshold", laid_pub_doubloon_pub_bigall_basicSqrThreshold), ("pub-doubloon/pub/bigall.karatsubaSqrThreshold", laid_pub_doubloon_pub_bigall_karatsubaSqrThreshold)], narrowed := true }
def FnDeciTimesUptoSaid : Prop := fnDeciTimesUptoRow.holds Tryz.pinned (OpenSpec.upto fnDeciTimesSpec)

/-- 'laws.FnDeciOver', WHERE WHAT IT READS IS OF BULK AT MOST 1048576: true; the input reads as it did. -/
def fnDeciOverUptoRow : OpenClaim := { program := "ytcoffndnfaemoaagreatdoor", sum := "a600d1c6d337cc697f0724c89627748c113b21721c22df443ba8393039ddd7f3", func := "pub-doubloon/laws.FnDeciOver", spec := "fnDeciOver", inPlace := ["math/bits.Add64", "math/bits.Sub64"], unfollowed := true, recurses := true, named := ["pub-doubloon/pub/bigall.basicSqrThreshold", "pub-doubloon/pub/bigall.karatsubaSqrThreshold", "pub-doubloon/pub/bigall.karatsubaThreshold", "pub-doubloon/pub/bigall.divRecursiveThreshold", "math/bits.deBruijn32tab", "math/bits.deBruijn64tab"], apart := false, laid := [("math/bits.deBruijn32tab", laid_math_bits_deBruijn32tab), ("math/bits.deBruijn64tab", laid_math_bits_deBruijn64tab), ("pub-doubloon/pub/bigall.divRecursiveThreshold", laid_pub_doubloon_pub_bigall_divRecursiveThreshold), ("pub-doubloon/pub/bigall.karatsubaThreshold", laid_pub_doubloon_pub_bigall_karatsubaThreshold), ("pub-doubloon/pub/bigall.basicSqrThreshold", laid_pub_doubloon_pub_bigall_basicSqrThreshold), ("pub-doubloon/pub/bigall.karatsubaSqrThreshold", laid_pub_doubloon_pub_bigall_karatsubaSqrThreshold)], narrowed := true }
def FnDeciOverUptoSaid : Prop := fnDeciOverUptoRow.holds Tryz.pinned (OpenSpec.upto fnDeciOverSpec)

/-- 'laws.FnUnitsBase', WHERE WHAT IT READS IS OF BULK AT MOST 1048576: true; the input reads as it did. -/
def fnUnitsBaseUptoRow : OpenClaim := { program := "ytcoffndnfaemoaagreatdoor", sum := "a600d1c6d337cc697f0724c89627748c113b21721c22df443ba8393039ddd7f3", func := "pub-doubloon/laws.FnUnitsBase", spec := "fnUnitsBase", inPlace := ["math/bits.Add64", "math/bits.Sub64"], unfollowed := true, recurses := true, named := ["pub-doubloon/pub/bigall.basicSqrThreshold", "pub-doubloon/pub/bigall.karatsubaSqrThreshold", "pub-doubloon/pub/bigall.karatsubaThreshold", "pub-doubloon/pub/bigall.divRecursiveThreshold", "math/bits.deBruijn32tab", "math/bits.deBruijn64tab"], apart := false, laid := [("math/bits.deBruijn32tab", laid_math_bits_deBruijn32tab), ("math/bits.deBruijn64tab", laid_math_bits_deBruijn64tab), ("pub-doubloon/pub/bigall.divRecursiveThreshold", laid_pub_doubloon_pub_bigall_divRecursiveThreshold), ("pub-doubloon/pub/bigall.karatsubaThreshold", laid_pub_doubloon_pub_bigall_karatsubaThreshold), ("pub-doubloon/pub/bigall.basicSqrThreshold", laid_pub_doubloon_pub_bigall_basicSqrThreshold), ("pub-doubloon/pub/bigall.karatsubaSqrThreshold", laid_pub_doubloon_pub_bigall_karatsubaSqrThreshold)], narrowed := true }
def FnUnitsBaseUptoSaid : Prop := fnUnitsBaseUptoRow.holds Tryz.pinned (OpenSpec.upto fnUnitsBaseSpec)

/-- 'laws.FnUnitsOnce', WHERE WHAT IT READS IS OF BULK AT MOST 1048576: true; the input reads as it did. -/
def fnUnitsOnceUptoRow : OpenClaim := { program := "ytcoffndnfaemoaagreatdoor", sum := "a600d1c6d337cc697f0724c89627748c113b21721c22df443ba8393039ddd7f3", func := "pub-doubloon/laws.FnUnitsOnce", spec := "fnUnitsOnce", inPlace := ["math/bits.Add64", "math/bits.Sub64"], unfollowed := true, recurses := true, named := ["pub-doubloon/pub/bigall.basicSqrThreshold", "pub-doubloon/pub/bigall.karatsubaSqrThreshold", "pub-doubloon/pub/bigall.karatsubaThreshold", "pub-doubloon/pub/bigall.divRecursiveThreshold", "math/bits.deBruijn32tab", "math/bits.deBruijn64tab"], apart := false, laid := [("math/bits.deBruijn32tab", laid_math_bits_deBruijn32tab), ("math/bits.deBruijn64tab", laid_math_bits_deBruijn64tab), ("pub-doubloon/pub/bigall.divRecursiveThreshold", laid_pub_doubloon_pub_bigall_divRecursiveThreshold), ("pub-doubloon/pub/bigall.karatsubaThreshold", laid_pub_doubloon_pub_bigall_karatsubaThreshold), ("pub-doubloon/pub/bigall.basicSqrThreshold", laid_pub_doubloon_pub_bigall_basicSqrThreshold), ("pub-doubloon/pub/bigall.karatsubaSqrThreshold", laid_pub_doubloon_pub_bigall_karatsubaSqrThreshold)], narrowed := true }
def FnUnitsOnceUptoSaid : Prop := fnUnitsOnceUptoRow.holds Tryz.pinned (OpenSpec.upto fnUnitsOnceSpec)

/-- 'laws.FnUnitsWhole', WHERE WHAT IT READS IS OF BULK AT MOST 1048576: true; the input reads as it did. -/
def fnUnitsWholeUptoRow : OpenClaim := { program := "ytcoffndnfaemoaagreatdoor", sum := "a600d1c6d337cc697f0724c89627748c113b21721c22df443ba8393039ddd7f3", func := "pub-doubloon/laws.FnUnitsWhole", spec := "fnUnitsWhole", inPlace := ["math/bits.Add64", "math/bits.Sub64"], unfollowed := true, recurses := true, named := ["pub-doubloon/pub/bigall.basicSqrThreshold", "pub-doubloon/pub/bigall.karatsubaSqrThreshold", "pub-doubloon/pub/bigall.karatsubaThreshold", "pub-doubloon/pub/bigall.divRecursiveThreshold", "math/bits.deBruijn32tab", "math/bits.deBruijn64tab"], apart := false, laid := [("math/bits.deBruijn32tab", laid_math_bits_deBruijn32tab), ("math/bits.deBruijn64tab", laid_math_bits_deBruijn64tab), ("pub-doubloon/pub/bigall.divRecursiveThreshold", laid_pub_doubloon_pub_bigall_divRecursiveThreshold), ("pub-doubloon/pub/bigall.karatsubaThreshold", laid_pub_doubloon_pub_bigall_karatsubaThreshold), ("pub-doubloon/pub/bigall.basicSqrThreshold", laid_pub_doubloon_pub_bigall_basicSqrThreshold), ("pub-doubloon/pub/bigall.karatsubaSqrThreshold", laid_pub_doubloon_pub_bigall_karatsubaSqrThreshold)], narrowed := true }
def FnUnitsWholeUptoSaid : Prop := fnUnitsWholeUptoRow.holds Tryz.pinned (OpenSpec.upto fnUnitsWholeSpec)

/-- 'laws.FnDenom', WHERE WHAT IT READS IS OF BULK AT MOST 1048576: true; the input reads as it did. -/
def fnDenomUptoRow : OpenClaim := { program := "ytcoffndnfaemoaagreatdoor", sum := "a600d1c6d337cc697f0724c89627748c113b21721c22df443ba8393039ddd7f3", func := "pub-doubloon/laws.FnDenom", spec := "fnDenom", inPlace := ["internal/abi.NoEscape", "internal/bytealg.MakeNoZero", "math/bits.Add64", "math/bits.Sub64"], unfollowed := true, recurses := true, named := ["pub-doubloon/pub/cosmosmath.ErrLegacyEmptyDecimalStr", "pub-doubloon/pub/cosmosmath.ErrLegacyInvalidDecimalLength", "pub-doubloon/pub/cosmosmath.ErrLegacyInvalidDecimalStr", "io.EOF", "pub-doubloon/pub/bigall.errInvalSep", "pub-doubloon/pub/bigall.errNoDigits", "pub-doubloon/pub/bigall.divRecursiveThreshold", "pub-doubloon/pub/bigall.karatsubaThreshold", "pub-doubloon/pub/bigall.basicSqrThreshold", "pub-doubloon/pub/bigall.karatsubaSqrThreshold", "math/bits.deBruijn32tab", "math/bits.deBruijn64tab"], apart := false, laid := [("math/bits.deBruijn32tab", laid_math_bits_deBruijn32tab), ("math/bits.deBruijn64tab", laid_math_bits_deBruijn64tab), ("io.EOF", laid_io_EOF), ("pub-doubloon/pub/bigall.errNoDigits", laid_pub_doubloon_pub_bigall_errNoDigits), ("pub-doubloon/pub/bigall.errInvalSep", laid_pub_doubloon_pub_bigall_errInvalSep), ("pub-doubloon/pub/bigall.divRecursiveThreshold", laid_pub_doubloon_pub_bigall_divRecursiveThreshold), ("pub-doubloon/pub/bigall.karatsubaThreshold", laid_pub_doubloon_pub_bigall_karatsubaThreshold), ("pub-doubloon/pub/bigall.basicSqrThreshold", laid_pub_doubloon_pub_bigall_basicSqrThreshold), ("pub-doubloon/pub/bigall.karatsubaSqrThreshold", laid_pub_doubloon_pub_bigall_karatsubaSqrThreshold), ("pub-doubloon/pub/cosmosmath.ErrLegacyEmptyDecimalStr", laid_pub_doubloon_pub_cosmosmath_ErrLegacyEmptyDecimalStr), ("pub-doubloon/pub/cosmosmath.ErrLegacyInvalidDecimalLength", laid_pub_doubloon_pub_cosmosmath_ErrLegacyInvalidDecimalLength), ("pub-doubloon/pub/cosmosmath.ErrLegacyInvalidDecimalStr", laid_pub_doubloon_pub_cosmosmath_ErrLegacyInvalidDecimalStr)], narrowed := true }
def FnDenomUptoSaid : Prop := fnDenomUptoRow.holds Tryz.pinned (OpenSpec.upto fnDenomSpec)

/-- 'laws.FnCoinOne', WHERE WHAT IT READS IS OF BULK AT MOST 1048576: true; the input reads as it did. -/
def fnCoinOneUptoRow : OpenClaim := { program := "ytcoffndnfaemoaagreatdoor", sum := "a600d1c6d337cc697f0724c89627748c113b21721c22df443ba8393039ddd7f3", func := "pub-doubloon/laws.FnCoinOne", spec := "fnCoinOne", inPlace := ["math.Float64bits", "math.Float64frombits", "math.archLog", "math/bits.Add64", "math/bits.Sub64"], unfollowed := true, recurses := true, named := ["math/bits.deBruijn32tab", "math/bits.deBruijn64tab", "pub-doubloon/pub/bigall.leafSize", "pub-doubloon/pub/bigall.divRecursiveThreshold", "pub-doubloon/pub/bigall.karatsubaThreshold", "pub-doubloon/pub/bigall.basicSqrThreshold", "pub-doubloon/pub/bigall.karatsubaSqrThreshold", "pub-doubloon/pub/cosmosmath.ErrIntOverflow"], apart := false, laid := [("math/bits.deBruijn32tab", laid_math_bits_deBruijn32tab), ("math/bits.deBruijn64tab", laid_math_bits_deBruijn64tab), ("pub-doubloon/pub/bigall.leafSize", laid_pub_doubloon_pub_bigall_leafSize), ("pub-doubloon/pub/bigall.divRecursiveThreshold", laid_pub_doubloon_pub_bigall_divRecursiveThreshold), ("pub-doubloon/pub/bigall.karatsubaThreshold", laid_pub_doubloon_pub_bigall_karatsubaThreshold), ("pub-doubloon/pub/bigall.basicSqrThreshold", laid_pub_doubloon_pub_bigall_basicSqrThreshold), ("pub-doubloon/pub/bigall.karatsubaSqrThreshold", laid_pub_doubloon_pub_bigall_karatsubaSqrThreshold), ("pub-doubloon/pub/cosmosmath.ErrIntOverflow", laid_pub_doubloon_pub_cosmosmath_ErrIntOverflow)], narrowed := true }
def FnCoinOneUptoSaid : Prop := fnCoinOneUptoRow.holds Tryz.pinned (OpenSpec.upto fnCoinOneSpec)

/-- 'laws.FnCoinsText', WHERE WHAT IT READS IS OF BULK AT MOST 1048576: true; the input reads as it did. -/
def fnCoinsTextUptoRow : OpenClaim := { program := "ytcoffndnfaemoaagreatdoor", sum := "a600d1c6d337cc697f0724c89627748c113b21721c22df443ba8393039ddd7f3", func := "pub-doubloon/laws.FnCoinsText", spec := "fnCoinsText", inPlace := ["math.Float64bits", "math.Float64frombits", "math.archLog", "math/bits.Add64", "math/bits.Sub64", "internal/abi.NoEscape"], unfollowed := true, recurses := true, named := ["math/bits.deBruijn32tab", "math/bits.deBruijn64tab", "pub-doubloon/pub/bigall.leafSize", "pub-doubloon/pub/bigall.divRecursiveThreshold", "pub-doubloon/pub/bigall.karatsubaThreshold", "pub-doubloon/pub/bigall.basicSqrThreshold", "pub-doubloon/pub/bigall.karatsubaSqrThreshold", "pub-doubloon/pub/cosmosmath.ErrIntOverflow"], apart := false, laid := [("math/bits.deBruijn32tab", laid_math_bits_deBruijn32tab), ("math/bits.deBruijn64tab", laid_math_bits_deBruijn64tab), ("pub-doubloon/pub/bigall.leafSize", laid_pub_doubloon_pub_bigall_leafSize), ("pub-doubloon/pub/bigall.divRecursiveThreshold", laid_pub_doubloon_pub_bigall_divRecursiveThreshold), ("pub-doubloon/pub/bigall.karatsubaThreshold", laid_pub_doubloon_pub_bigall_karatsubaThreshold), ("pub-doubloon/pub/bigall.basicSqrThreshold", laid_pub_doubloon_pub_bigall_basicSqrThreshold), ("pub-doubloon/pub/bigall.karatsubaSqrThreshold", laid_pub_doubloon_pub_bigall_karatsubaSqrThreshold), ("pub-doubloon/pub/cosmosmath.ErrIntOverflow", laid_pub_doubloon_pub_cosmosmath_ErrIntOverflow)], narrowed := true }
def FnCoinsTextUptoSaid : Prop := fnCoinsTextUptoRow.holds Tryz.pinned (OpenSpec.upto fnCoinsTextSpec)

end Rows
end Go.Proofs.YtcoffndnfaemoaaGreatDoor
