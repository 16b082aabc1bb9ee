/-
  NARROWER THAN 'FOR EVERY INPUT', by the rows' own cells (each row's printed sentence says how): FnDeciAdd: laid · FnDeciPair: laid · FnDeciAmount: laid · FnDeciLess: laid · FnDeciBoth: laid · FnDeciErrors: laid · FnDeciAbout: laid · FnDeciTimes: laid · FnDeciOver: laid · FnDeciEqual: laid · FnDeciNew: laid · FnDeciFrom: laid · FnDeciThereBack: laid.
  DERIVED. THE GIVEN ROWS OF THIS SEAT. 13 by the template 'for every input the law returns true; each argument reads behind the call as it read before'; 0 by the template 'total and deterministic' (their statements: YthnghknmgbimbaaGreatDoorTotals.lean).
  GIVEN WITH THE SEED: the statements are not yours to turn. If you find one false, say at which input.
  Laid BY PROGRAM, IN A SANDBOX (cutbox-rows.mjs): the forced cells as the released guide's own fill.sh prints them over the translation f2ba3c40dcc07d29… (all of the seat's roots in one cut). By AI agents, Wed Nov 11 2026. No macro, syntax, notation, axiom, sorry.
-/
import Derived.Test.YthnghknmgbimbaaGreatDoorChecked
import GoSem.Claim
import GoSem.ClaimJoined
import GoSem.ClaimMapViews
import Derived.JoinedTies
import Derived.KernelRfl
namespace Go.Proofs.YthnghknmgbimbaaGreatDoor
/- THE CELL 'sum', in the pinned program and in every row, IS THE sha256 OF THE DUMP (.gsa) THAT YthnghknmgbimbaaGreatDoorProg.lean LOADS. Nothing in Lean hashes anything: it is a label: what it is worth is what the hold of that sum in a sandbox is worth. -/
noncomputable def Tryz.pinned : Pinned := { name := "ythnghknmgbimbaagreatdoor", sum := "f2ba3c40dcc07d29a1865289efb0635ecb6c1ad92b3ee41ec73ccca1d22a6128", checked := Tryz.checked }
namespace Rows
def none {H : Type} : Left H := { results := [], args := [] }

/- WHAT THE LISTED PACKAGE-LEVEL VARIABLES READ AS WHEN THE CALL BEGINS. Each datum BY PROGRAM (the guide's laid-datum.mjs) off the statement by which the dump's own 'gosem.cut.vars' lays the variable. In a bare row this is a premise. The card (YthnghknmgbimbaaGreatDoorCards.lean) ties it to the program's text. -/
def laid_math_bits_deBruijn32tab {H : Type} : DataW H := .agg [.lit (.int .u8 0), .lit (.int .u8 1), .lit (.int .u8 28), .lit (.int .u8 2), .lit (.int .u8 29), .lit (.int .u8 14), .lit (.int .u8 24), .lit (.int .u8 3), .lit (.int .u8 30), .lit (.int .u8 22), .lit (.int .u8 20), .lit (.int .u8 15), .lit (.int .u8 25), .lit (.int .u8 17), .lit (.int .u8 4), .lit (.int .u8 8), .lit (.int .u8 31), .lit (.int .u8 27), .lit (.int .u8 13), .lit (.int .u8 23), .lit (.int .u8 21), .lit (.int .u8 19), .lit (.int .u8 16), .lit (.int .u8 7), .lit (.int .u8 26), .lit (.int .u8 12), .lit (.int .u8 18), .lit (.int .u8 6), .lit (.int .u8 11), .lit (.int .u8 5), .lit (.int .u8 10), .lit (.int .u8 9)]
def laid_math_bits_deBruijn64tab {H : Type} : DataW H := .agg [.lit (.int .u8 0), .lit (.int .u8 1), .lit (.int .u8 56), .lit (.int .u8 2), .lit (.int .u8 57), .lit (.int .u8 49), .lit (.int .u8 28), .lit (.int .u8 3), .lit (.int .u8 61), .lit (.int .u8 58), .lit (.int .u8 42), .lit (.int .u8 50), .lit (.int .u8 38), .lit (.int .u8 29), .lit (.int .u8 17), .lit (.int .u8 4), .lit (.int .u8 62), .lit (.int .u8 47), .lit (.int .u8 59), .lit (.int .u8 36), .lit (.int .u8 45), .lit (.int .u8 43), .lit (.int .u8 51), .lit (.int .u8 22), .lit (.int .u8 53), .lit (.int .u8 39), .lit (.int .u8 33), .lit (.int .u8 30), .lit (.int .u8 24), .lit (.int .u8 18), .lit (.int .u8 12), .lit (.int .u8 5), .lit (.int .u8 63), .lit (.int .u8 55), .lit (.int .u8 48), .lit (.int .u8 27), .lit (.int .u8 60), .lit (.int .u8 41), .lit (.int .u8 37), .lit (.int .u8 16), .lit (.int .u8 46), .lit (.int .u8 35), .lit (.int .u8 44), .lit (.int .u8 21), .lit (.int .u8 52), .lit (.int .u8 32), .lit (.int .u8 23), .lit (.int .u8 11), .lit (.int .u8 54), .lit (.int .u8 26), .lit (.int .u8 40), .lit (.int .u8 15), .lit (.int .u8 34), .lit (.int .u8 20), .lit (.int .u8 31), .lit (.int .u8 10), .lit (.int .u8 25), .lit (.int .u8 14), .lit (.int .u8 19), .lit (.int .u8 9), .lit (.int .u8 13), .lit (.int .u8 8), .lit (.int .u8 7), .lit (.int .u8 6)]
def laid_pub_doubloon_pub_bigall_divRecursiveThreshold {H : Type} : DataW H := .lit (.int .i64 40)
def laid_pub_doubloon_pub_bigall_karatsubaThreshold {H : Type} : DataW H := .lit (.int .i64 40)
def laid_pub_doubloon_pub_bigall_basicSqrThreshold {H : Type} : DataW H := .lit (.int .i64 12)
def laid_pub_doubloon_pub_bigall_karatsubaSqrThreshold {H : Type} : DataW H := .lit (.int .i64 80)

/-- 'laws.FnDeciAdd': WHATEVER THE INPUT: true; the input reads as it did. -/
def fnDeciAddSpec : ChangeSpec := { name := "fnDeciAdd", fn := fun _ => fun
  | [d1, d2] => { results := [.lit (.bool true)], args := [d1, d2] }
  | _ => none }
def fnDeciAddRow : OpenClaim := { program := "ythnghknmgbimbaagreatdoor", sum := "f2ba3c40dcc07d29a1865289efb0635ecb6c1ad92b3ee41ec73ccca1d22a6128", func := "pub-doubloon/laws.FnDeciAdd", spec := "fnDeciAdd", inPlace := ["math/bits.Add64", "math/bits.Sub64"], unfollowed := true, recurses := true, named := ["pub-doubloon/pub/bigall.basicSqrThreshold", "pub-doubloon/pub/bigall.karatsubaSqrThreshold", "pub-doubloon/pub/bigall.karatsubaThreshold", "pub-doubloon/pub/bigall.divRecursiveThreshold", "math/bits.deBruijn32tab", "math/bits.deBruijn64tab"], apart := false, laid := [("math/bits.deBruijn32tab", laid_math_bits_deBruijn32tab), ("math/bits.deBruijn64tab", laid_math_bits_deBruijn64tab), ("pub-doubloon/pub/bigall.divRecursiveThreshold", laid_pub_doubloon_pub_bigall_divRecursiveThreshold), ("pub-doubloon/pub/bigall.karatsubaThreshold", laid_pub_doubloon_pub_bigall_karatsubaThreshold), ("pub-doubloon/pub/bigall.basicSqrThreshold", laid_pub_doubloon_pub_bigall_basicSqrThreshold), ("pub-doubloon/pub/bigall.karatsubaSqrThreshold", laid_pub_doubloon_pub_bigall_karatsubaSqrThreshold)] }
def FnDeciAddSaid : Prop := fnDeciAddRow.holds Tryz.pinned (OpenSpec.ofChange fnDeciAddSpec)

/-- ITS FALSE NEIGHBOUR: 'it returns false'. Refute it at one input. -/
def fnDeciAddWrong : ChangeSpec := { name := "fnDeciAdd", fn := fun _ => fun
  | [d1, d2] => { results := [.lit (.bool false)], args := [d1, d2] }
  | _ => none }
def FnDeciAddWrongFalsely : Prop := fnDeciAddRow.holds Tryz.pinned (OpenSpec.ofChange fnDeciAddWrong)

/-- 'laws.FnDeciPair': WHATEVER THE INPUT: true; the input reads as it did. -/
def fnDeciPairSpec : ChangeSpec := { name := "fnDeciPair", fn := fun _ => fun
  | [d1, d2] => { results := [.lit (.bool true)], args := [d1, d2] }
  | _ => none }
def fnDeciPairRow : OpenClaim := { program := "ythnghknmgbimbaagreatdoor", sum := "f2ba3c40dcc07d29a1865289efb0635ecb6c1ad92b3ee41ec73ccca1d22a6128", func := "pub-doubloon/laws.FnDeciPair", spec := "fnDeciPair", inPlace := ["math/bits.Add64", "math/bits.Sub64"], unfollowed := true, recurses := true, named := ["pub-doubloon/pub/bigall.basicSqrThreshold", "pub-doubloon/pub/bigall.karatsubaSqrThreshold", "pub-doubloon/pub/bigall.karatsubaThreshold", "pub-doubloon/pub/bigall.divRecursiveThreshold", "math/bits.deBruijn32tab", "math/bits.deBruijn64tab"], apart := false, laid := [("math/bits.deBruijn32tab", laid_math_bits_deBruijn32tab), ("math/bits.deBruijn64tab", laid_math_bits_deBruijn64tab), ("pub-doubloon/pub/bigall.divRecursiveThreshold", laid_pub_doubloon_pub_bigall_divRecursiveThreshold), ("pub-doubloon/pub/bigall.karatsubaThreshold", laid_pub_doubloon_pub_bigall_karatsubaThreshold), ("pub-doubloon/pub/bigall.basicSqrThreshold", laid_pub_doubloon_pub_bigall_basicSqrThreshold), ("pub-doubloon/pub/bigall.karatsubaSqrThreshold", laid_pub_doubloon_pub_bigall_karatsubaSqrThreshold)] }
def FnDeciPairSaid : Prop := fnDeciPairRow.holds Tryz.pinned (OpenSpec.ofChange fnDeciPairSpec)

/-- ITS FALSE NEIGHBOUR: 'it returns false'. Refute it at one input. -/
def fnDeciPairWrong : ChangeSpec := { name := "fnDeciPair", fn := fun _ => fun
  | [d1, d2] => { results := [.lit (.bool false)], args := [d1, d2] }
  | _ => none }
def FnDeciPairWrongFalsely : Prop := fnDeciPairRow.holds Tryz.pinned (OpenSpec.ofChange fnDeciPairWrong)

/-- 'laws.FnDeciAmount': WHATEVER THE INPUT: true; the input reads as it did. -/
def fnDeciAmountSpec : ChangeSpec := { name := "fnDeciAmount", fn := fun _ => fun
  | [d1, d2] => { results := [.lit (.bool true)], args := [d1, d2] }
  | _ => none }
def fnDeciAmountRow : OpenClaim := { program := "ythnghknmgbimbaagreatdoor", sum := "f2ba3c40dcc07d29a1865289efb0635ecb6c1ad92b3ee41ec73ccca1d22a6128", func := "pub-doubloon/laws.FnDeciAmount", spec := "fnDeciAmount", inPlace := ["math/bits.Add64", "math/bits.Sub64"], unfollowed := true, recurses := true, named := ["pub-doubloon/pub/bigall.basicSqrThreshold", "pub-doubloon/pub/bigall.karatsubaSqrThreshold", "pub-doubloon/pub/bigall.karatsubaThreshold", "pub-doubloon/pub/bigall.divRecursiveThreshold", "math/bits.deBruijn32tab", "math/bits.deBruijn64tab"], apart := false, laid := [("math/bits.deBruijn32tab", laid_math_bits_deBruijn32tab), ("math/bits.deBruijn64tab", laid_math_bits_deBruijn64tab), ("pub-doubloon/pub/bigall.divRecursiveThreshold", laid_pub_doubloon_pub_bigall_divRecursiveThreshold), ("pub-doubloon/pub/bigall.karatsubaThreshold", laid_pub_doubloon_pub_bigall_karatsubaThreshold), ("pub-doubloon/pub/bigall.basicSqrThreshold", laid_pub_doubloon_pub_bigall_basicSqrThreshold), ("pub-doubloon/pub/bigall.karatsubaSqrThreshold", laid_pub_doubloon_pub_bigall_karatsubaSqrThreshold)] }
def FnDeciAmountSaid : Prop := fnDeciAmountRow.holds Tryz.pinned (OpenSpec.ofChange fnDeciAmountSpec)

/-- ITS FALSE NEIGHBOUR: 'it returns false'. Refute it at one input. -/
def fnDeciAmountWrong : ChangeSpec := { name := "fnDeciAmount", fn := fun _ => fun
  | [d1, d2] => { results := [.lit (.bool false)], args := [d1, d2] }
  | _ => none }
def FnDeciAmountWrongFalsely : Prop := fnDeciAmountRow.holds Tryz.pinned (OpenSpec.ofChange fnDeciAmountWrong)

/-- 'laws.FnDeciLess': WHATEVER THE INPUT: true; the input reads as it did. -/
def fnDeciLessSpec : ChangeSpec := { name := "fnDeciLess", fn := fun _ => fun
  | [d1, d2] => { results := [.lit (.bool true)], args := [d1, d2] }
  | _ => none }
def fnDeciLessRow : OpenClaim := { program := "ythnghknmgbimbaagreatdoor", sum := "f2ba3c40dcc07d29a1865289efb0635ecb6c1ad92b3ee41ec73ccca1d22a6128", func := "pub-doubloon/laws.FnDeciLess", spec := "fnDeciLess", inPlace := ["math/bits.Add64", "math/bits.Sub64"], unfollowed := true, recurses := true, named := ["pub-doubloon/pub/bigall.basicSqrThreshold", "pub-doubloon/pub/bigall.karatsubaSqrThreshold", "pub-doubloon/pub/bigall.karatsubaThreshold", "pub-doubloon/pub/bigall.divRecursiveThreshold", "math/bits.deBruijn32tab", "math/bits.deBruijn64tab"], apart := false, laid := [("math/bits.deBruijn32tab", laid_math_bits_deBruijn32tab), ("math/bits.deBruijn64tab", laid_math_bits_deBruijn64tab), ("pub-doubloon/pub/bigall.divRecursiveThreshold", laid_pub_doubloon_pub_bigall_divRecursiveThreshold), ("pub-doubloon/pub/bigall.karatsubaThreshold", laid_pub_doubloon_pub_bigall_karatsubaThreshold), ("pub-doubloon/pub/bigall.basicSqrThreshold", laid_pub_doubloon_pub_bigall_basicSqrThreshold), ("pub-doubloon/pub/bigall.karatsubaSqrThreshold", laid_pub_doubloon_pub_bigall_karatsubaSqrThreshold)] }
def FnDeciLessSaid : Prop := fnDeciLessRow.holds Tryz.pinned (OpenSpec.ofChange fnDeciLessSpec)

/-- ITS FALSE NEIGHBOUR: 'it returns false'. Refute it at one input. -/
def fnDeciLessWrong : ChangeSpec := { name := "fnDeciLess", fn := fun _ => fun
  | [d1, d2] => { results := [.lit (.bool false)], args := [d1, d2] }
  | _ => none }
def FnDeciLessWrongFalsely : Prop := fnDeciLessRow.holds Tryz.pinned (OpenSpec.ofChange fnDeciLessWrong)

/-- 'laws.FnDeciBoth': WHATEVER THE INPUT: true; the input reads as it did. -/
def fnDeciBothSpec : ChangeSpec := { name := "fnDeciBoth", fn := fun _ => fun
  | [d1, d2] => { results := [.lit (.bool true)], args := [d1, d2] }
  | _ => none }
def fnDeciBothRow : OpenClaim := { program := "ythnghknmgbimbaagreatdoor", sum := "f2ba3c40dcc07d29a1865289efb0635ecb6c1ad92b3ee41ec73ccca1d22a6128", func := "pub-doubloon/laws.FnDeciBoth", spec := "fnDeciBoth", inPlace := ["math/bits.Add64", "math/bits.Sub64"], unfollowed := true, recurses := true, named := ["pub-doubloon/pub/bigall.basicSqrThreshold", "pub-doubloon/pub/bigall.karatsubaSqrThreshold", "pub-doubloon/pub/bigall.karatsubaThreshold", "pub-doubloon/pub/bigall.divRecursiveThreshold", "math/bits.deBruijn32tab", "math/bits.deBruijn64tab"], apart := false, laid := [("math/bits.deBruijn32tab", laid_math_bits_deBruijn32tab), ("math/bits.deBruijn64tab", laid_math_bits_deBruijn64tab), ("pub-doubloon/pub/bigall.divRecursiveThreshold", laid_pub_doubloon_pub_bigall_divRecursiveThreshold), ("pub-doubloon/pub/bigall.karatsubaThreshold", laid_pub_doubloon_pub_bigall_karatsubaThreshold), ("pub-doubloon/pub/bigall.basicSqrThreshold", laid_pub_doubloon_pub_bigall_basicSqrThreshold), ("pub-doubloon/pub/bigall.karatsubaSqrThreshold", laid_pub_doubloon_pub_bigall_karatsubaSqrThreshold)] }
def FnDeciBothSaid : Prop := fnDeciBothRow.holds Tryz.pinned (OpenSpec.ofChange fnDeciBothSpec)

/-- ITS FALSE NEIGHBOUR: 'it returns false'. Refute it at one input. -/
def fnDeciBothWrong : ChangeSpec := { name := "fnDeciBoth", fn := fun _ => fun
  | [d1, d2] => { results := [.lit (.bool false)], args := [d1, d2] }
  | _ => none }
def FnDeciBothWrongFalsely : Prop := fnDeciBothRow.holds Tryz.pinned (OpenSpec.ofChange fnDeciBothWrong)

/-- 'laws.FnDeciErrors': WHATEVER THE INPUT: true; the input reads as it did. -/
def fnDeciErrorsSpec : ChangeSpec := { name := "fnDeciErrors", fn := fun _ => fun
  | [d] => { results := [.lit (.bool true)], args := [d] }
  | _ => none }
def fnDeciErrorsRow : OpenClaim := { program := "ythnghknmgbimbaagreatdoor", sum := "f2ba3c40dcc07d29a1865289efb0635ecb6c1ad92b3ee41ec73ccca1d22a6128", func := "pub-doubloon/laws.FnDeciErrors", spec := "fnDeciErrors", inPlace := ["math/bits.Add64", "math/bits.Sub64"], unfollowed := true, recurses := true, named := ["pub-doubloon/pub/bigall.basicSqrThreshold", "pub-doubloon/pub/bigall.karatsubaSqrThreshold", "pub-doubloon/pub/bigall.karatsubaThreshold", "pub-doubloon/pub/bigall.divRecursiveThreshold", "math/bits.deBruijn32tab", "math/bits.deBruijn64tab"], apart := false, laid := [("math/bits.deBruijn32tab", laid_math_bits_deBruijn32tab), ("math/bits.deBruijn64tab", laid_math_bits_deBruijn64tab), ("pub-doubloon/pub/bigall.divRecursiveThreshold", laid_pub_doubloon_pub_bigall_divRecursiveThreshold), ("pub-doubloon/pub/bigall.karatsubaThreshold", laid_pub_doubloon_pub_bigall_karatsubaThreshold), ("pub-doubloon/pub/bigall.basicSqrThreshold", laid_pub_doubloon_pub_bigall_basicSqrThreshold), ("pub-doubloon/pub/bigall.karatsubaSqrThreshold", laid_pub_doubloon_pub_bigall_karatsubaSqrThreshold)] }
def FnDeciErrorsSaid : Prop := fnDeciErrorsRow.holds Tryz.pinned (OpenSpec.ofChange fnDeciErrorsSpec)

/-- ITS FALSE NEIGHBOUR: 'it returns false'. Refute it at one input. -/
def fnDeciErrorsWrong : ChangeSpec := { name := "fnDeciErrors", fn := fun _ => fun
  | [d] => { results := [.lit (.bool false)], args := [d] }
  | _ => none }
def FnDeciErrorsWrongFalsely : Prop := fnDeciErrorsRow.holds Tryz.pinned (OpenSpec.ofChange fnDeciErrorsWrong)

/-- 'laws.FnDeciAbout': WHATEVER THE INPUT: true; the input reads as it did. -/
def fnDeciAboutSpec : ChangeSpec := { name := "fnDeciAbout", fn := fun _ => fun
  | [d] => { results := [.lit (.bool true)], args := [d] }
  | _ => none }
def fnDeciAboutRow : OpenClaim := { program := "ythnghknmgbimbaagreatdoor", sum := "f2ba3c40dcc07d29a1865289efb0635ecb6c1ad92b3ee41ec73ccca1d22a6128", func := "pub-doubloon/laws.FnDeciAbout", spec := "fnDeciAbout", inPlace := ["math/bits.Add64", "math/bits.Sub64"], unfollowed := true, recurses := true, named := ["pub-doubloon/pub/bigall.basicSqrThreshold", "pub-doubloon/pub/bigall.karatsubaSqrThreshold", "pub-doubloon/pub/bigall.karatsubaThreshold", "pub-doubloon/pub/bigall.divRecursiveThreshold", "math/bits.deBruijn32tab", "math/bits.deBruijn64tab"], apart := false, laid := [("math/bits.deBruijn32tab", laid_math_bits_deBruijn32tab), ("math/bits.deBruijn64tab", laid_math_bits_deBruijn64tab), ("pub-doubloon/pub/bigall.divRecursiveThreshold", laid_pub_doubloon_pub_bigall_divRecursiveThreshold), ("pub-doubloon/pub/bigall.karatsubaThreshold", laid_pub_doubloon_pub_bigall_karatsubaThreshold), ("pub-doubloon/pub/bigall.basicSqrThreshold", laid_pub_doubloon_pub_bigall_basicSqrThreshold), ("pub-doubloon/pub/bigall.karatsubaSqrThreshold", laid_pub_doubloon_pub_bigall_karatsubaSqrThreshold)] }
def FnDeciAboutSaid : Prop := fnDeciAboutRow.holds Tryz.pinned (OpenSpec.ofChange fnDeciAboutSpec)

/-- ITS FALSE NEIGHBOUR: 'it returns false'. Refute it at one input. -/
def fnDeciAboutWrong : ChangeSpec := { name := "fnDeciAbout", fn := fun _ => fun
  | [d] => { results := [.lit (.bool false)], args := [d] }
  | _ => none }
def FnDeciAboutWrongFalsely : Prop := fnDeciAboutRow.holds Tryz.pinned (OpenSpec.ofChange fnDeciAboutWrong)

/-- 'laws.FnDeciTimes': WHATEVER THE INPUT: true; the input reads as it did. -/
def fnDeciTimesSpec : ChangeSpec := { name := "fnDeciTimes", fn := fun _ => fun
  | [d1, d2, d3] => { results := [.lit (.bool true)], args := [d1, d2, d3] }
  | _ => none }
def fnDeciTimesRow : OpenClaim := { program := "ythnghknmgbimbaagreatdoor", sum := "f2ba3c40dcc07d29a1865289efb0635ecb6c1ad92b3ee41ec73ccca1d22a6128", func := "pub-doubloon/laws.FnDeciTimes", spec := "fnDeciTimes", inPlace := ["math/bits.Add64", "math/bits.Sub64"], unfollowed := true, recurses := true, named := ["pub-doubloon/pub/bigall.basicSqrThreshold", "pub-doubloon/pub/bigall.karatsubaSqrThreshold", "pub-doubloon/pub/bigall.karatsubaThreshold", "pub-doubloon/pub/bigall.divRecursiveThreshold", "math/bits.deBruijn32tab", "math/bits.deBruijn64tab"], apart := false, laid := [("math/bits.deBruijn32tab", laid_math_bits_deBruijn32tab), ("math/bits.deBruijn64tab", laid_math_bits_deBruijn64tab), ("pub-doubloon/pub/bigall.divRecursiveThreshold", laid_pub_doubloon_pub_bigall_divRecursiveThreshold), ("pub-doubloon/pub/bigall.karatsubaThreshold", laid_pub_doubloon_pub_bigall_karatsubaThreshold), ("pub-doubloon/pub/bigall.basicSqrThreshold", laid_pub_doubloon_pub_bigall_basicSqrThreshold), ("pub-doubloon/pub/bigall.karatsubaSqrThreshold", laid_pub_doubloon_pub_bigall_karatsubaSqrThreshold)] }
def FnDeciTimesSaid : Prop := fnDeciTimesRow.holds Tryz.pinned (OpenSpec.ofChange fnDeciTimesSpec)

/-- ITS FALSE NEIGHBOUR: 'it returns false'. Refute it at one input. -/
def fnDeciTimesWrong : ChangeSpec := { name := "fnDeciTimes", fn := fun _ => fun
  | [d1, d2, d3] => { results := [.lit (.bool false)], args := [d1, d2, d3] }
  | _ => none }
def FnDeciTimesWrongFalsely : Prop := fnDeciTimesRow.holds Tryz.pinned (OpenSpec.ofChange fnDeciTimesWrong)

/-- 'laws.FnDeciOver': WHATEVER THE INPUT: true; the input reads as it did. -/
def fnDeciOverSpec : ChangeSpec := { name := "fnDeciOver", fn := fun _ => fun
  | [d1, d2, d3] => { results := [.lit (.bool true)], args := [d1, d2, d3] }
  | _ => none }
def fnDeciOverRow : OpenClaim := { program := "ythnghknmgbimbaagreatdoor", sum := "f2ba3c40dcc07d29a1865289efb0635ecb6c1ad92b3ee41ec73ccca1d22a6128", func := "pub-doubloon/laws.FnDeciOver", spec := "fnDeciOver", inPlace := ["math/bits.Add64", "math/bits.Sub64"], unfollowed := true, recurses := true, named := ["pub-doubloon/pub/bigall.basicSqrThreshold", "pub-doubloon/pub/bigall.karatsubaSqrThreshold", "pub-doubloon/pub/bigall.karatsubaThreshold", "pub-doubloon/pub/bigall.divRecursiveThreshold", "math/bits.deBruijn32tab", "math/bits.deBruijn64tab"], apart := false, laid := [("math/bits.deBruijn32tab", laid_math_bits_deBruijn32tab), ("math/bits.deBruijn64tab", laid_math_bits_deBruijn64tab), ("pub-doubloon/pub/bigall.divRecursiveThreshold", laid_pub_doubloon_pub_bigall_divRecursiveThreshold), ("pub-doubloon/pub/bigall.karatsubaThreshold", laid_pub_doubloon_pub_bigall_karatsubaThreshold), ("pub-doubloon/pub/bigall.basicSqrThreshold", laid_pub_doubloon_pub_bigall_basicSqrThreshold), ("pub-doubloon/pub/bigall.karatsubaSqrThreshold", laid_pub_doubloon_pub_bigall_karatsubaSqrThreshold)] }
def FnDeciOverSaid : Prop := fnDeciOverRow.holds Tryz.pinned (OpenSpec.ofChange fnDeciOverSpec)

/-- ITS FALSE NEIGHBOUR: 'it returns false'. Refute it at one input. -/
def fnDeciOverWrong : ChangeSpec := { name := "fnDeciOver", fn := fun _ => fun
  | [d1, d2, d3] => { results := [.lit (.bool false)], args := [d1, d2, d3] }
  | _ => none }
def FnDeciOverWrongFalsely : Prop := fnDeciOverRow.holds Tryz.pinned (OpenSpec.ofChange fnDeciOverWrong)

/-- 'laws.FnDeciEqual': WHATEVER THE INPUT: true; the input reads as it did. -/
def fnDeciEqualSpec : ChangeSpec := { name := "fnDeciEqual", fn := fun _ => fun
  | [d1, d2] => { results := [.lit (.bool true)], args := [d1, d2] }
  | _ => none }
def fnDeciEqualRow : OpenClaim := { program := "ythnghknmgbimbaagreatdoor", sum := "f2ba3c40dcc07d29a1865289efb0635ecb6c1ad92b3ee41ec73ccca1d22a6128", func := "pub-doubloon/laws.FnDeciEqual", spec := "fnDeciEqual", inPlace := ["math/bits.Add64", "math/bits.Sub64"], unfollowed := true, recurses := true, named := ["pub-doubloon/pub/bigall.basicSqrThreshold", "pub-doubloon/pub/bigall.karatsubaSqrThreshold", "pub-doubloon/pub/bigall.karatsubaThreshold", "pub-doubloon/pub/bigall.divRecursiveThreshold", "math/bits.deBruijn32tab", "math/bits.deBruijn64tab"], apart := false, laid := [("math/bits.deBruijn32tab", laid_math_bits_deBruijn32tab), ("math/bits.deBruijn64tab", laid_math_bits_deBruijn64tab), ("pub-doubloon/pub/bigall.divRecursiveThreshold", laid_pub_doubloon_pub_bigall_divRecursiveThreshold), ("pub-doubloon/pub/bigall.karatsubaThreshold", laid_pub_doubloon_pub_bigall_karatsubaThreshold), ("pub-doubloon/pub/bigall.basicSqrThreshold", laid_pub_doubloon_pub_bigall_basicSqrThreshold), ("pub-doubloon/pub/bigall.karatsubaSqrThreshold", laid_pub_doubloon_pub_bigall_karatsubaSqrThreshold)] }
def FnDeciEqualSaid : Prop := fnDeciEqualRow.holds Tryz.pinned (OpenSpec.ofChange fnDeciEqualSpec)

/-- ITS FALSE NEIGHBOUR: 'it returns false'. Refute it at one input. -/
def fnDeciEqualWrong : ChangeSpec := { name := "fnDeciEqual", fn := fun _ => fun
  | [d1, d2] => { results := [.lit (.bool false)], args := [d1, d2] }
  | _ => none }
def FnDeciEqualWrongFalsely : Prop := fnDeciEqualRow.holds Tryz.pinned (OpenSpec.ofChange fnDeciEqualWrong)

/-- 'laws.FnDeciNew': WHATEVER THE INPUT: true; the input reads as it did. -/
def fnDeciNewSpec : ChangeSpec := { name := "fnDeciNew", fn := fun _ => fun
  | [d] => { results := [.lit (.bool true)], args := [d] }
  | _ => none }
def fnDeciNewRow : OpenClaim := { program := "ythnghknmgbimbaagreatdoor", sum := "f2ba3c40dcc07d29a1865289efb0635ecb6c1ad92b3ee41ec73ccca1d22a6128", func := "pub-doubloon/laws.FnDeciNew", spec := "fnDeciNew", inPlace := ["math/bits.Add64", "math/bits.Sub64"], unfollowed := true, recurses := true, named := ["pub-doubloon/pub/bigall.basicSqrThreshold", "pub-doubloon/pub/bigall.karatsubaSqrThreshold", "pub-doubloon/pub/bigall.karatsubaThreshold", "pub-doubloon/pub/bigall.divRecursiveThreshold", "math/bits.deBruijn32tab", "math/bits.deBruijn64tab"], apart := false, laid := [("math/bits.deBruijn32tab", laid_math_bits_deBruijn32tab), ("math/bits.deBruijn64tab", laid_math_bits_deBruijn64tab), ("pub-doubloon/pub/bigall.divRecursiveThreshold", laid_pub_doubloon_pub_bigall_divRecursiveThreshold), ("pub-doubloon/pub/bigall.karatsubaThreshold", laid_pub_doubloon_pub_bigall_karatsubaThreshold), ("pub-doubloon/pub/bigall.basicSqrThreshold", laid_pub_doubloon_pub_bigall_basicSqrThreshold), ("pub-doubloon/pub/bigall.karatsubaSqrThreshold", laid_pub_doubloon_pub_bigall_karatsubaSqrThreshold)] }
def FnDeciNewSaid : Prop := fnDeciNewRow.holds Tryz.pinned (OpenSpec.ofChange fnDeciNewSpec)

/-- ITS FALSE NEIGHBOUR: 'it returns false'. Refute it at one input. -/
def fnDeciNewWrong : ChangeSpec := { name := "fnDeciNew", fn := fun _ => fun
  | [d] => { results := [.lit (.bool false)], args := [d] }
  | _ => none }
def FnDeciNewWrongFalsely : Prop := fnDeciNewRow.holds Tryz.pinned (OpenSpec.ofChange fnDeciNewWrong)

/-- 'laws.FnDeciFrom': WHATEVER THE INPUT: true; the input reads as it did. -/
def fnDeciFromSpec : ChangeSpec := { name := "fnDeciFrom", fn := fun _ => fun
  | [d] => { results := [.lit (.bool true)], args := [d] }
  | _ => none }
def fnDeciFromRow : OpenClaim := { program := "ythnghknmgbimbaagreatdoor", sum := "f2ba3c40dcc07d29a1865289efb0635ecb6c1ad92b3ee41ec73ccca1d22a6128", func := "pub-doubloon/laws.FnDeciFrom", spec := "fnDeciFrom", inPlace := ["math/bits.Add64", "math/bits.Sub64"], unfollowed := true, recurses := true, named := ["pub-doubloon/pub/bigall.basicSqrThreshold", "pub-doubloon/pub/bigall.karatsubaSqrThreshold", "pub-doubloon/pub/bigall.karatsubaThreshold", "pub-doubloon/pub/bigall.divRecursiveThreshold", "math/bits.deBruijn32tab", "math/bits.deBruijn64tab"], apart := false, laid := [("math/bits.deBruijn32tab", laid_math_bits_deBruijn32tab), ("math/bits.deBruijn64tab", laid_math_bits_deBruijn64tab), ("pub-doubloon/pub/bigall.divRecursiveThreshold", laid_pub_doubloon_pub_bigall_divRecursiveThreshold), ("pub-doubloon/pub/bigall.karatsubaThreshold", laid_pub_doubloon_pub_bigall_karatsubaThreshold), ("pub-doubloon/pub/bigall.basicSqrThreshold", laid_pub_doubloon_pub_bigall_basicSqrThreshold), ("pub-doubloon/pub/bigall.karatsubaSqrThreshold", laid_pub_doubloon_pub_bigall_karatsubaSqrThreshold)] }
def FnDeciFromSaid : Prop := fnDeciFromRow.holds Tryz.pinned (OpenSpec.ofChange fnDeciFromSpec)

/-- ITS FALSE NEIGHBOUR: 'it returns false'. Refute it at one input. -/
def fnDeciFromWrong : ChangeSpec := { name := "fnDeciFrom", fn := fun _ => fun
  | [d] => { results := [.lit (.bool false)], args := [d] }
  | _ => none }
def FnDeciFromWrongFalsely : Prop := fnDeciFromRow.holds Tryz.pinned (OpenSpec.ofChange fnDeciFromWrong)

/-- 'laws.FnDeciThereBack': WHATEVER THE INPUT: true; the input reads as it did. -/
def fnDeciThereBackSpec : ChangeSpec := { name := "fnDeciThereBack", fn := fun _ => fun
  | [d1, d2] => { results := [.lit (.bool true)], args := [d1, d2] }
  | _ => none }
def fnDeciThereBackRow : OpenClaim := { program := "ythnghknmgbimbaagreatdoor", sum := "f2ba3c40dcc07d29a1865289efb0635ecb6c1ad92b3ee41ec73ccca1d22a6128", func := "pub-doubloon/laws.FnDeciThereBack", spec := "fnDeciThereBack", inPlace := ["math/bits.Add64", "math/bits.Sub64"], unfollowed := true, recurses := true, named := ["pub-doubloon/pub/bigall.basicSqrThreshold", "pub-doubloon/pub/bigall.karatsubaSqrThreshold", "pub-doubloon/pub/bigall.karatsubaThreshold", "pub-doubloon/pub/bigall.divRecursiveThreshold", "math/bits.deBruijn32tab", "math/bits.deBruijn64tab"], apart := false, laid := [("math/bits.deBruijn32tab", laid_math_bits_deBruijn32tab), ("math/bits.deBruijn64tab", laid_math_bits_deBruijn64tab), ("pub-doubloon/pub/bigall.divRecursiveThreshold", laid_pub_doubloon_pub_bigall_divRecursiveThreshold), ("pub-doubloon/pub/bigall.karatsubaThreshold", laid_pub_doubloon_pub_bigall_karatsubaThreshold), ("pub-doubloon/pub/bigall.basicSqrThreshold", laid_pub_doubloon_pub_bigall_basicSqrThreshold), ("pub-doubloon/pub/bigall.karatsubaSqrThreshold", laid_pub_doubloon_pub_bigall_karatsubaSqrThreshold)] }
def FnDeciThereBackSaid : Prop := fnDeciThereBackRow.holds Tryz.pinned (OpenSpec.ofChange fnDeciThereBackSpec)

/-- ITS FALSE NEIGHBOUR: 'it returns false'. Refute it at one input. -/
def fnDeciThereBackWrong : ChangeSpec := { name := "fnDeciThereBack", fn := fun _ => fun
  | [d1, d2] => { results := [.lit (.bool false)], args := [d1, d2] }
  | _ => none }
def FnDeciThereBackWrongFalsely : Prop := fnDeciThereBackRow.holds Tryz.pinned (OpenSpec.ofChange fnDeciThereBackWrong)

/- THE SECOND FORM. 'bulk': how many values and letters a reading holds, each counted each time it is reached (what is shared counts as often as it is met; a slice's spare places count too). A statement '..UptoSaid' is the law's where the arguments, and the package variables that the reading takes, are together of bulk at most 1048576: NARROWER than '..Said'. Prove '..Said' where nothing that the law and all that it calls make is longer than what came in: it says more and counts as full. Else prove '..UptoSaid'. A law counts once. -/
mutual
def uptoBulk {H : Type} : DataW H → Nat
  | .lit (.string bytes) => bytes.length + 1
  | .lit _ => 1
  | .nil => 1
  | .ptr d => uptoBulk d + 1
  | .slice elems spare => uptoBulkAll elems + uptoBulkAll spare + 1
  | .agg parts => uptoBulkAll parts + 1
  | .iface _ d => uptoBulk d + 1
  | .map entries => uptoBulkEntries entries + 1
  | .held _ => 1
def uptoBulkAll {H : Type} : List (DataW H) → Nat
  | [] => 0
  | d :: r => uptoBulk d + uptoBulkAll r
def uptoBulkEntries {H : Type} : List (Lit × DataW H) → Nat
  | [] => 0
  | x :: r => uptoBulkEntry x + uptoBulkEntries r
def uptoBulkEntry {H : Type} : Lit × DataW H → Nat
  | (.string bytes, d) => bytes.length + uptoBulk d + 1
  | (_, d) => uptoBulk d + 1
 end
def uptoSmall : (H : Type) → List (DataW H) → Bool := fun _ ds => decide (uptoBulkAll ds ≤ 1048576)
def OpenSpec.upto (s : _root_.Go.ChangeSpec) : _root_.Go.OpenSpec := { _root_.Go.OpenSpec.ofChange s with cond := some uptoSmall }

/-- 'laws.FnDeciAdd', WHERE WHAT IT READS IS OF BULK AT MOST 1048576: true; the input reads as it did. -/
def fnDeciAddUptoRow : OpenClaim := { program := "ythnghknmgbimbaagreatdoor", sum := "f2ba3c40dcc07d29a1865289efb0635ecb6c1ad92b3ee41ec73ccca1d22a6128", func := "pub-doubloon/laws.FnDeciAdd", spec := "fnDeciAdd", inPlace := ["math/bits.Add64", "math/bits.Sub64"], unfollowed := true, recurses := true, named := ["pub-doubloon/pub/bigall.basicSqrThreshold", "pub-doubloon/pub/bigall.karatsubaSqrThreshold", "pub-doubloon/pub/bigall.karatsubaThreshold", "pub-doubloon/pub/bigall.divRecursiveThreshold", "math/bits.deBruijn32tab", "math/bits.deBruijn64tab"], apart := false, laid := [("math/bits.deBruijn32tab", laid_math_bits_deBruijn32tab), ("math/bits.deBruijn64tab", laid_math_bits_deBruijn64tab), ("pub-doubloon/pub/bigall.divRecursiveThreshold", laid_pub_doubloon_pub_bigall_divRecursiveThreshold), ("pub-doubloon/pub/bigall.karatsubaThreshold", laid_pub_doubloon_pub_bigall_karatsubaThreshold), ("pub-doubloon/pub/bigall.basicSqrThreshold", laid_pub_doubloon_pub_bigall_basicSqrThreshold), ("pub-doubloon/pub/bigall.karatsubaSqrThreshold", laid_pub_doubloon_pub_bigall_karatsubaSqrThreshold)], narrowed := true }
def FnDeciAddUptoSaid : Prop := fnDeciAddUptoRow.holds Tryz.pinned (OpenSpec.upto fnDeciAddSpec)

/-- 'laws.FnDeciPair', WHERE WHAT IT READS IS OF BULK AT MOST 1048576: true; the input reads as it did. -/
def fnDeciPairUptoRow : OpenClaim := { program := "ythnghknmgbimbaagreatdoor", sum := "f2ba3c40dcc07d29a1865289efb0635ecb6c1ad92b3ee41ec73ccca1d22a6128", func := "pub-doubloon/laws.FnDeciPair", spec := "fnDeciPair", inPlace := ["math/bits.Add64", "math/bits.Sub64"], unfollowed := true, recurses := true, named := ["pub-doubloon/pub/bigall.basicSqrThreshold", "pub-doubloon/pub/bigall.karatsubaSqrThreshold", "pub-doubloon/pub/bigall.karatsubaThreshold", "pub-doubloon/pub/bigall.divRecursiveThreshold", "math/bits.deBruijn32tab", "math/bits.deBruijn64tab"], apart := false, laid := [("math/bits.deBruijn32tab", laid_math_bits_deBruijn32tab), ("math/bits.deBruijn64tab", laid_math_bits_deBruijn64tab), ("pub-doubloon/pub/bigall.divRecursiveThreshold", laid_pub_doubloon_pub_bigall_divRecursiveThreshold), ("pub-doubloon/pub/bigall.karatsubaThreshold", laid_pub_doubloon_pub_bigall_karatsubaThreshold), ("pub-doubloon/pub/bigall.basicSqrThreshold", laid_pub_doubloon_pub_bigall_basicSqrThreshold), ("pub-doubloon/pub/bigall.karatsubaSqrThreshold", laid_pub_doubloon_pub_bigall_karatsubaSqrThreshold)], narrowed := true }
def FnDeciPairUptoSaid : Prop := fnDeciPairUptoRow.holds Tryz.pinned (OpenSpec.upto fnDeciPairSpec)

/-- 'laws.FnDeciAmount', WHERE WHAT IT READS IS OF BULK AT MOST 1048576: true; the input reads as it did. -/
def fnDeciAmountUptoRow : OpenClaim := { program := "ythnghknmgbimbaagreatdoor", sum := "f2ba3c40dcc07d29a1865289efb0635ecb6c1ad92b3ee41ec73ccca1d22a6128", func := "pub-doubloon/laws.FnDeciAmount", spec := "fnDeciAmount", inPlace := ["math/bits.Add64", "math/bits.Sub64"], unfollowed := true, recurses := true, named := ["pub-doubloon/pub/bigall.basicSqrThreshold", "pub-doubloon/pub/bigall.karatsubaSqrThreshold", "pub-doubloon/pub/bigall.karatsubaThreshold", "pub-doubloon/pub/bigall.divRecursiveThreshold", "math/bits.deBruijn32tab", "math/bits.deBruijn64tab"], apart := false, laid := [("math/bits.deBruijn32tab", laid_math_bits_deBruijn32tab), ("math/bits.deBruijn64tab", laid_math_bits_deBruijn64tab), ("pub-doubloon/pub/bigall.divRecursiveThreshold", laid_pub_doubloon_pub_bigall_divRecursiveThreshold), ("pub-doubloon/pub/bigall.karatsubaThreshold", laid_pub_doubloon_pub_bigall_karatsubaThreshold), ("pub-doubloon/pub/bigall.basicSqrThreshold", laid_pub_doubloon_pub_bigall_basicSqrThreshold), ("pub-doubloon/pub/bigall.karatsubaSqrThreshold", laid_pub_doubloon_pub_bigall_karatsubaSqrThreshold)], narrowed := true }
def FnDeciAmountUptoSaid : Prop := fnDeciAmountUptoRow.holds Tryz.pinned (OpenSpec.upto fnDeciAmountSpec)

/-- 'laws.FnDeciLess', WHERE WHAT IT READS IS OF BULK AT MOST 1048576: true; the input reads as it did. -/
def fnDeciLessUptoRow : OpenClaim := { program := "ythnghknmgbimbaagreatdoor", sum := "f2ba3c40dcc07d29a1865289efb0635ecb6c1ad92b3ee41ec73ccca1d22a6128", func := "pub-doubloon/laws.FnDeciLess", spec := "fnDeciLess", inPlace := ["math/bits.Add64", "math/bits.Sub64"], unfollowed := true, recurses := true, named := ["pub-doubloon/pub/bigall.basicSqrThreshold", "pub-doubloon/pub/bigall.karatsubaSqrThreshold", "pub-doubloon/pub/bigall.karatsubaThreshold", "pub-doubloon/pub/bigall.divRecursiveThreshold", "math/bits.deBruijn32tab", "math/bits.deBruijn64tab"], apart := false, laid := [("math/bits.deBruijn32tab", laid_math_bits_deBruijn32tab), ("math/bits.deBruijn64tab", laid_math_bits_deBruijn64tab), ("pub-doubloon/pub/bigall.divRecursiveThreshold", laid_pub_doubloon_pub_bigall_divRecursiveThreshold), ("pub-doubloon/pub/bigall.karatsubaThreshold", laid_pub_doubloon_pub_bigall_karatsubaThreshold), ("pub-doubloon/pub/bigall.basicSqrThreshold", laid_pub_doubloon_pub_bigall_basicSqrThreshold), ("pub-doubloon/pub/bigall.karatsubaSqrThreshold", laid_pub_doubloon_pub_bigall_karatsubaSqrThreshold)], narrowed := true }
def FnDeciLessUptoSaid : Prop := fnDeciLessUptoRow.holds Tryz.pinned (OpenSpec.upto fnDeciLessSpec)

/-- 'laws.FnDeciBoth', WHERE WHAT IT READS IS OF BULK AT MOST 1048576: true; the input reads as it did. -/
def fnDeciBothUptoRow : OpenClaim := { program := "ythnghknmgbimbaagreatdoor", sum := "f2ba3c40dcc07d29a1865289efb0635ecb6c1ad92b3ee41ec73ccca1d22a6128", func := "pub-doubloon/laws.FnDeciBoth", spec := "fnDeciBoth", inPlace := ["math/bits.Add64", "math/bits.Sub64"], unfollowed := true, recurses := true, named := ["pub-doubloon/pub/bigall.basicSqrThreshold", "pub-doubloon/pub/bigall.karatsubaSqrThreshold", "pub-doubloon/pub/bigall.karatsubaThreshold", "pub-doubloon/pub/bigall.divRecursiveThreshold", "math/bits.deBruijn32tab", "math/bits.deBruijn64tab"], apart := false, laid := [("math/bits.deBruijn32tab", laid_math_bits_deBruijn32tab), ("math/bits.deBruijn64tab", laid_math_bits_deBruijn64tab), ("pub-doubloon/pub/bigall.divRecursiveThreshold", laid_pub_doubloon_pub_bigall_divRecursiveThreshold), ("pub-doubloon/pub/bigall.karatsubaThreshold", laid_pub_doubloon_pub_bigall_karatsubaThreshold), ("pub-doubloon/pub/bigall.basicSqrThreshold", laid_pub_doubloon_pub_bigall_basicSqrThreshold), ("pub-doubloon/pub/bigall.karatsubaSqrThreshold", laid_pub_doubloon_pub_bigall_karatsubaSqrThreshold)], narrowed := true }
def FnDeciBothUptoSaid : Prop := fnDeciBothUptoRow.holds Tryz.pinned (OpenSpec.upto fnDeciBothSpec)

/-- 'laws.FnDeciErrors', WHERE WHAT IT READS IS OF BULK AT MOST 1048576: true; the input reads as it did. -/
def fnDeciErrorsUptoRow : OpenClaim := { program := "ythnghknmgbimbaagreatdoor", sum := "f2ba3c40dcc07d29a1865289efb0635ecb6c1ad92b3ee41ec73ccca1d22a6128", func := "pub-doubloon/laws.FnDeciErrors", spec := "fnDeciErrors", inPlace := ["math/bits.Add64", "math/bits.Sub64"], unfollowed := true, recurses := true, named := ["pub-doubloon/pub/bigall.basicSqrThreshold", "pub-doubloon/pub/bigall.karatsubaSqrThreshold", "pub-doubloon/pub/bigall.karatsubaThreshold", "pub-doubloon/pub/bigall.divRecursiveThreshold", "math/bits.deBruijn32tab", "math/bits.deBruijn64tab"], apart := false, laid := [("math/bits.deBruijn32tab", laid_math_bits_deBruijn32tab), ("math/bits.deBruijn64tab", laid_math_bits_deBruijn64tab), ("pub-doubloon/pub/bigall.divRecursiveThreshold", laid_pub_doubloon_pub_bigall_divRecursiveThreshold), ("pub-doubloon/pub/bigall.karatsubaThreshold", laid_pub_doubloon_pub_bigall_karatsubaThreshold), ("pub-doubloon/pub/bigall.basicSqrThreshold", laid_pub_doubloon_pub_bigall_basicSqrThreshold), ("pub-doubloon/pub/bigall.karatsubaSqrThreshold", laid_pub_doubloon_pub_bigall_karatsubaSqrThreshold)], narrowed := true }
def FnDeciErrorsUptoSaid : Prop := fnDeciErrorsUptoRow.holds Tryz.pinned (OpenSpec.upto fnDeciErrorsSpec)

/-- 'laws.FnDeciAbout', WHERE WHAT IT READS IS OF BULK AT MOST 1048576: true; the input reads as it did. -/
def fnDeciAboutUptoRow : OpenClaim := { program := "ythnghknmgbimbaagreatdoor", sum := "f2ba3c40dcc07d29a1865289efb0635ecb6c1ad92b3ee41ec73ccca1d22a6128", func := "pub-doubloon/laws.FnDeciAbout", spec := "fnDeciAbout", inPlace := ["math/bits.Add64", "math/bits.Sub64"], unfollowed := true, recurses := true, named := ["pub-doubloon/pub/bigall.basicSqrThreshold", "pub-doubloon/pub/bigall.karatsubaSqrThreshold", "pub-doubloon/pub/bigall.karatsubaThreshold", "pub-doubloon/pub/bigall.divRecursiveThreshold", "math/bits.deBruijn32tab", "math/bits.deBruijn64tab"], apart := false, laid := [("math/bits.deBruijn32tab", laid_math_bits_deBruijn32tab), ("math/bits.deBruijn64tab", laid_math_bits_deBruijn64tab), ("pub-doubloon/pub/bigall.divRecursiveThreshold", laid_pub_doubloon_pub_bigall_divRecursiveThreshold), ("pub-doubloon/pub/bigall.karatsubaThreshold", laid_pub_doubloon_pub_bigall_karatsubaThreshold), ("pub-doubloon/pub/bigall.basicSqrThreshold", laid_pub_doubloon_pub_bigall_basicSqrThreshold), ("pub-doubloon/pub/bigall.karatsubaSqrThreshold", laid_pub_doubloon_pub_bigall_karatsubaSqrThreshold)], narrowed := true }
def FnDeciAboutUptoSaid : Prop := fnDeciAboutUptoRow.holds Tryz.pinned (OpenSpec.upto fnDeciAboutSpec)

/-- 'laws.FnDeciTimes', WHERE WHAT IT READS IS OF BULK AT MOST 1048576: true; the input reads as it did. -/
def fnDeciTimesUptoRow : OpenClaim := { program := "ythnghknmgbimbaagreatdoor", sum := "f2ba3c40dcc07d29a1865289efb0635ecb6c1ad92b3ee41ec73ccca1d22a6128", func := "pub-doubloon/laws.FnDeciTimes", spec := "fnDeciTimes", inPlace := ["math/bits.Add64", "math/bits.Sub64"], unfollowed := true, recurses := true, named := ["pub-doubloon/pub/bigall.basicSqrThreshold", "pub-doubloon/pub/bigall.karatsubaSqrThreshold", "pub-doubloon/pub/bigall.karatsubaThreshold", "pub-doubloon/pub/bigall.divRecursiveThreshold", "math/bits.deBruijn32tab", "math/bits.deBruijn64tab"], apart := false, laid := [("math/bits.deBruijn32tab", laid_math_bits_deBruijn32tab), ("math/bits.deBruijn64tab", laid_math_bits_deBruijn64tab), ("pub-doubloon/pub/bigall.divRecursiveThreshold", laid_pub_doubloon_pub_bigall_divRecursiveThreshold), ("pub-doubloon/pub/bigall.karatsubaThreshold", laid_pub_doubloon_pub_bigall_karatsubaThreshold), ("pub-doubloon/pub/bigall.basicSqrThreshold", laid_pub_doubloon_pub_bigall_basicSqrThreshold), ("pub-doubloon/pub/bigall.karatsubaSqrThreshold", laid_pub_doubloon_pub_bigall_karatsubaSqrThreshold)], narrowed := true }
def FnDeciTimesUptoSaid : Prop := fnDeciTimesUptoRow.holds Tryz.pinned (OpenSpec.upto fnDeciTimesSpec)

/-- 'laws.FnDeciOver', WHERE WHAT IT READS IS OF BULK AT MOST 1048576: true; the input reads as it did. -/
def fnDeciOverUptoRow : OpenClaim := { program := "ythnghknmgbimbaagreatdoor", sum := "f2ba3c40dcc07d29a1865289efb0635ecb6c1ad92b3ee41ec73ccca1d22a6128", func := "pub-doubloon/laws.FnDeciOver", spec := "fnDeciOver", inPlace := ["math/bits.Add64", "math/bits.Sub64"], unfollowed := true, recurses := true, named := ["pub-doubloon/pub/bigall.basicSqrThreshold", "pub-doubloon/pub/bigall.karatsubaSqrThreshold", "pub-doubloon/pub/bigall.karatsubaThreshold", "pub-doubloon/pub/bigall.divRecursiveThreshold", "math/bits.deBruijn32tab", "math/bits.deBruijn64tab"], apart := false, laid := [("math/bits.deBruijn32tab", laid_math_bits_deBruijn32tab), ("math/bits.deBruijn64tab", laid_math_bits_deBruijn64tab), ("pub-doubloon/pub/bigall.divRecursiveThreshold", laid_pub_doubloon_pub_bigall_divRecursiveThreshold), ("pub-doubloon/pub/bigall.karatsubaThreshold", laid_pub_doubloon_pub_bigall_karatsubaThreshold), ("pub-doubloon/pub/bigall.basicSqrThreshold", laid_pub_doubloon_pub_bigall_basicSqrThreshold), ("pub-doubloon/pub/bigall.karatsubaSqrThreshold", laid_pub_doubloon_pub_bigall_karatsubaSqrThreshold)], narrowed := true }
def FnDeciOverUptoSaid : Prop := fnDeciOverUptoRow.holds Tryz.pinned (OpenSpec.upto fnDeciOverSpec)

/-- 'laws.FnDeciEqual', WHERE WHAT IT READS IS OF BULK AT MOST 1048576: true; the input reads as it did. -/
def fnDeciEqualUptoRow : OpenClaim := { program := "ythnghknmgbimbaagreatdoor", sum := "f2ba3c40dcc07d29a1865289efb0635ecb6c1ad92b3ee41ec73ccca1d22a6128", func := "pub-doubloon/laws.FnDeciEqual", spec := "fnDeciEqual", inPlace := ["math/bits.Add64", "math/bits.Sub64"], unfollowed := true, recurses := true, named := ["pub-doubloon/pub/bigall.basicSqrThreshold", "pub-doubloon/pub/bigall.karatsubaSqrThreshold", "pub-doubloon/pub/bigall.karatsubaThreshold", "pub-doubloon/pub/bigall.divRecursiveThreshold", "math/bits.deBruijn32tab", "math/bits.deBruijn64tab"], apart := false, laid := [("math/bits.deBruijn32tab", laid_math_bits_deBruijn32tab), ("math/bits.deBruijn64tab", laid_math_bits_deBruijn64tab), ("pub-doubloon/pub/bigall.divRecursiveThreshold", laid_pub_doubloon_pub_bigall_divRecursiveThreshold), ("pub-doubloon/pub/bigall.karatsubaThreshold", laid_pub_doubloon_pub_bigall_karatsubaThreshold), ("pub-doubloon/pub/bigall.basicSqrThreshold", laid_pub_doubloon_pub_bigall_basicSqrThreshold), ("pub-doubloon/pub/bigall.karatsubaSqrThreshold", laid_pub_doubloon_pub_bigall_karatsubaSqrThreshold)], narrowed := true }
def FnDeciEqualUptoSaid : Prop := fnDeciEqualUptoRow.holds Tryz.pinned (OpenSpec.upto fnDeciEqualSpec)

/-- 'laws.FnDeciNew', WHERE WHAT IT READS IS OF BULK AT MOST 1048576: true; the input reads as it did. -/
def fnDeciNewUptoRow : OpenClaim := { program := "ythnghknmgbimbaagreatdoor", sum := "f2ba3c40dcc07d29a1865289efb0635ecb6c1ad92b3ee41ec73ccca1d22a6128", func := "pub-doubloon/laws.FnDeciNew", spec := "fnDeciNew", inPlace := ["math/bits.Add64", "math/bits.Sub64"], unfollowed := true, recurses := true, named := ["pub-doubloon/pub/bigall.basicSqrThreshold", "pub-doubloon/pub/bigall.karatsubaSqrThreshold", "pub-doubloon/pub/bigall.karatsubaThreshold", "pub-doubloon/pub/bigall.divRecursiveThreshold", "math/bits.deBruijn32tab", "math/bits.deBruijn64tab"], apart := false, laid := [("math/bits.deBruijn32tab", laid_math_bits_deBruijn32tab), ("math/bits.deBruijn64tab", laid_math_bits_deBruijn64tab), ("pub-doubloon/pub/bigall.divRecursiveThreshold", laid_pub_doubloon_pub_bigall_divRecursiveThreshold), ("pub-doubloon/pub/bigall.karatsubaThreshold", laid_pub_doubloon_pub_bigall_karatsubaThreshold), ("pub-doubloon/pub/bigall.basicSqrThreshold", laid_pub_doubloon_pub_bigall_basicSqrThreshold), ("pub-doubloon/pub/bigall.karatsubaSqrThreshold", laid_pub_doubloon_pub_bigall_karatsubaSqrThreshold)], narrowed := true }
def FnDeciNewUptoSaid : Prop := fnDeciNewUptoRow.holds Tryz.pinned (OpenSpec.upto fnDeciNewSpec)

/-- 'laws.FnDeciFrom', WHERE WHAT IT READS IS OF BULK AT MOST 1048576: true; the input reads as it did. -/
def fnDeciFromUptoRow : OpenClaim := { program := "ythnghknmgbimbaagreatdoor", sum := "f2ba3c40dcc07d29a1865289efb0635ecb6c1ad92b3ee41ec73ccca1d22a6128", func := "pub-doubloon/laws.FnDeciFrom", spec := "fnDeciFrom", inPlace := ["math/bits.Add64", "math/bits.Sub64"], unfollowed := true, recurses := true, named := ["pub-doubloon/pub/bigall.basicSqrThreshold", "pub-doubloon/pub/bigall.karatsubaSqrThreshold", "pub-doubloon/pub/bigall.karatsubaThreshold", "pub-doubloon/pub/bigall.divRecursiveThreshold", "math/bits.deBruijn32tab", "math/bits.deBruijn64tab"], apart := false, laid := [("math/bits.deBruijn32tab", laid_math_bits_deBruijn32tab), ("math/bits.deBruijn64tab", laid_math_bits_deBruijn64tab), ("pub-doubloon/pub/bigall.divRecursiveThreshold", laid_pub_doubloon_pub_bigall_divRecursiveThreshold), ("pub-doubloon/pub/bigall.karatsubaThreshold", laid_pub_doubloon_pub_bigall_karatsubaThreshold), ("pub-doubloon/pub/bigall.basicSqrThreshold", laid_pub_doubloon_pub_bigall_basicSqrThreshold), ("pub-doubloon/pub/bigall.karatsubaSqrThreshold", laid_pub_doubloon_pub_bigall_karatsubaSqrThreshold)], narrowed := true }
def FnDeciFromUptoSaid : Prop := fnDeciFromUptoRow.holds Tryz.pinned (OpenSpec.upto fnDeciFromSpec)

/-- 'laws.FnDeciThereBack', WHERE WHAT IT READS IS OF BULK AT MOST 1048576: true; the input reads as it did. -/
def fnDeciThereBackUptoRow : OpenClaim := { program := "ythnghknmgbimbaagreatdoor", sum := "f2ba3c40dcc07d29a1865289efb0635ecb6c1ad92b3ee41ec73ccca1d22a6128", func := "pub-doubloon/laws.FnDeciThereBack", spec := "fnDeciThereBack", inPlace := ["math/bits.Add64", "math/bits.Sub64"], unfollowed := true, recurses := true, named := ["pub-doubloon/pub/bigall.basicSqrThreshold", "pub-doubloon/pub/bigall.karatsubaSqrThreshold", "pub-doubloon/pub/bigall.karatsubaThreshold", "pub-doubloon/pub/bigall.divRecursiveThreshold", "math/bits.deBruijn32tab", "math/bits.deBruijn64tab"], apart := false, laid := [("math/bits.deBruijn32tab", laid_math_bits_deBruijn32tab), ("math/bits.deBruijn64tab", laid_math_bits_deBruijn64tab), ("pub-doubloon/pub/bigall.divRecursiveThreshold", laid_pub_doubloon_pub_bigall_divRecursiveThreshold), ("pub-doubloon/pub/bigall.karatsubaThreshold", laid_pub_doubloon_pub_bigall_karatsubaThreshold), ("pub-doubloon/pub/bigall.basicSqrThreshold", laid_pub_doubloon_pub_bigall_basicSqrThreshold), ("pub-doubloon/pub/bigall.karatsubaSqrThreshold", laid_pub_doubloon_pub_bigall_karatsubaSqrThreshold)], narrowed := true }
def FnDeciThereBackUptoSaid : Prop := fnDeciThereBackUptoRow.holds Tryz.pinned (OpenSpec.upto fnDeciThereBackSpec)

end Rows
end Go.Proofs.YthnghknmgbimbaaGreatDoor
