/-
  NARROWER THAN 'FOR EVERY INPUT', by the rows' own cells (each row's printed sentence says how): FnDeciTimes: laid · FnDeciOver: laid · FnDeciNew: laid · FnDeciFrom: laid · FnDeciThereBack: laid · FnDeciTruncate: laid · FnDeciParted: laid.
  DERIVED. THE GIVEN ROWS OF THIS SEAT. 7 by the template 'for every input the law returns true; each argument reads behind the call as it read before'; 0 by the template 'total and deterministic' (their statements: YtfocejhcdcnnhaaGreatDoorTotals.lean).
  GIVEN WITH THE SEED: the statements are not yours to turn. If you find one false, say at which input.
  Laid BY PROGRAM, IN A SANDBOX (cutbox-rows.mjs): the forced cells as the released guide's own fill.sh prints them over the translation 4af060fa113ef50d… (all of the seat's roots in one cut). By AI agents, Wed Nov 11 2026. No macro, syntax, notation, axiom, sorry.
-/
import Derived.Test.YtfocejhcdcnnhaaGreatDoorChecked
import GoSem.Claim
import GoSem.ClaimJoined
import GoSem.ClaimMapViews
import Derived.JoinedTies
import Derived.KernelRfl
namespace Go.Proofs.YtfocejhcdcnnhaaGreatDoor
/- THE CELL 'sum', in the pinned program and in every row, IS THE sha256 OF THE DUMP (.gsa) THAT YtfocejhcdcnnhaaGreatDoorProg.lean LOADS. Nothing in Lean hashes anything: it is a label: what it is worth is what the hold of that sum in a sandbox is worth. -/
noncomputable def Tryz.pinned : Pinned := { name := "ytfocejhcdcnnhaagreatdoor", sum := "4af060fa113ef50dc0c208da19ab43a84e3fcc7ba758862e890388e557796c41", checked := Tryz.checked }
namespace Rows
def none {H : Type} : Left H := { results := [], args := [] }

/- WHAT THE LISTED PACKAGE-LEVEL VARIABLES READ AS WHEN THE CALL BEGINS. Each datum BY PROGRAM (the guide's laid-datum.mjs) off the statement by which the dump's own 'gosem.cut.vars' lays the variable. In a bare row this is a premise. The card (YtfocejhcdcnnhaaGreatDoorCards.lean) ties it to the program's text. -/
def laid_math_bits_deBruijn32tab {H : Type} : DataW H := .agg [.lit (.int .u8 0), .lit (.int .u8 1), .lit (.int .u8 28), .lit (.int .u8 2), .lit (.int .u8 29), .lit (.int .u8 14), .lit (.int .u8 24), .lit (.int .u8 3), .lit (.int .u8 30), .lit (.int .u8 22), .lit (.int .u8 20), .lit (.int .u8 15), .lit (.int .u8 25), .lit (.int .u8 17), .lit (.int .u8 4), .lit (.int .u8 8), .lit (.int .u8 31), .lit (.int .u8 27), .lit (.int .u8 13), .lit (.int .u8 23), .lit (.int .u8 21), .lit (.int .u8 19), .lit (.int .u8 16), .lit (.int .u8 7), .lit (.int .u8 26), .lit (.int .u8 12), .lit (.int .u8 18), .lit (.int .u8 6), .lit (.int .u8 11), .lit (.int .u8 5), .lit (.int .u8 10), .lit (.int .u8 9)]
def laid_math_bits_deBruijn64tab {H : Type} : DataW H := .agg [.lit (.int .u8 0), .lit (.int .u8 1), .lit (.int .u8 56), .lit (.int .u8 2), .lit (.int .u8 57), .lit (.int .u8 49), .lit (.int .u8 28), .lit (.int .u8 3), .lit (.int .u8 61), .lit (.int .u8 58), .lit (.int .u8 42), .lit (.int .u8 50), .lit (.int .u8 38), .lit (.int .u8 29), .lit (.int .u8 17), .lit (.int .u8 4), .lit (.int .u8 62), .lit (.int .u8 47), .lit (.int .u8 59), .lit (.int .u8 36), .lit (.int .u8 45), .lit (.int .u8 43), .lit (.int .u8 51), .lit (.int .u8 22), .lit (.int .u8 53), .lit (.int .u8 39), .lit (.int .u8 33), .lit (.int .u8 30), .lit (.int .u8 24), .lit (.int .u8 18), .lit (.int .u8 12), .lit (.int .u8 5), .lit (.int .u8 63), .lit (.int .u8 55), .lit (.int .u8 48), .lit (.int .u8 27), .lit (.int .u8 60), .lit (.int .u8 41), .lit (.int .u8 37), .lit (.int .u8 16), .lit (.int .u8 46), .lit (.int .u8 35), .lit (.int .u8 44), .lit (.int .u8 21), .lit (.int .u8 52), .lit (.int .u8 32), .lit (.int .u8 23), .lit (.int .u8 11), .lit (.int .u8 54), .lit (.int .u8 26), .lit (.int .u8 40), .lit (.int .u8 15), .lit (.int .u8 34), .lit (.int .u8 20), .lit (.int .u8 31), .lit (.int .u8 10), .lit (.int .u8 25), .lit (.int .u8 14), .lit (.int .u8 19), .lit (.int .u8 9), .lit (.int .u8 13), .lit (.int .u8 8), .lit (.int .u8 7), .lit (.int .u8 6)]
def laid_pub_doubloon_pub_bigall_divRecursiveThreshold {H : Type} : DataW H := .lit (.int .i64 40)
def laid_pub_doubloon_pub_bigall_karatsubaThreshold {H : Type} : DataW H := .lit (.int .i64 40)
def laid_pub_doubloon_pub_bigall_basicSqrThreshold {H : Type} : DataW H := .lit (.int .i64 12)
def laid_pub_doubloon_pub_bigall_karatsubaSqrThreshold {H : Type} : DataW H := .lit (.int .i64 80)
def laid_pub_doubloon_pub_cosmosmath_ErrIntOverflow {H : Type} : DataW H := .iface "*errors.errorString" (.ptr (.agg [.lit (.string [105, 110, 116, 101, 103, 101, 114, 32, 111, 118, 101, 114, 102, 108, 111, 119])]))

/-- 'laws.FnDeciTimes': WHATEVER THE INPUT: true; the input reads as it did. -/
def fnDeciTimesSpec : ChangeSpec := { name := "fnDeciTimes", fn := fun _ => fun
  | [d1, d2, d3] => { results := [.lit (.bool true)], args := [d1, d2, d3] }
  | _ => none }
def fnDeciTimesRow : OpenClaim := { program := "ytfocejhcdcnnhaagreatdoor", sum := "4af060fa113ef50dc0c208da19ab43a84e3fcc7ba758862e890388e557796c41", func := "pub-doubloon/laws.FnDeciTimes", spec := "fnDeciTimes", inPlace := ["math/bits.Add64", "math/bits.Sub64"], unfollowed := true, recurses := true, named := ["pub-doubloon/pub/bigall.basicSqrThreshold", "pub-doubloon/pub/bigall.karatsubaSqrThreshold", "pub-doubloon/pub/bigall.karatsubaThreshold", "pub-doubloon/pub/bigall.divRecursiveThreshold", "math/bits.deBruijn32tab", "math/bits.deBruijn64tab"], apart := false, laid := [("math/bits.deBruijn32tab", laid_math_bits_deBruijn32tab), ("math/bits.deBruijn64tab", laid_math_bits_deBruijn64tab), ("pub-doubloon/pub/bigall.divRecursiveThreshold", laid_pub_doubloon_pub_bigall_divRecursiveThreshold), ("pub-doubloon/pub/bigall.karatsubaThreshold", laid_pub_doubloon_pub_bigall_karatsubaThreshold), ("pub-doubloon/pub/bigall.basicSqrThreshold", laid_pub_doubloon_pub_bigall_basicSqrThreshold), ("pub-doubloon/pub/bigall.karatsubaSqrThreshold", laid_pub_doubloon_pub_bigall_karatsubaSqrThreshold)] }
def FnDeciTimesSaid : Prop := fnDeciTimesRow.holds Tryz.pinned (OpenSpec.ofChange fnDeciTimesSpec)

/-- ITS FALSE NEIGHBOUR: 'it returns false'. Refute it at one input. -/
def fnDeciTimesWrong : ChangeSpec := { name := "fnDeciTimes", fn := fun _ => fun
  | [d1, d2, d3] => { results := [.lit (.bool false)], args := [d1, d2, d3] }
  | _ => none }
def FnDeciTimesWrongFalsely : Prop := fnDeciTimesRow.holds Tryz.pinned (OpenSpec.ofChange fnDeciTimesWrong)

/-- 'laws.FnDeciOver': WHATEVER THE INPUT: true; the input reads as it did. -/
def fnDeciOverSpec : ChangeSpec := { name := "fnDeciOver", fn := fun _ => fun
  | [d1, d2, d3] => { results := [.lit (.bool true)], args := [d1, d2, d3] }
  | _ => none }
def fnDeciOverRow : OpenClaim := { program := "ytfocejhcdcnnhaagreatdoor", sum := "4af060fa113ef50dc0c208da19ab43a84e3fcc7ba758862e890388e557796c41", func := "pub-doubloon/laws.FnDeciOver", spec := "fnDeciOver", inPlace := ["math/bits.Add64", "math/bits.Sub64"], unfollowed := true, recurses := true, named := ["pub-doubloon/pub/bigall.basicSqrThreshold", "pub-doubloon/pub/bigall.karatsubaSqrThreshold", "pub-doubloon/pub/bigall.karatsubaThreshold", "pub-doubloon/pub/bigall.divRecursiveThreshold", "math/bits.deBruijn32tab", "math/bits.deBruijn64tab"], apart := false, laid := [("math/bits.deBruijn32tab", laid_math_bits_deBruijn32tab), ("math/bits.deBruijn64tab", laid_math_bits_deBruijn64tab), ("pub-doubloon/pub/bigall.divRecursiveThreshold", laid_pub_doubloon_pub_bigall_divRecursiveThreshold), ("pub-doubloon/pub/bigall.karatsubaThreshold", laid_pub_doubloon_pub_bigall_karatsubaThreshold), ("pub-doubloon/pub/bigall.basicSqrThreshold", laid_pub_doubloon_pub_bigall_basicSqrThreshold), ("pub-doubloon/pub/bigall.karatsubaSqrThreshold", laid_pub_doubloon_pub_bigall_karatsubaSqrThreshold)] }
def FnDeciOverSaid : Prop := fnDeciOverRow.holds Tryz.pinned (OpenSpec.ofChange fnDeciOverSpec)

/-- ITS FALSE NEIGHBOUR: 'it returns false'. Refute it at one input. -/
def fnDeciOverWrong : ChangeSpec := { name := "fnDeciOver", fn := fun _ => fun
  | [d1, d2, d3] => { results := [.lit (.bool false)], args := [d1, d2, d3] }
  | _ => none }
def FnDeciOverWrongFalsely : Prop := fnDeciOverRow.holds Tryz.pinned (OpenSpec.ofChange fnDeciOverWrong)

/-- 'laws.FnDeciNew': WHATEVER THE INPUT: true; the input reads as it did. -/
def fnDeciNewSpec : ChangeSpec := { name := "fnDeciNew", fn := fun _ => fun
  | [d] => { results := [.lit (.bool true)], args := [d] }
  | _ => none }
def fnDeciNewRow : OpenClaim := { program := "ytfocejhcdcnnhaagreatdoor", sum := "4af060fa113ef50dc0c208da19ab43a84e3fcc7ba758862e890388e557796c41", func := "pub-doubloon/laws.FnDeciNew", spec := "fnDeciNew", inPlace := ["math/bits.Add64", "math/bits.Sub64"], unfollowed := true, recurses := true, named := ["pub-doubloon/pub/bigall.basicSqrThreshold", "pub-doubloon/pub/bigall.karatsubaSqrThreshold", "pub-doubloon/pub/bigall.karatsubaThreshold", "pub-doubloon/pub/bigall.divRecursiveThreshold", "math/bits.deBruijn32tab", "math/bits.deBruijn64tab"], apart := false, laid := [("math/bits.deBruijn32tab", laid_math_bits_deBruijn32tab), ("math/bits.deBruijn64tab", laid_math_bits_deBruijn64tab), ("pub-doubloon/pub/bigall.divRecursiveThreshold", laid_pub_doubloon_pub_bigall_divRecursiveThreshold), ("pub-doubloon/pub/bigall.karatsubaThreshold", laid_pub_doubloon_pub_bigall_karatsubaThreshold), ("pub-doubloon/pub/bigall.basicSqrThreshold", laid_pub_doubloon_pub_bigall_basicSqrThreshold), ("pub-doubloon/pub/bigall.karatsubaSqrThreshold", laid_pub_doubloon_pub_bigall_karatsubaSqrThreshold)] }
def FnDeciNewSaid : Prop := fnDeciNewRow.holds Tryz.pinned (OpenSpec.ofChange fnDeciNewSpec)

/-- ITS FALSE NEIGHBOUR: 'it returns false'. Refute it at one input. -/
def fnDeciNewWrong : ChangeSpec := { name := "fnDeciNew", fn := fun _ => fun
  | [d] => { results := [.lit (.bool false)], args := [d] }
  | _ => none }
def FnDeciNewWrongFalsely : Prop := fnDeciNewRow.holds Tryz.pinned (OpenSpec.ofChange fnDeciNewWrong)

/-- 'laws.FnDeciFrom': WHATEVER THE INPUT: true; the input reads as it did. -/
def fnDeciFromSpec : ChangeSpec := { name := "fnDeciFrom", fn := fun _ => fun
  | [d] => { results := [.lit (.bool true)], args := [d] }
  | _ => none }
def fnDeciFromRow : OpenClaim := { program := "ytfocejhcdcnnhaagreatdoor", sum := "4af060fa113ef50dc0c208da19ab43a84e3fcc7ba758862e890388e557796c41", func := "pub-doubloon/laws.FnDeciFrom", spec := "fnDeciFrom", inPlace := ["math/bits.Add64", "math/bits.Sub64"], unfollowed := true, recurses := true, named := ["pub-doubloon/pub/bigall.basicSqrThreshold", "pub-doubloon/pub/bigall.karatsubaSqrThreshold", "pub-doubloon/pub/bigall.karatsubaThreshold", "pub-doubloon/pub/bigall.divRecursiveThreshold", "math/bits.deBruijn32tab", "math/bits.deBruijn64tab"], apart := false, laid := [("math/bits.deBruijn32tab", laid_math_bits_deBruijn32tab), ("math/bits.deBruijn64tab", laid_math_bits_deBruijn64tab), ("pub-doubloon/pub/bigall.divRecursiveThreshold", laid_pub_doubloon_pub_bigall_divRecursiveThreshold), ("pub-doubloon/pub/bigall.karatsubaThreshold", laid_pub_doubloon_pub_bigall_karatsubaThreshold), ("pub-doubloon/pub/bigall.basicSqrThreshold", laid_pub_doubloon_pub_bigall_basicSqrThreshold), ("pub-doubloon/pub/bigall.karatsubaSqrThreshold", laid_pub_doubloon_pub_bigall_karatsubaSqrThreshold)] }
def FnDeciFromSaid : Prop := fnDeciFromRow.holds Tryz.pinned (OpenSpec.ofChange fnDeciFromSpec)

/-- ITS FALSE NEIGHBOUR: 'it returns false'. Refute it at one input. -/
def fnDeciFromWrong : ChangeSpec := { name := "fnDeciFrom", fn := fun _ => fun
  | [d] => { results := [.lit (.bool false)], args := [d] }
  | _ => none }
def FnDeciFromWrongFalsely : Prop := fnDeciFromRow.holds Tryz.pinned (OpenSpec.ofChange fnDeciFromWrong)

/-- 'laws.FnDeciThereBack': WHATEVER THE INPUT: true; the input reads as it did. -/
def fnDeciThereBackSpec : ChangeSpec := { name := "fnDeciThereBack", fn := fun _ => fun
  | [d1, d2] => { results := [.lit (.bool true)], args := [d1, d2] }
  | _ => none }
def fnDeciThereBackRow : OpenClaim := { program := "ytfocejhcdcnnhaagreatdoor", sum := "4af060fa113ef50dc0c208da19ab43a84e3fcc7ba758862e890388e557796c41", func := "pub-doubloon/laws.FnDeciThereBack", spec := "fnDeciThereBack", inPlace := ["math/bits.Add64", "math/bits.Sub64"], unfollowed := true, recurses := true, named := ["pub-doubloon/pub/bigall.basicSqrThreshold", "pub-doubloon/pub/bigall.karatsubaSqrThreshold", "pub-doubloon/pub/bigall.karatsubaThreshold", "pub-doubloon/pub/bigall.divRecursiveThreshold", "math/bits.deBruijn32tab", "math/bits.deBruijn64tab"], apart := false, laid := [("math/bits.deBruijn32tab", laid_math_bits_deBruijn32tab), ("math/bits.deBruijn64tab", laid_math_bits_deBruijn64tab), ("pub-doubloon/pub/bigall.divRecursiveThreshold", laid_pub_doubloon_pub_bigall_divRecursiveThreshold), ("pub-doubloon/pub/bigall.karatsubaThreshold", laid_pub_doubloon_pub_bigall_karatsubaThreshold), ("pub-doubloon/pub/bigall.basicSqrThreshold", laid_pub_doubloon_pub_bigall_basicSqrThreshold), ("pub-doubloon/pub/bigall.karatsubaSqrThreshold", laid_pub_doubloon_pub_bigall_karatsubaSqrThreshold)] }
def FnDeciThereBackSaid : Prop := fnDeciThereBackRow.holds Tryz.pinned (OpenSpec.ofChange fnDeciThereBackSpec)

/-- ITS FALSE NEIGHBOUR: 'it returns false'. Refute it at one input. -/
def fnDeciThereBackWrong : ChangeSpec := { name := "fnDeciThereBack", fn := fun _ => fun
  | [d1, d2] => { results := [.lit (.bool false)], args := [d1, d2] }
  | _ => none }
def FnDeciThereBackWrongFalsely : Prop := fnDeciThereBackRow.holds Tryz.pinned (OpenSpec.ofChange fnDeciThereBackWrong)

/-- 'laws.FnDeciTruncate': WHATEVER THE INPUT: true; the input reads as it did. -/
def fnDeciTruncateSpec : ChangeSpec := { name := "fnDeciTruncate", fn := fun _ => fun
  | [d] => { results := [.lit (.bool true)], args := [d] }
  | _ => none }
def fnDeciTruncateRow : OpenClaim := { program := "ytfocejhcdcnnhaagreatdoor", sum := "4af060fa113ef50dc0c208da19ab43a84e3fcc7ba758862e890388e557796c41", func := "pub-doubloon/laws.FnDeciTruncate", spec := "fnDeciTruncate", inPlace := ["math/bits.Add64", "math/bits.Sub64"], unfollowed := true, recurses := true, named := ["pub-doubloon/pub/bigall.basicSqrThreshold", "pub-doubloon/pub/bigall.karatsubaSqrThreshold", "pub-doubloon/pub/bigall.karatsubaThreshold", "pub-doubloon/pub/bigall.divRecursiveThreshold", "math/bits.deBruijn32tab", "math/bits.deBruijn64tab", "pub-doubloon/pub/cosmosmath.ErrIntOverflow"], apart := false, laid := [("math/bits.deBruijn32tab", laid_math_bits_deBruijn32tab), ("math/bits.deBruijn64tab", laid_math_bits_deBruijn64tab), ("pub-doubloon/pub/bigall.divRecursiveThreshold", laid_pub_doubloon_pub_bigall_divRecursiveThreshold), ("pub-doubloon/pub/bigall.karatsubaThreshold", laid_pub_doubloon_pub_bigall_karatsubaThreshold), ("pub-doubloon/pub/bigall.basicSqrThreshold", laid_pub_doubloon_pub_bigall_basicSqrThreshold), ("pub-doubloon/pub/bigall.karatsubaSqrThreshold", laid_pub_doubloon_pub_bigall_karatsubaSqrThreshold), ("pub-doubloon/pub/cosmosmath.ErrIntOverflow", laid_pub_doubloon_pub_cosmosmath_ErrIntOverflow)] }
def FnDeciTruncateSaid : Prop := fnDeciTruncateRow.holds Tryz.pinned (OpenSpec.ofChange fnDeciTruncateSpec)

/-- ITS FALSE NEIGHBOUR: 'it returns false'. Refute it at one input. -/
def fnDeciTruncateWrong : ChangeSpec := { name := "fnDeciTruncate", fn := fun _ => fun
  | [d] => { results := [.lit (.bool false)], args := [d] }
  | _ => none }
def FnDeciTruncateWrongFalsely : Prop := fnDeciTruncateRow.holds Tryz.pinned (OpenSpec.ofChange fnDeciTruncateWrong)

/-- 'laws.FnDeciParted': WHATEVER THE INPUT: true; the input reads as it did. -/
def fnDeciPartedSpec : ChangeSpec := { name := "fnDeciParted", fn := fun _ => fun
  | [d] => { results := [.lit (.bool true)], args := [d] }
  | _ => none }
def fnDeciPartedRow : OpenClaim := { program := "ytfocejhcdcnnhaagreatdoor", sum := "4af060fa113ef50dc0c208da19ab43a84e3fcc7ba758862e890388e557796c41", func := "pub-doubloon/laws.FnDeciParted", spec := "fnDeciParted", inPlace := ["math/bits.Add64", "math/bits.Sub64"], unfollowed := true, recurses := true, named := ["pub-doubloon/pub/bigall.basicSqrThreshold", "pub-doubloon/pub/bigall.karatsubaSqrThreshold", "pub-doubloon/pub/bigall.karatsubaThreshold", "pub-doubloon/pub/bigall.divRecursiveThreshold", "math/bits.deBruijn32tab", "math/bits.deBruijn64tab", "pub-doubloon/pub/cosmosmath.ErrIntOverflow"], apart := false, laid := [("math/bits.deBruijn32tab", laid_math_bits_deBruijn32tab), ("math/bits.deBruijn64tab", laid_math_bits_deBruijn64tab), ("pub-doubloon/pub/bigall.divRecursiveThreshold", laid_pub_doubloon_pub_bigall_divRecursiveThreshold), ("pub-doubloon/pub/bigall.karatsubaThreshold", laid_pub_doubloon_pub_bigall_karatsubaThreshold), ("pub-doubloon/pub/bigall.basicSqrThreshold", laid_pub_doubloon_pub_bigall_basicSqrThreshold), ("pub-doubloon/pub/bigall.karatsubaSqrThreshold", laid_pub_doubloon_pub_bigall_karatsubaSqrThreshold), ("pub-doubloon/pub/cosmosmath.ErrIntOverflow", laid_pub_doubloon_pub_cosmosmath_ErrIntOverflow)] }
def FnDeciPartedSaid : Prop := fnDeciPartedRow.holds Tryz.pinned (OpenSpec.ofChange fnDeciPartedSpec)

/-- ITS FALSE NEIGHBOUR: 'it returns false'. Refute it at one input. -/
def fnDeciPartedWrong : ChangeSpec := { name := "fnDeciParted", fn := fun _ => fun
  | [d] => { results := [.lit (.bool false)], args := [d] }
  | _ => none }
def FnDeciPartedWrongFalsely : Prop := fnDeciPartedRow.holds Tryz.pinned (OpenSpec.ofChange fnDeciPartedWrong)

/- THE SECOND FORM. 'bulk': how many values and letters a reading holds, each counted each time it is reached (what is shared counts as often as it is met; a slice's spare places count too). A statement '..UptoSaid' is the law's where the arguments, and the package variables that the reading takes, are together of bulk at most 1048576: NARROWER than '..Said'. Prove '..Said' where nothing that the law and all that it calls make is longer than what came in: it says more and counts as full. Else prove '..UptoSaid'. A law counts once. -/
mutual
def uptoBulk {H : Type} : DataW H → Nat
  | .lit (.string bytes) => bytes.length + 1
  | .lit _ => 1
  | .nil => 1
  | .ptr d => uptoBulk d + 1
  | .slice elems spare => uptoBulkAll elems + uptoBulkAll spare + 1
  | .agg parts => uptoBulkAll parts + 1
  | .iface _ d => uptoBulk d + 1
  | .map entries => uptoBulkEntries entries + 1
  | .held _ => 1
def uptoBulkAll {H : Type} : List (DataW H) → Nat
  | [] => 0
  | d :: r => uptoBulk d + uptoBulkAll r
def uptoBulkEntries {H : Type} : List (Lit × DataW H) → Nat
  | [] => 0
  | x :: r => uptoBulkEntry x + uptoBulkEntries r
def uptoBulkEntry {H : Type} : Lit × DataW H → Nat
  | (.string bytes, d) => bytes.length + uptoBulk d + 1
  | (_, d) => uptoBulk d + 1
 end
def uptoSmall : (H : Type) → List (DataW H) → Bool := fun _ ds => decide (uptoBulkAll ds ≤ 1048576)
def OpenSpec.upto (s : _root_.Go.ChangeSpec) : _root_.Go.OpenSpec := { _root_.Go.OpenSpec.ofChange s with cond := some uptoSmall }

/-- 'laws.FnDeciTimes', WHERE WHAT IT READS IS OF BULK AT MOST 1048576: true; the input reads as it did. -/
def fnDeciTimesUptoRow : OpenClaim := { program := "ytfocejhcdcnnhaagreatdoor", sum := "4af060fa113ef50dc0c208da19ab43a84e3fcc7ba758862e890388e557796c41", func := "pub-doubloon/laws.FnDeciTimes", spec := "fnDeciTimes", inPlace := ["math/bits.Add64", "math/bits.Sub64"], unfollowed := true, recurses := true, named := ["pub-doubloon/pub/bigall.basicSqrThreshold", "pub-doubloon/pub/bigall.karatsubaSqrThreshold", "pub-doubloon/pub/bigall.karatsubaThreshold", "pub-doubloon/pub/bigall.divRecursiveThreshold", "math/bits.deBruijn32tab", "math/bits.deBruijn64tab"], apart := false, laid := [("math/bits.deBruijn32tab", laid_math_bits_deBruijn32tab), ("math/bits.deBruijn64tab", laid_math_bits_deBruijn64tab), ("pub-doubloon/pub/bigall.divRecursiveThreshold", laid_pub_doubloon_pub_bigall_divRecursiveThreshold), ("pub-doubloon/pub/bigall.karatsubaThreshold", laid_pub_doubloon_pub_bigall_karatsubaThreshold), ("pub-doubloon/pub/bigall.basicSqrThreshold", laid_pub_doubloon_pub_bigall_basicSqrThreshold), ("pub-doubloon/pub/bigall.karatsubaSqrThreshold", laid_pub_doubloon_pub_bigall_karatsubaSqrThreshold)], narrowed := true }
def FnDeciTimesUptoSaid : Prop := fnDeciTimesUptoRow.holds Tryz.pinned (OpenSpec.upto fnDeciTimesSpec)

/-- 'laws.FnDeciOver', WHERE WHAT IT READS IS OF BULK AT MOST 1048576: true; the input reads as it did. -/
def fnDeciOverUptoRow : OpenClaim := { program := "ytfocejhcdcnnhaagreatdoor", sum := "4af060fa113ef50dc0c208da19ab43a84e3fcc7ba758862e890388e557796c41", func := "pub-doubloon/laws.FnDeciOver", spec := "fnDeciOver", inPlace := ["math/bits.Add64", "math/bits.Sub64"], unfollowed := true, recurses := true, named := ["pub-doubloon/pub/bigall.basicSqrThreshold", "pub-doubloon/pub/bigall.karatsubaSqrThreshold", "pub-doubloon/pub/bigall.karatsubaThreshold", "pub-doubloon/pub/bigall.divRecursiveThreshold", "math/bits.deBruijn32tab", "math/bits.deBruijn64tab"], apart := false, laid := [("math/bits.deBruijn32tab", laid_math_bits_deBruijn32tab), ("math/bits.deBruijn64tab", laid_math_bits_deBruijn64tab), ("pub-doubloon/pub/bigall.divRecursiveThreshold", laid_pub_doubloon_pub_bigall_divRecursiveThreshold), ("pub-doubloon/pub/bigall.karatsubaThreshold", laid_pub_doubloon_pub_bigall_karatsubaThreshold), ("pub-doubloon/pub/bigall.basicSqrThreshold", laid_pub_doubloon_pub_bigall_basicSqrThreshold), ("pub-doubloon/pub/bigall.karatsubaSqrThreshold", laid_pub_doubloon_pub_bigall_karatsubaSqrThreshold)], narrowed := true }
def FnDeciOverUptoSaid : Prop := fnDeciOverUptoRow.holds Tryz.pinned (OpenSpec.upto fnDeciOverSpec)

/-- 'laws.FnDeciNew', WHERE WHAT IT READS IS OF BULK AT MOST 1048576: true; the input reads as it did. -/
def fnDeciNewUptoRow : OpenClaim := { program := "ytfocejhcdcnnhaagreatdoor", sum := "4af060fa113ef50dc0c208da19ab43a84e3fcc7ba758862e890388e557796c41", func := "pub-doubloon/laws.FnDeciNew", spec := "fnDeciNew", inPlace := ["math/bits.Add64", "math/bits.Sub64"], unfollowed := true, recurses := true, named := ["pub-doubloon/pub/bigall.basicSqrThreshold", "pub-doubloon/pub/bigall.karatsubaSqrThreshold", "pub-doubloon/pub/bigall.karatsubaThreshold", "pub-doubloon/pub/bigall.divRecursiveThreshold", "math/bits.deBruijn32tab", "math/bits.deBruijn64tab"], apart := false, laid := [("math/bits.deBruijn32tab", laid_math_bits_deBruijn32tab), ("math/bits.deBruijn64tab", laid_math_bits_deBruijn64tab), ("pub-doubloon/pub/bigall.divRecursiveThreshold", laid_pub_doubloon_pub_bigall_divRecursiveThreshold), ("pub-doubloon/pub/bigall.karatsubaThreshold", laid_pub_doubloon_pub_bigall_karatsubaThreshold), ("pub-doubloon/pub/bigall.basicSqrThreshold", laid_pub_doubloon_pub_bigall_basicSqrThreshold), ("pub-doubloon/pub/bigall.karatsubaSqrThreshold", laid_pub_doubloon_pub_bigall_karatsubaSqrThreshold)], narrowed := true }
def FnDeciNewUptoSaid : Prop := fnDeciNewUptoRow.holds Tryz.pinned (OpenSpec.upto fnDeciNewSpec)

/-- 'laws.FnDeciFrom', WHERE WHAT IT READS IS OF BULK AT MOST 1048576: true; the input reads as it did. -/
def fnDeciFromUptoRow : OpenClaim := { program := "ytfocejhcdcnnhaagreatdoor", sum := "4af060fa113ef50dc0c208da19ab43a84e3fcc7ba758862e890388e557796c41", func := "pub-doubloon/laws.FnDeciFrom", spec := "fnDeciFrom", inPlace := ["math/bits.Add64", "math/bits.Sub64"], unfollowed := true, recurses := true, named := ["pub-doubloon/pub/bigall.basicSqrThreshold", "pub-doubloon/pub/bigall.karatsubaSqrThreshold", "pub-doubloon/pub/bigall.karatsubaThreshold", "pub-doubloon/pub/bigall.divRecursiveThreshold", "math/bits.deBruijn32tab", "math/bits.deBruijn64tab"], apart := false, laid := [("math/bits.deBruijn32tab", laid_math_bits_deBruijn32tab), ("math/bits.deBruijn64tab", laid_math_bits_deBruijn64tab), ("pub-doubloon/pub/bigall.divRecursiveThreshold", laid_pub_doubloon_pub_bigall_divRecursiveThreshold), ("pub-doubloon/pub/bigall.karatsubaThreshold", laid_pub_doubloon_pub_bigall_karatsubaThreshold), ("pub-doubloon/pub/bigall.basicSqrThreshold", laid_pub_doubloon_pub_bigall_basicSqrThreshold), ("pub-doubloon/pub/bigall.karatsubaSqrThreshold", laid_pub_doubloon_pub_bigall_karatsubaSqrThreshold)], narrowed := true }
def FnDeciFromUptoSaid : Prop := fnDeciFromUptoRow.holds Tryz.pinned (OpenSpec.upto fnDeciFromSpec)

/-- 'laws.FnDeciThereBack', WHERE WHAT IT READS IS OF BULK AT MOST 1048576: true; the input reads as it did. -/
def fnDeciThereBackUptoRow : OpenClaim := { program := "ytfocejhcdcnnhaagreatdoor", sum := "4af060fa113ef50dc0c208da19ab43a84e3fcc7ba758862e890388e557796c41", func := "pub-doubloon/laws.FnDeciThereBack", spec := "fnDeciThereBack", inPlace := ["math/bits.Add64", "math/bits.Sub64"], unfollowed := true, recurses := true, named := ["pub-doubloon/pub/bigall.basicSqrThreshold", "pub-doubloon/pub/bigall.karatsubaSqrThreshold", "pub-doubloon/pub/bigall.karatsubaThreshold", "pub-doubloon/pub/bigall.divRecursiveThreshold", "math/bits.deBruijn32tab", "math/bits.deBruijn64tab"], apart := false, laid := [("math/bits.deBruijn32tab", laid_math_bits_deBruijn32tab), ("math/bits.deBruijn64tab", laid_math_bits_deBruijn64tab), ("pub-doubloon/pub/bigall.divRecursiveThreshold", laid_pub_doubloon_pub_bigall_divRecursiveThreshold), ("pub-doubloon/pub/bigall.karatsubaThreshold", laid_pub_doubloon_pub_bigall_karatsubaThreshold), ("pub-doubloon/pub/bigall.basicSqrThreshold", laid_pub_doubloon_pub_bigall_basicSqrThreshold), ("pub-doubloon/pub/bigall.karatsubaSqrThreshold", laid_pub_doubloon_pub_bigall_karatsubaSqrThreshold)], narrowed := true }
def FnDeciThereBackUptoSaid : Prop := fnDeciThereBackUptoRow.holds Tryz.pinned (OpenSpec.upto fnDeciThereBackSpec)

/-- 'laws.FnDeciTruncate', WHERE WHAT IT READS IS OF BULK AT MOST 1048576: true; the input reads as it did. -/
def fnDeciTruncateUptoRow : OpenClaim := { program := "ytfocejhcdcnnhaagreatdoor", sum := "4af060fa113ef50dc0c208da19ab43a84e3fcc7ba758862e890388e557796c41", func := "pub-doubloon/laws.FnDeciTruncate", spec := "fnDeciTruncate", inPlace := ["math/bits.Add64", "math/bits.Sub64"], unfollowed := true, recurses := true, named := ["pub-doubloon/pub/bigall.basicSqrThreshold", "pub-doubloon/pub/bigall.karatsubaSqrThreshold", "pub-doubloon/pub/bigall.karatsubaThreshold", "pub-doubloon/pub/bigall.divRecursiveThreshold", "math/bits.deBruijn32tab", "math/bits.deBruijn64tab", "pub-doubloon/pub/cosmosmath.ErrIntOverflow"], apart := false, laid := [("math/bits.deBruijn32tab", laid_math_bits_deBruijn32tab), ("math/bits.deBruijn64tab", laid_math_bits_deBruijn64tab), ("pub-doubloon/pub/bigall.divRecursiveThreshold", laid_pub_doubloon_pub_bigall_divRecursiveThreshold), ("pub-doubloon/pub/bigall.karatsubaThreshold", laid_pub_doubloon_pub_bigall_karatsubaThreshold), ("pub-doubloon/pub/bigall.basicSqrThreshold", laid_pub_doubloon_pub_bigall_basicSqrThreshold), ("pub-doubloon/pub/bigall.karatsubaSqrThreshold", laid_pub_doubloon_pub_bigall_karatsubaSqrThreshold), ("pub-doubloon/pub/cosmosmath.ErrIntOverflow", laid_pub_doubloon_pub_cosmosmath_ErrIntOverflow)], narrowed := true }
def FnDeciTruncateUptoSaid : Prop := fnDeciTruncateUptoRow.holds Tryz.pinned (OpenSpec.upto fnDeciTruncateSpec)

/-- 'laws.FnDeciParted', WHERE WHAT IT READS IS OF BULK AT MOST 1048576: true; the input reads as it did. -/
def fnDeciPartedUptoRow : OpenClaim := { program := "ytfocejhcdcnnhaagreatdoor", sum := "4af060fa113ef50dc0c208da19ab43a84e3fcc7ba758862e890388e557796c41", func := "pub-doubloon/laws.FnDeciParted", spec := "fnDeciParted", inPlace := ["math/bits.Add64", "math/bits.Sub64"], unfollowed := true, recurses := true, named := ["pub-doubloon/pub/bigall.basicSqrThreshold", "pub-doubloon/pub/bigall.karatsubaSqrThreshold", "pub-doubloon/pub/bigall.karatsubaThreshold", "pub-doubloon/pub/bigall.divRecursiveThreshold", "math/bits.deBruijn32tab", "math/bits.deBruijn64tab", "pub-doubloon/pub/cosmosmath.ErrIntOverflow"], apart := false, laid := [("math/bits.deBruijn32tab", laid_math_bits_deBruijn32tab), ("math/bits.deBruijn64tab", laid_math_bits_deBruijn64tab), ("pub-doubloon/pub/bigall.divRecursiveThreshold", laid_pub_doubloon_pub_bigall_divRecursiveThreshold), ("pub-doubloon/pub/bigall.karatsubaThreshold", laid_pub_doubloon_pub_bigall_karatsubaThreshold), ("pub-doubloon/pub/bigall.basicSqrThreshold", laid_pub_doubloon_pub_bigall_basicSqrThreshold), ("pub-doubloon/pub/bigall.karatsubaSqrThreshold", laid_pub_doubloon_pub_bigall_karatsubaSqrThreshold), ("pub-doubloon/pub/cosmosmath.ErrIntOverflow", laid_pub_doubloon_pub_cosmosmath_ErrIntOverflow)], narrowed := true }
def FnDeciPartedUptoSaid : Prop := fnDeciPartedUptoRow.holds Tryz.pinned (OpenSpec.upto fnDeciPartedSpec)

end Rows
end Go.Proofs.YtfocejhcdcnnhaaGreatDoor
