/-
  NARROWER THAN 'FOR EVERY INPUT', by the rows' own cells (each row's printed sentence says how): FnCoinsAdd: laid · FnCoinsAlike: laid · FnCoinsEqual: laid · FnCoinsFind: laid · FnCoinPair: laid · FnCoinsNew: laid · FnCoinSum: laid · FnCoinsAbout: laid · FnCoinsErr: laid · FnCoinsSub: laid · FnCoinsBack: laid · FnCoinsMinMax: laid · FnCoinsCompare: laid · FnCoinsOrder: laid · FnCoinsBounds: laid · FnCoinsTimes: laid.
  DERIVED. THE GIVEN ROWS OF THIS SEAT. 16 by the template 'for every input the law returns true; each argument reads behind the call as it read before'; 0 by the template 'total and deterministic' (their statements: YtagfbefgcijegaaGreatDoorTotals.lean).
  GIVEN WITH THE SEED: the statements are not yours to turn. If you find one false, say at which input.
  Laid BY PROGRAM, IN A SANDBOX (cutbox-rows.mjs): the forced cells as the released guide's own fill.sh prints them over the translation 5571607b17e2d59b… (all of the seat's roots in one cut). By AI agents, Wed Nov 11 2026. No macro, syntax, notation, axiom, sorry.
-/
import Derived.Test.YtagfbefgcijegaaGreatDoorChecked
import GoSem.Claim
import GoSem.ClaimJoined
import GoSem.ClaimMapViews
import Derived.JoinedTies
import Derived.KernelRfl
namespace Go.Proofs.YtagfbefgcijegaaGreatDoor
/- THE CELL 'sum', in the pinned program and in every row, IS THE sha256 OF THE DUMP (.gsa) THAT YtagfbefgcijegaaGreatDoorProg.lean LOADS. Nothing in Lean hashes anything: it is a label: what it is worth is what the hold of that sum in a sandbox is worth. -/
noncomputable def Tryz.pinned : Pinned := { name := "ytagfbefgcijegaagreatdoor", sum := "5571607b17e2d59b910aadaa7ca7fea31129b24d5248bd00d4fbea5dc42e9526", checked := Tryz.checked }
namespace Rows
def none {H : Type} : Left H := { results := [], args := [] }

/- WHAT THE LISTED PACKAGE-LEVEL VARIABLES READ AS WHEN THE CALL BEGINS. Each datum BY PROGRAM (the guide's laid-datum.mjs) off the statement by which the dump's own 'gosem.cut.vars' lays the variable. In a bare row this is a premise. The card (YtagfbefgcijegaaGreatDoorCards.lean) ties it to the program's text. -/
def laid_pub_doubloon_pub_cosmosmath_ErrIntOverflow {H : Type} : DataW H := .iface "*errors.errorString" (.ptr (.agg [.lit (.string [105, 110, 116, 101, 103, 101, 114, 32, 111, 118, 101, 114, 102, 108, 111, 119])]))
def laid_pub_doubloon_pub_bigall_divRecursiveThreshold {H : Type} : DataW H := .lit (.int .i64 40)
def laid_pub_doubloon_pub_bigall_karatsubaThreshold {H : Type} : DataW H := .lit (.int .i64 40)
def laid_pub_doubloon_pub_bigall_basicSqrThreshold {H : Type} : DataW H := .lit (.int .i64 12)
def laid_pub_doubloon_pub_bigall_karatsubaSqrThreshold {H : Type} : DataW H := .lit (.int .i64 80)
def laid_pub_doubloon_pub_cosmosmath_ErrDivideByZero {H : Type} : DataW H := .iface "*errors.errorString" (.ptr (.agg [.lit (.string [100, 105, 118, 105, 100, 101, 32, 98, 121, 32, 122, 101, 114, 111])]))

/-- 'laws.FnCoinsAdd': WHATEVER THE INPUT: true; the input reads as it did. -/
def fnCoinsAddSpec : ChangeSpec := { name := "fnCoinsAdd", fn := fun _ => fun
  | [d1, d2] => { results := [.lit (.bool true)], args := [d1, d2] }
  | _ => none }
def fnCoinsAddRow : OpenClaim := { program := "ytagfbefgcijegaagreatdoor", sum := "5571607b17e2d59b910aadaa7ca7fea31129b24d5248bd00d4fbea5dc42e9526", func := "pub-doubloon/laws.FnCoinsAdd", spec := "fnCoinsAdd", inPlace := ["math/bits.Add64", "math/bits.Sub64"], unfollowed := true, recurses := true, named := ["pub-doubloon/pub/cosmosmath.ErrIntOverflow"], apart := false, laid := [("pub-doubloon/pub/cosmosmath.ErrIntOverflow", laid_pub_doubloon_pub_cosmosmath_ErrIntOverflow)] }
def FnCoinsAddSaid : Prop := fnCoinsAddRow.holds Tryz.pinned (OpenSpec.ofChange fnCoinsAddSpec)

/-- ITS FALSE NEIGHBOUR: 'it returns false'. Refute it at one input. -/
def fnCoinsAddWrong : ChangeSpec := { name := "fnCoinsAdd", fn := fun _ => fun
  | [d1, d2] => { results := [.lit (.bool false)], args := [d1, d2] }
  | _ => none }
def FnCoinsAddWrongFalsely : Prop := fnCoinsAddRow.holds Tryz.pinned (OpenSpec.ofChange fnCoinsAddWrong)

/-- 'laws.FnCoinsAlike': WHATEVER THE INPUT: true; the input reads as it did. -/
def fnCoinsAlikeSpec : ChangeSpec := { name := "fnCoinsAlike", fn := fun _ => fun
  | [d1, d2, d3] => { results := [.lit (.bool true)], args := [d1, d2, d3] }
  | _ => none }
def fnCoinsAlikeRow : OpenClaim := { program := "ytagfbefgcijegaagreatdoor", sum := "5571607b17e2d59b910aadaa7ca7fea31129b24d5248bd00d4fbea5dc42e9526", func := "pub-doubloon/laws.FnCoinsAlike", spec := "fnCoinsAlike", inPlace := ["math/bits.Add64", "math/bits.Sub64"], unfollowed := true, recurses := true, named := ["pub-doubloon/pub/cosmosmath.ErrIntOverflow"], apart := false, laid := [("pub-doubloon/pub/cosmosmath.ErrIntOverflow", laid_pub_doubloon_pub_cosmosmath_ErrIntOverflow)] }
def FnCoinsAlikeSaid : Prop := fnCoinsAlikeRow.holds Tryz.pinned (OpenSpec.ofChange fnCoinsAlikeSpec)

/-- ITS FALSE NEIGHBOUR: 'it returns false'. Refute it at one input. -/
def fnCoinsAlikeWrong : ChangeSpec := { name := "fnCoinsAlike", fn := fun _ => fun
  | [d1, d2, d3] => { results := [.lit (.bool false)], args := [d1, d2, d3] }
  | _ => none }
def FnCoinsAlikeWrongFalsely : Prop := fnCoinsAlikeRow.holds Tryz.pinned (OpenSpec.ofChange fnCoinsAlikeWrong)

/-- 'laws.FnCoinsEqual': WHATEVER THE INPUT: true; the input reads as it did. -/
def fnCoinsEqualSpec : ChangeSpec := { name := "fnCoinsEqual", fn := fun _ => fun
  | [d1, d2] => { results := [.lit (.bool true)], args := [d1, d2] }
  | _ => none }
def fnCoinsEqualRow : OpenClaim := { program := "ytagfbefgcijegaagreatdoor", sum := "5571607b17e2d59b910aadaa7ca7fea31129b24d5248bd00d4fbea5dc42e9526", func := "pub-doubloon/laws.FnCoinsEqual", spec := "fnCoinsEqual", inPlace := ["math/bits.Add64", "math/bits.Sub64"], unfollowed := true, recurses := true, named := ["pub-doubloon/pub/cosmosmath.ErrIntOverflow"], apart := false, laid := [("pub-doubloon/pub/cosmosmath.ErrIntOverflow", laid_pub_doubloon_pub_cosmosmath_ErrIntOverflow)] }
def FnCoinsEqualSaid : Prop := fnCoinsEqualRow.holds Tryz.pinned (OpenSpec.ofChange fnCoinsEqualSpec)

/-- ITS FALSE NEIGHBOUR: 'it returns false'. Refute it at one input. -/
def fnCoinsEqualWrong : ChangeSpec := { name := "fnCoinsEqual", fn := fun _ => fun
  | [d1, d2] => { results := [.lit (.bool false)], args := [d1, d2] }
  | _ => none }
def FnCoinsEqualWrongFalsely : Prop := fnCoinsEqualRow.holds Tryz.pinned (OpenSpec.ofChange fnCoinsEqualWrong)

/-- 'laws.FnCoinsFind': WHATEVER THE INPUT: true; the input reads as it did. -/
def fnCoinsFindSpec : ChangeSpec := { name := "fnCoinsFind", fn := fun _ => fun
  | [d1, d2] => { results := [.lit (.bool true)], args := [d1, d2] }
  | _ => none }
def fnCoinsFindRow : OpenClaim := { program := "ytagfbefgcijegaagreatdoor", sum := "5571607b17e2d59b910aadaa7ca7fea31129b24d5248bd00d4fbea5dc42e9526", func := "pub-doubloon/laws.FnCoinsFind", spec := "fnCoinsFind", inPlace := ["math/bits.Add64", "math/bits.Sub64"], unfollowed := true, recurses := true, named := ["pub-doubloon/pub/cosmosmath.ErrIntOverflow"], apart := false, laid := [("pub-doubloon/pub/cosmosmath.ErrIntOverflow", laid_pub_doubloon_pub_cosmosmath_ErrIntOverflow)] }
def FnCoinsFindSaid : Prop := fnCoinsFindRow.holds Tryz.pinned (OpenSpec.ofChange fnCoinsFindSpec)

/-- ITS FALSE NEIGHBOUR: 'it returns false'. Refute it at one input. -/
def fnCoinsFindWrong : ChangeSpec := { name := "fnCoinsFind", fn := fun _ => fun
  | [d1, d2] => { results := [.lit (.bool false)], args := [d1, d2] }
  | _ => none }
def FnCoinsFindWrongFalsely : Prop := fnCoinsFindRow.holds Tryz.pinned (OpenSpec.ofChange fnCoinsFindWrong)

/-- 'laws.FnCoinPair': WHATEVER THE INPUT: true; the input reads as it did. -/
def fnCoinPairSpec : ChangeSpec := { name := "fnCoinPair", fn := fun _ => fun
  | [d1, d2] => { results := [.lit (.bool true)], args := [d1, d2] }
  | _ => none }
def fnCoinPairRow : OpenClaim := { program := "ytagfbefgcijegaagreatdoor", sum := "5571607b17e2d59b910aadaa7ca7fea31129b24d5248bd00d4fbea5dc42e9526", func := "pub-doubloon/laws.FnCoinPair", spec := "fnCoinPair", inPlace := ["math/bits.Add64", "math/bits.Sub64"], unfollowed := true, recurses := true, named := ["pub-doubloon/pub/cosmosmath.ErrIntOverflow"], apart := false, laid := [("pub-doubloon/pub/cosmosmath.ErrIntOverflow", laid_pub_doubloon_pub_cosmosmath_ErrIntOverflow)] }
def FnCoinPairSaid : Prop := fnCoinPairRow.holds Tryz.pinned (OpenSpec.ofChange fnCoinPairSpec)

/-- ITS FALSE NEIGHBOUR: 'it returns false'. Refute it at one input. -/
def fnCoinPairWrong : ChangeSpec := { name := "fnCoinPair", fn := fun _ => fun
  | [d1, d2] => { results := [.lit (.bool false)], args := [d1, d2] }
  | _ => none }
def FnCoinPairWrongFalsely : Prop := fnCoinPairRow.holds Tryz.pinned (OpenSpec.ofChange fnCoinPairWrong)

/-- 'laws.FnCoinsNew': WHATEVER THE INPUT: true; the input reads as it did. -/
def fnCoinsNewSpec : ChangeSpec := { name := "fnCoinsNew", fn := fun _ => fun
  | [d] => { results := [.lit (.bool true)], args := [d] }
  | _ => none }
def fnCoinsNewRow : OpenClaim := { program := "ytagfbefgcijegaagreatdoor", sum := "5571607b17e2d59b910aadaa7ca7fea31129b24d5248bd00d4fbea5dc42e9526", func := "pub-doubloon/laws.FnCoinsNew", spec := "fnCoinsNew", inPlace := ["math/bits.Add64", "math/bits.Sub64"], unfollowed := true, recurses := true, named := ["pub-doubloon/pub/cosmosmath.ErrIntOverflow"], apart := false, laid := [("pub-doubloon/pub/cosmosmath.ErrIntOverflow", laid_pub_doubloon_pub_cosmosmath_ErrIntOverflow)] }
def FnCoinsNewSaid : Prop := fnCoinsNewRow.holds Tryz.pinned (OpenSpec.ofChange fnCoinsNewSpec)

/-- ITS FALSE NEIGHBOUR: 'it returns false'. Refute it at one input. -/
def fnCoinsNewWrong : ChangeSpec := { name := "fnCoinsNew", fn := fun _ => fun
  | [d] => { results := [.lit (.bool false)], args := [d] }
  | _ => none }
def FnCoinsNewWrongFalsely : Prop := fnCoinsNewRow.holds Tryz.pinned (OpenSpec.ofChange fnCoinsNewWrong)

/-- 'laws.FnCoinSum': WHATEVER THE INPUT: true; the input reads as it did. -/
def fnCoinSumSpec : ChangeSpec := { name := "fnCoinSum", fn := fun _ => fun
  | [d1, d2, d3] => { results := [.lit (.bool true)], args := [d1, d2, d3] }
  | _ => none }
def fnCoinSumRow : OpenClaim := { program := "ytagfbefgcijegaagreatdoor", sum := "5571607b17e2d59b910aadaa7ca7fea31129b24d5248bd00d4fbea5dc42e9526", func := "pub-doubloon/laws.FnCoinSum", spec := "fnCoinSum", inPlace := ["math/bits.Add64", "math/bits.Sub64"], unfollowed := true, recurses := true, named := ["pub-doubloon/pub/cosmosmath.ErrIntOverflow"], apart := false, laid := [("pub-doubloon/pub/cosmosmath.ErrIntOverflow", laid_pub_doubloon_pub_cosmosmath_ErrIntOverflow)] }
def FnCoinSumSaid : Prop := fnCoinSumRow.holds Tryz.pinned (OpenSpec.ofChange fnCoinSumSpec)

/-- ITS FALSE NEIGHBOUR: 'it returns false'. Refute it at one input. -/
def fnCoinSumWrong : ChangeSpec := { name := "fnCoinSum", fn := fun _ => fun
  | [d1, d2, d3] => { results := [.lit (.bool false)], args := [d1, d2, d3] }
  | _ => none }
def FnCoinSumWrongFalsely : Prop := fnCoinSumRow.holds Tryz.pinned (OpenSpec.ofChange fnCoinSumWrong)

/-- 'laws.FnCoinsAbout': WHATEVER THE INPUT: true; the input reads as it did. -/
def fnCoinsAboutSpec : ChangeSpec := { name := "fnCoinsAbout", fn := fun _ => fun
  | [d] => { results := [.lit (.bool true)], args := [d] }
  | _ => none }
def fnCoinsAboutRow : OpenClaim := { program := "ytagfbefgcijegaagreatdoor", sum := "5571607b17e2d59b910aadaa7ca7fea31129b24d5248bd00d4fbea5dc42e9526", func := "pub-doubloon/laws.FnCoinsAbout", spec := "fnCoinsAbout", inPlace := ["math/bits.Add64", "math/bits.Sub64"], unfollowed := true, recurses := true, named := ["pub-doubloon/pub/cosmosmath.ErrIntOverflow"], apart := false, laid := [("pub-doubloon/pub/cosmosmath.ErrIntOverflow", laid_pub_doubloon_pub_cosmosmath_ErrIntOverflow)] }
def FnCoinsAboutSaid : Prop := fnCoinsAboutRow.holds Tryz.pinned (OpenSpec.ofChange fnCoinsAboutSpec)

/-- ITS FALSE NEIGHBOUR: 'it returns false'. Refute it at one input. -/
def fnCoinsAboutWrong : ChangeSpec := { name := "fnCoinsAbout", fn := fun _ => fun
  | [d] => { results := [.lit (.bool false)], args := [d] }
  | _ => none }
def FnCoinsAboutWrongFalsely : Prop := fnCoinsAboutRow.holds Tryz.pinned (OpenSpec.ofChange fnCoinsAboutWrong)

/-- 'laws.FnCoinsErr': WHATEVER THE INPUT: true; the input reads as it did. -/
def fnCoinsErrSpec : ChangeSpec := { name := "fnCoinsErr", fn := fun _ => fun
  | [d] => { results := [.lit (.bool true)], args := [d] }
  | _ => none }
def fnCoinsErrRow : OpenClaim := { program := "ytagfbefgcijegaagreatdoor", sum := "5571607b17e2d59b910aadaa7ca7fea31129b24d5248bd00d4fbea5dc42e9526", func := "pub-doubloon/laws.FnCoinsErr", spec := "fnCoinsErr", inPlace := ["math/bits.Add64", "math/bits.Sub64"], unfollowed := true, recurses := true, named := ["pub-doubloon/pub/cosmosmath.ErrIntOverflow"], apart := false, laid := [("pub-doubloon/pub/cosmosmath.ErrIntOverflow", laid_pub_doubloon_pub_cosmosmath_ErrIntOverflow)] }
def FnCoinsErrSaid : Prop := fnCoinsErrRow.holds Tryz.pinned (OpenSpec.ofChange fnCoinsErrSpec)

/-- ITS FALSE NEIGHBOUR: 'it returns false'. Refute it at one input. -/
def fnCoinsErrWrong : ChangeSpec := { name := "fnCoinsErr", fn := fun _ => fun
  | [d] => { results := [.lit (.bool false)], args := [d] }
  | _ => none }
def FnCoinsErrWrongFalsely : Prop := fnCoinsErrRow.holds Tryz.pinned (OpenSpec.ofChange fnCoinsErrWrong)

/-- 'laws.FnCoinsSub': WHATEVER THE INPUT: true; the input reads as it did. -/
def fnCoinsSubSpec : ChangeSpec := { name := "fnCoinsSub", fn := fun _ => fun
  | [d1, d2] => { results := [.lit (.bool true)], args := [d1, d2] }
  | _ => none }
def fnCoinsSubRow : OpenClaim := { program := "ytagfbefgcijegaagreatdoor", sum := "5571607b17e2d59b910aadaa7ca7fea31129b24d5248bd00d4fbea5dc42e9526", func := "pub-doubloon/laws.FnCoinsSub", spec := "fnCoinsSub", inPlace := ["math/bits.Add64", "math/bits.Sub64"], unfollowed := true, recurses := true, named := ["pub-doubloon/pub/cosmosmath.ErrIntOverflow"], apart := false, laid := [("pub-doubloon/pub/cosmosmath.ErrIntOverflow", laid_pub_doubloon_pub_cosmosmath_ErrIntOverflow)] }
def FnCoinsSubSaid : Prop := fnCoinsSubRow.holds Tryz.pinned (OpenSpec.ofChange fnCoinsSubSpec)

/-- ITS FALSE NEIGHBOUR: 'it returns false'. Refute it at one input. -/
def fnCoinsSubWrong : ChangeSpec := { name := "fnCoinsSub", fn := fun _ => fun
  | [d1, d2] => { results := [.lit (.bool false)], args := [d1, d2] }
  | _ => none }
def FnCoinsSubWrongFalsely : Prop := fnCoinsSubRow.holds Tryz.pinned (OpenSpec.ofChange fnCoinsSubWrong)

/-- 'laws.FnCoinsBack': WHATEVER THE INPUT: true; the input reads as it did. -/
def fnCoinsBackSpec : ChangeSpec := { name := "fnCoinsBack", fn := fun _ => fun
  | [d1, d2] => { results := [.lit (.bool true)], args := [d1, d2] }
  | _ => none }
def fnCoinsBackRow : OpenClaim := { program := "ytagfbefgcijegaagreatdoor", sum := "5571607b17e2d59b910aadaa7ca7fea31129b24d5248bd00d4fbea5dc42e9526", func := "pub-doubloon/laws.FnCoinsBack", spec := "fnCoinsBack", inPlace := ["math/bits.Add64", "math/bits.Sub64"], unfollowed := true, recurses := true, named := ["pub-doubloon/pub/cosmosmath.ErrIntOverflow"], apart := false, laid := [("pub-doubloon/pub/cosmosmath.ErrIntOverflow", laid_pub_doubloon_pub_cosmosmath_ErrIntOverflow)] }
def FnCoinsBackSaid : Prop := fnCoinsBackRow.holds Tryz.pinned (OpenSpec.ofChange fnCoinsBackSpec)

/-- ITS FALSE NEIGHBOUR: 'it returns false'. Refute it at one input. -/
def fnCoinsBackWrong : ChangeSpec := { name := "fnCoinsBack", fn := fun _ => fun
  | [d1, d2] => { results := [.lit (.bool false)], args := [d1, d2] }
  | _ => none }
def FnCoinsBackWrongFalsely : Prop := fnCoinsBackRow.holds Tryz.pinned (OpenSpec.ofChange fnCoinsBackWrong)

/-- 'laws.FnCoinsMinMax': WHATEVER THE INPUT: true; the input reads as it did. -/
def fnCoinsMinMaxSpec : ChangeSpec := { name := "fnCoinsMinMax", fn := fun _ => fun
  | [d1, d2] => { results := [.lit (.bool true)], args := [d1, d2] }
  | _ => none }
def fnCoinsMinMaxRow : OpenClaim := { program := "ytagfbefgcijegaagreatdoor", sum := "5571607b17e2d59b910aadaa7ca7fea31129b24d5248bd00d4fbea5dc42e9526", func := "pub-doubloon/laws.FnCoinsMinMax", spec := "fnCoinsMinMax", inPlace := ["math/bits.Add64", "math/bits.Sub64"], unfollowed := true, recurses := true, named := ["pub-doubloon/pub/cosmosmath.ErrIntOverflow"], apart := false, laid := [("pub-doubloon/pub/cosmosmath.ErrIntOverflow", laid_pub_doubloon_pub_cosmosmath_ErrIntOverflow)] }
def FnCoinsMinMaxSaid : Prop := fnCoinsMinMaxRow.holds Tryz.pinned (OpenSpec.ofChange fnCoinsMinMaxSpec)

/-- ITS FALSE NEIGHBOUR: 'it returns false'. Refute it at one input. -/
def fnCoinsMinMaxWrong : ChangeSpec := { name := "fnCoinsMinMax", fn := fun _ => fun
  | [d1, d2] => { results := [.lit (.bool false)], args := [d1, d2] }
  | _ => none }
def FnCoinsMinMaxWrongFalsely : Prop := fnCoinsMinMaxRow.holds Tryz.pinned (OpenSpec.ofChange fnCoinsMinMaxWrong)

/-- 'laws.FnCoinsCompare': WHATEVER THE INPUT: true; the input reads as it did. -/
def fnCoinsCompareSpec : ChangeSpec := { name := "fnCoinsCompare", fn := fun _ => fun
  | [d1, d2] => { results := [.lit (.bool true)], args := [d1, d2] }
  | _ => none }
def fnCoinsCompareRow : OpenClaim := { program := "ytagfbefgcijegaagreatdoor", sum := "5571607b17e2d59b910aadaa7ca7fea31129b24d5248bd00d4fbea5dc42e9526", func := "pub-doubloon/laws.FnCoinsCompare", spec := "fnCoinsCompare", inPlace := ["math/bits.Add64", "math/bits.Sub64"], unfollowed := true, recurses := true, named := ["pub-doubloon/pub/cosmosmath.ErrIntOverflow"], apart := false, laid := [("pub-doubloon/pub/cosmosmath.ErrIntOverflow", laid_pub_doubloon_pub_cosmosmath_ErrIntOverflow)] }
def FnCoinsCompareSaid : Prop := fnCoinsCompareRow.holds Tryz.pinned (OpenSpec.ofChange fnCoinsCompareSpec)

/-- ITS FALSE NEIGHBOUR: 'it returns false'. Refute it at one input. -/
def fnCoinsCompareWrong : ChangeSpec := { name := "fnCoinsCompare", fn := fun _ => fun
  | [d1, d2] => { results := [.lit (.bool false)], args := [d1, d2] }
  | _ => none }
def FnCoinsCompareWrongFalsely : Prop := fnCoinsCompareRow.holds Tryz.pinned (OpenSpec.ofChange fnCoinsCompareWrong)

/-- 'laws.FnCoinsOrder': WHATEVER THE INPUT: true; the input reads as it did. -/
def fnCoinsOrderSpec : ChangeSpec := { name := "fnCoinsOrder", fn := fun _ => fun
  | [d1, d2, d3] => { results := [.lit (.bool true)], args := [d1, d2, d3] }
  | _ => none }
def fnCoinsOrderRow : OpenClaim := { program := "ytagfbefgcijegaagreatdoor", sum := "5571607b17e2d59b910aadaa7ca7fea31129b24d5248bd00d4fbea5dc42e9526", func := "pub-doubloon/laws.FnCoinsOrder", spec := "fnCoinsOrder", inPlace := ["math/bits.Add64", "math/bits.Sub64"], unfollowed := true, recurses := true, named := ["pub-doubloon/pub/cosmosmath.ErrIntOverflow"], apart := false, laid := [("pub-doubloon/pub/cosmosmath.ErrIntOverflow", laid_pub_doubloon_pub_cosmosmath_ErrIntOverflow)] }
def FnCoinsOrderSaid : Prop := fnCoinsOrderRow.holds Tryz.pinned (OpenSpec.ofChange fnCoinsOrderSpec)

/-- ITS FALSE NEIGHBOUR: 'it returns false'. Refute it at one input. -/
def fnCoinsOrderWrong : ChangeSpec := { name := "fnCoinsOrder", fn := fun _ => fun
  | [d1, d2, d3] => { results := [.lit (.bool false)], args := [d1, d2, d3] }
  | _ => none }
def FnCoinsOrderWrongFalsely : Prop := fnCoinsOrderRow.holds Tryz.pinned (OpenSpec.ofChange fnCoinsOrderWrong)

/-- 'laws.FnCoinsBounds': WHATEVER THE INPUT: true; the input reads as it did. -/
def fnCoinsBoundsSpec : ChangeSpec := { name := "fnCoinsBounds", fn := fun _ => fun
  | [d1, d2, d3] => { results := [.lit (.bool true)], args := [d1, d2, d3] }
  | _ => none }
def fnCoinsBoundsRow : OpenClaim := { program := "ytagfbefgcijegaagreatdoor", sum := "5571607b17e2d59b910aadaa7ca7fea31129b24d5248bd00d4fbea5dc42e9526", func := "pub-doubloon/laws.FnCoinsBounds", spec := "fnCoinsBounds", inPlace := ["math/bits.Add64", "math/bits.Sub64"], unfollowed := true, recurses := true, named := ["pub-doubloon/pub/cosmosmath.ErrIntOverflow"], apart := false, laid := [("pub-doubloon/pub/cosmosmath.ErrIntOverflow", laid_pub_doubloon_pub_cosmosmath_ErrIntOverflow)] }
def FnCoinsBoundsSaid : Prop := fnCoinsBoundsRow.holds Tryz.pinned (OpenSpec.ofChange fnCoinsBoundsSpec)

/-- ITS FALSE NEIGHBOUR: 'it returns false'. Refute it at one input. -/
def fnCoinsBoundsWrong : ChangeSpec := { name := "fnCoinsBounds", fn := fun _ => fun
  | [d1, d2, d3] => { results := [.lit (.bool false)], args := [d1, d2, d3] }
  | _ => none }
def FnCoinsBoundsWrongFalsely : Prop := fnCoinsBoundsRow.holds Tryz.pinned (OpenSpec.ofChange fnCoinsBoundsWrong)

/-- 'laws.FnCoinsTimes': WHATEVER THE INPUT: true; the input reads as it did. -/
def fnCoinsTimesSpec : ChangeSpec := { name := "fnCoinsTimes", fn := fun _ => fun
  | [d1, d2] => { results := [.lit (.bool true)], args := [d1, d2] }
  | _ => none }
def fnCoinsTimesRow : OpenClaim := { program := "ytagfbefgcijegaagreatdoor", sum := "5571607b17e2d59b910aadaa7ca7fea31129b24d5248bd00d4fbea5dc42e9526", func := "pub-doubloon/laws.FnCoinsTimes", spec := "fnCoinsTimes", inPlace := ["math/bits.Add64", "math/bits.Sub64"], unfollowed := true, recurses := true, named := ["pub-doubloon/pub/cosmosmath.ErrIntOverflow", "pub-doubloon/pub/bigall.basicSqrThreshold", "pub-doubloon/pub/bigall.karatsubaSqrThreshold", "pub-doubloon/pub/bigall.karatsubaThreshold", "pub-doubloon/pub/cosmosmath.ErrDivideByZero", "pub-doubloon/pub/bigall.divRecursiveThreshold"], apart := false, laid := [("pub-doubloon/pub/bigall.divRecursiveThreshold", laid_pub_doubloon_pub_bigall_divRecursiveThreshold), ("pub-doubloon/pub/bigall.karatsubaThreshold", laid_pub_doubloon_pub_bigall_karatsubaThreshold), ("pub-doubloon/pub/bigall.basicSqrThreshold", laid_pub_doubloon_pub_bigall_basicSqrThreshold), ("pub-doubloon/pub/bigall.karatsubaSqrThreshold", laid_pub_doubloon_pub_bigall_karatsubaSqrThreshold), ("pub-doubloon/pub/cosmosmath.ErrIntOverflow", laid_pub_doubloon_pub_cosmosmath_ErrIntOverflow), ("pub-doubloon/pub/cosmosmath.ErrDivideByZero", laid_pub_doubloon_pub_cosmosmath_ErrDivideByZero)] }
def FnCoinsTimesSaid : Prop := fnCoinsTimesRow.holds Tryz.pinned (OpenSpec.ofChange fnCoinsTimesSpec)

/-- ITS FALSE NEIGHBOUR: 'it returns false'. Refute it at one input. -/
def fnCoinsTimesWrong : ChangeSpec := { name := "fnCoinsTimes", fn := fun _ => fun
  | [d1, d2] => { results := [.lit (.bool false)], args := [d1, d2] }
  | _ => none }
def FnCoinsTimesWrongFalsely : Prop := fnCoinsTimesRow.holds Tryz.pinned (OpenSpec.ofChange fnCoinsTimesWrong)

/- THE SECOND FORM. 'bulk': how many values and letters a reading holds, each counted each time it is reached (what is shared counts as often as it is met; a slice's spare places count too). A statement '..UptoSaid' is the law's where the arguments, and the package variables that the reading takes, are together of bulk at most 1048576: NARROWER than '..Said'. Prove '..Said' where nothing that the law and all that it calls make is longer than what came in: it says more and counts as full. Else prove '..UptoSaid'. A law counts once. -/
mutual
def uptoBulk {H : Type} : DataW H → Nat
  | .lit (.string bytes) => bytes.length + 1
  | .lit _ => 1
  | .nil => 1
  | .ptr d => uptoBulk d + 1
  | .slice elems spare => uptoBulkAll elems + uptoBulkAll spare + 1
  | .agg parts => uptoBulkAll parts + 1
  | .iface _ d => uptoBulk d + 1
  | .map entries => uptoBulkEntries entries + 1
  | .held _ => 1
def uptoBulkAll {H : Type} : List (DataW H) → Nat
  | [] => 0
  | d :: r => uptoBulk d + uptoBulkAll r
def uptoBulkEntries {H : Type} : List (Lit × DataW H) → Nat
  | [] => 0
  | x :: r => uptoBulkEntry x + uptoBulkEntries r
def uptoBulkEntry {H : Type} : Lit × DataW H → Nat
  | (.string bytes, d) => bytes.length + uptoBulk d + 1
  | (_, d) => uptoBulk d + 1
 end
def uptoSmall : (H : Type) → List (DataW H) → Bool := fun _ ds => decide (uptoBulkAll ds ≤ 1048576)
def OpenSpec.upto (s : _root_.Go.ChangeSpec) : _root_.Go.OpenSpec := { _root_.Go.OpenSpec.ofChange s with cond := some uptoSmall }

/-- 'laws.FnCoinsAdd', WHERE WHAT IT READS IS OF BULK AT MOST 1048576: true; the input reads as it did. -/
def fnCoinsAddUptoRow : OpenClaim := { program := "ytagfbefgcijegaagreatdoor", sum := "5571607b17e2d59b910aadaa7ca7fea31129b24d5248bd00d4fbea5dc42e9526", func := "pub-doubloon/laws.FnCoinsAdd", spec := "fnCoinsAdd", inPlace := ["math/bits.Add64", "math/bits.Sub64"], unfollowed := true, recurses := true, named := ["pub-doubloon/pub/cosmosmath.ErrIntOverflow"], apart := false, laid := [("pub-doubloon/pub/cosmosmath.ErrIntOverflow", laid_pub_doubloon_pub_cosmosmath_ErrIntOverflow)], narrowed := true }
def FnCoinsAddUptoSaid : Prop := fnCoinsAddUptoRow.holds Tryz.pinned (OpenSpec.upto fnCoinsAddSpec)

/-- 'laws.FnCoinsAlike', WHERE WHAT IT READS IS OF BULK AT MOST 1048576: true; the input reads as it did. -/
def fnCoinsAlikeUptoRow : OpenClaim := { program := "ytagfbefgcijegaagreatdoor", sum := "5571607b17e2d59b910aadaa7ca7fea31129b24d5248bd00d4fbea5dc42e9526", func := "pub-doubloon/laws.FnCoinsAlike", spec := "fnCoinsAlike", inPlace := ["math/bits.Add64", "math/bits.Sub64"], unfollowed := true, recurses := true, named := ["pub-doubloon/pub/cosmosmath.ErrIntOverflow"], apart := false, laid := [("pub-doubloon/pub/cosmosmath.ErrIntOverflow", laid_pub_doubloon_pub_cosmosmath_ErrIntOverflow)], narrowed := true }
def FnCoinsAlikeUptoSaid : Prop := fnCoinsAlikeUptoRow.holds Tryz.pinned (OpenSpec.upto fnCoinsAlikeSpec)

/-- 'laws.FnCoinsEqual', WHERE WHAT IT READS IS OF BULK AT MOST 1048576: true; the input reads as it did. -/
def fnCoinsEqualUptoRow : OpenClaim := { program := "ytagfbefgcijegaagreatdoor", sum := "5571607b17e2d59b910aadaa7ca7fea31129b24d5248bd00d4fbea5dc42e9526", func := "pub-doubloon/laws.FnCoinsEqual", spec := "fnCoinsEqual", inPlace := ["math/bits.Add64", "math/bits.Sub64"], unfollowed := true, recurses := true, named := ["pub-doubloon/pub/cosmosmath.ErrIntOverflow"], apart := false, laid := [("pub-doubloon/pub/cosmosmath.ErrIntOverflow", laid_pub_doubloon_pub_cosmosmath_ErrIntOverflow)], narrowed := true }
def FnCoinsEqualUptoSaid : Prop := fnCoinsEqualUptoRow.holds Tryz.pinned (OpenSpec.upto fnCoinsEqualSpec)

/-- 'laws.FnCoinsFind', WHERE WHAT IT READS IS OF BULK AT MOST 1048576: true; the input reads as it did. -/
def fnCoinsFindUptoRow : OpenClaim := { program := "ytagfbefgcijegaagreatdoor", sum := "5571607b17e2d59b910aadaa7ca7fea31129b24d5248bd00d4fbea5dc42e9526", func := "pub-doubloon/laws.FnCoinsFind", spec := "fnCoinsFind", inPlace := ["math/bits.Add64", "math/bits.Sub64"], unfollowed := true, recurses := true, named := ["pub-doubloon/pub/cosmosmath.ErrIntOverflow"], apart := false, laid := [("pub-doubloon/pub/cosmosmath.ErrIntOverflow", laid_pub_doubloon_pub_cosmosmath_ErrIntOverflow)], narrowed := true }
def FnCoinsFindUptoSaid : Prop := fnCoinsFindUptoRow.holds Tryz.pinned (OpenSpec.upto fnCoinsFindSpec)

/-- 'laws.FnCoinPair', WHERE WHAT IT READS IS OF BULK AT MOST 1048576: true; the input reads as it did. -/
def fnCoinPairUptoRow : OpenClaim := { program := "ytagfbefgcijegaagreatdoor", sum := "5571607b17e2d59b910aadaa7ca7fea31129b24d5248bd00d4fbea5dc42e9526", func := "pub-doubloon/laws.FnCoinPair", spec := "fnCoinPair", inPlace := ["math/bits.Add64", "math/bits.Sub64"], unfollowed := true, recurses := true, named := ["pub-doubloon/pub/cosmosmath.ErrIntOverflow"], apart := false, laid := [("pub-doubloon/pub/cosmosmath.ErrIntOverflow", laid_pub_doubloon_pub_cosmosmath_ErrIntOverflow)], narrowed := true }
def FnCoinPairUptoSaid : Prop := fnCoinPairUptoRow.holds Tryz.pinned (OpenSpec.upto fnCoinPairSpec)

/-- 'laws.FnCoinsNew', WHERE WHAT IT READS IS OF BULK AT MOST 1048576: true; the input reads as it did. -/
def fnCoinsNewUptoRow : OpenClaim := { program := "ytagfbefgcijegaagreatdoor", sum := "5571607b17e2d59b910aadaa7ca7fea31129b24d5248bd00d4fbea5dc42e9526", func := "pub-doubloon/laws.FnCoinsNew", spec := "fnCoinsNew", inPlace := ["math/bits.Add64", "math/bits.Sub64"], unfollowed := true, recurses := true, named := ["pub-doubloon/pub/cosmosmath.ErrIntOverflow"], apart := false, laid := [("pub-doubloon/pub/cosmosmath.ErrIntOverflow", laid_pub_doubloon_pub_cosmosmath_ErrIntOverflow)], narrowed := true }
def FnCoinsNewUptoSaid : Prop := fnCoinsNewUptoRow.holds Tryz.pinned (OpenSpec.upto fnCoinsNewSpec)

/-- 'laws.FnCoinSum', WHERE WHAT IT READS IS OF BULK AT MOST 1048576: true; the input reads as it did. -/
def fnCoinSumUptoRow : OpenClaim := { program := "ytagfbefgcijegaagreatdoor", sum := "5571607b17e2d59b910aadaa7ca7fea31129b24d5248bd00d4fbea5dc42e9526", func := "pub-doubloon/laws.FnCoinSum", spec := "fnCoinSum", inPlace := ["math/bits.Add64", "math/bits.Sub64"], unfollowed := true, recurses := true, named := ["pub-doubloon/pub/cosmosmath.ErrIntOverflow"], apart := false, laid := [("pub-doubloon/pub/cosmosmath.ErrIntOverflow", laid_pub_doubloon_pub_cosmosmath_ErrIntOverflow)], narrowed := true }
def FnCoinSumUptoSaid : Prop := fnCoinSumUptoRow.holds Tryz.pinned (OpenSpec.upto fnCoinSumSpec)

/-- 'laws.FnCoinsAbout', WHERE WHAT IT READS IS OF BULK AT MOST 1048576: true; the input reads as it did. -/
def fnCoinsAboutUptoRow : OpenClaim := { program := "ytagfbefgcijegaagreatdoor", sum := "5571607b17e2d59b910aadaa7ca7fea31129b24d5248bd00d4fbea5dc42e9526", func := "pub-doubloon/laws.FnCoinsAbout", spec := "fnCoinsAbout", inPlace := ["math/bits.Add64", "math/bits.Sub64"], unfollowed := true, recurses := true, named := ["pub-doubloon/pub/cosmosmath.ErrIntOverflow"], apart := false, laid := [("pub-doubloon/pub/cosmosmath.ErrIntOverflow", laid_pub_doubloon_pub_cosmosmath_ErrIntOverflow)], narrowed := true }
def FnCoinsAboutUptoSaid : Prop := fnCoinsAboutUptoRow.holds Tryz.pinned (OpenSpec.upto fnCoinsAboutSpec)

/-- 'laws.FnCoinsErr', WHERE WHAT IT READS IS OF BULK AT MOST 1048576: true; the input reads as it did. -/
def fnCoinsErrUptoRow : OpenClaim := { program := "ytagfbefgcijegaagreatdoor", sum := "5571607b17e2d59b910aadaa7ca7fea31129b24d5248bd00d4fbea5dc42e9526", func := "pub-doubloon/laws.FnCoinsErr", spec := "fnCoinsErr", inPlace := ["math/bits.Add64", "math/bits.Sub64"], unfollowed := true, recurses := true, named := ["pub-doubloon/pub/cosmosmath.ErrIntOverflow"], apart := false, laid := [("pub-doubloon/pub/cosmosmath.ErrIntOverflow", laid_pub_doubloon_pub_cosmosmath_ErrIntOverflow)], narrowed := true }
def FnCoinsErrUptoSaid : Prop := fnCoinsErrUptoRow.holds Tryz.pinned (OpenSpec.upto fnCoinsErrSpec)

/-- 'laws.FnCoinsSub', WHERE WHAT IT READS IS OF BULK AT MOST 1048576: true; the input reads as it did. -/
def fnCoinsSubUptoRow : OpenClaim := { program := "ytagfbefgcijegaagreatdoor", sum := "5571607b17e2d59b910aadaa7ca7fea31129b24d5248bd00d4fbea5dc42e9526", func := "pub-doubloon/laws.FnCoinsSub", spec := "fnCoinsSub", inPlace := ["math/bits.Add64", "math/bits.Sub64"], unfollowed := true, recurses := true, named := ["pub-doubloon/pub/cosmosmath.ErrIntOverflow"], apart := false, laid := [("pub-doubloon/pub/cosmosmath.ErrIntOverflow", laid_pub_doubloon_pub_cosmosmath_ErrIntOverflow)], narrowed := true }
def FnCoinsSubUptoSaid : Prop := fnCoinsSubUptoRow.holds Tryz.pinned (OpenSpec.upto fnCoinsSubSpec)

/-- 'laws.FnCoinsBack', WHERE WHAT IT READS IS OF BULK AT MOST 1048576: true; the input reads as it did. -/
def fnCoinsBackUptoRow : OpenClaim := { program := "ytagfbefgcijegaagreatdoor", sum := "5571607b17e2d59b910aadaa7ca7fea31129b24d5248bd00d4fbea5dc42e9526", func := "pub-doubloon/laws.FnCoinsBack", spec := "fnCoinsBack", inPlace := ["math/bits.Add64", "math/bits.Sub64"], unfollowed := true, recurses := true, named := ["pub-doubloon/pub/cosmosmath.ErrIntOverflow"], apart := false, laid := [("pub-doubloon/pub/cosmosmath.ErrIntOverflow", laid_pub_doubloon_pub_cosmosmath_ErrIntOverflow)], narrowed := true }
def FnCoinsBackUptoSaid : Prop := fnCoinsBackUptoRow.holds Tryz.pinned (OpenSpec.upto fnCoinsBackSpec)

/-- 'laws.FnCoinsMinMax', WHERE WHAT IT READS IS OF BULK AT MOST 1048576: true; the input reads as it did. -/
def fnCoinsMinMaxUptoRow : OpenClaim := { program := "ytagfbefgcijegaagreatdoor", sum := "5571607b17e2d59b910aadaa7ca7fea31129b24d5248bd00d4fbea5dc42e9526", func := "pub-doubloon/laws.FnCoinsMinMax", spec := "fnCoinsMinMax", inPlace := ["math/bits.Add64", "math/bits.Sub64"], unfollowed := true, recurses := true, named := ["pub-doubloon/pub/cosmosmath.ErrIntOverflow"], apart := false, laid := [("pub-doubloon/pub/cosmosmath.ErrIntOverflow", laid_pub_doubloon_pub_cosmosmath_ErrIntOverflow)], narrowed := true }
def FnCoinsMinMaxUptoSaid : Prop := fnCoinsMinMaxUptoRow.holds Tryz.pinned (OpenSpec.upto fnCoinsMinMaxSpec)

/-- 'laws.FnCoinsCompare', WHERE WHAT IT READS IS OF BULK AT MOST 1048576: true; the input reads as it did. -/
def fnCoinsCompareUptoRow : OpenClaim := { program := "ytagfbefgcijegaagreatdoor", sum := "5571607b17e2d59b910aadaa7ca7fea31129b24d5248bd00d4fbea5dc42e9526", func := "pub-doubloon/laws.FnCoinsCompare", spec := "fnCoinsCompare", inPlace := ["math/bits.Add64", "math/bits.Sub64"], unfollowed := true, recurses := true, named := ["pub-doubloon/pub/cosmosmath.ErrIntOverflow"], apart := false, laid := [("pub-doubloon/pub/cosmosmath.ErrIntOverflow", laid_pub_doubloon_pub_cosmosmath_ErrIntOverflow)], narrowed := true }
def FnCoinsCompareUptoSaid : Prop := fnCoinsCompareUptoRow.holds Tryz.pinned (OpenSpec.upto fnCoinsCompareSpec)

/-- 'laws.FnCoinsOrder', WHERE WHAT IT READS IS OF BULK AT MOST 1048576: true; the input reads as it did. -/
def fnCoinsOrderUptoRow : OpenClaim := { program := "ytagfbefgcijegaagreatdoor", sum := "5571607b17e2d59b910aadaa7ca7fea31129b24d5248bd00d4fbea5dc42e9526", func := "pub-doubloon/laws.FnCoinsOrder", spec := "fnCoinsOrder", inPlace := ["math/bits.Add64", "math/bits.Sub64"], unfollowed := true, recurses := true, named := ["pub-doubloon/pub/cosmosmath.ErrIntOverflow"], apart := false, laid := [("pub-doubloon/pub/cosmosmath.ErrIntOverflow", laid_pub_doubloon_pub_cosmosmath_ErrIntOverflow)], narrowed := true }
def FnCoinsOrderUptoSaid : Prop := fnCoinsOrderUptoRow.holds Tryz.pinned (OpenSpec.upto fnCoinsOrderSpec)

/-- 'laws.FnCoinsBounds', WHERE WHAT IT READS IS OF BULK AT MOST 1048576: true; the input reads as it did. -/
def fnCoinsBoundsUptoRow : OpenClaim := { program := "ytagfbefgcijegaagreatdoor", sum := "5571607b17e2d59b910aadaa7ca7fea31129b24d5248bd00d4fbea5dc42e9526", func := "pub-doubloon/laws.FnCoinsBounds", spec := "fnCoinsBounds", inPlace := ["math/bits.Add64", "math/bits.Sub64"], unfollowed := true, recurses := true, named := ["pub-doubloon/pub/cosmosmath.ErrIntOverflow"], apart := false, laid := [("pub-doubloon/pub/cosmosmath.ErrIntOverflow", laid_pub_doubloon_pub_cosmosmath_ErrIntOverflow)], narrowed := true }
def FnCoinsBoundsUptoSaid : Prop := fnCoinsBoundsUptoRow.holds Tryz.pinned (OpenSpec.upto fnCoinsBoundsSpec)

/-- 'laws.FnCoinsTimes', WHERE WHAT IT READS IS OF BULK AT MOST 1048576: true; the input reads as it did. -/
def fnCoinsTimesUptoRow : OpenClaim := { program := "ytagfbefgcijegaagreatdoor", sum := "5571607b17e2d59b910aadaa7ca7fea31129b24d5248bd00d4fbea5dc42e9526", func := "pub-doubloon/laws.FnCoinsTimes", spec := "fnCoinsTimes", inPlace := ["math/bits.Add64", "math/bits.Sub64"], unfollowed := true, recurses := true, named := ["pub-doubloon/pub/cosmosmath.ErrIntOverflow", "pub-doubloon/pub/bigall.basicSqrThreshold", "pub-doubloon/pub/bigall.karatsubaSqrThreshold", "pub-doubloon/pub/bigall.karatsubaThreshold", "pub-doubloon/pub/cosmosmath.ErrDivideByZero", "pub-doubloon/pub/bigall.divRecursiveThreshold"], apart := false, laid := [("pub-doubloon/pub/bigall.divRecursiveThreshold", laid_pub_doubloon_pub_bigall_divRecursiveThreshold), ("pub-doubloon/pub/bigall.karatsubaThreshold", laid_pub_doubloon_pub_bigall_karatsubaThreshold), ("pub-doubloon/pub/bigall.basicSqrThreshold", laid_pub_doubloon_pub_bigall_basicSqrThreshold), ("pub-doubloon/pub/bigall.karatsubaSqrThreshold", laid_pub_doubloon_pub_bigall_karatsubaSqrThreshold), ("pub-doubloon/pub/cosmosmath.ErrIntOverflow", laid_pub_doubloon_pub_cosmosmath_ErrIntOverflow), ("pub-doubloon/pub/cosmosmath.ErrDivideByZero", laid_pub_doubloon_pub_cosmosmath_ErrDivideByZero)], narrowed := true }
def FnCoinsTimesUptoSaid : Prop := fnCoinsTimesUptoRow.holds Tryz.pinned (OpenSpec.upto fnCoinsTimesSpec)

end Rows
end Go.Proofs.YtagfbefgcijegaaGreatDoor
