/-
  NARROWER THAN 'FOR EVERY INPUT', by the rows' own cells (each row's printed sentence says how): FnCoinDenom: laid · FnCoinsSort: laid.
  DERIVED. THE GIVEN ROWS OF THIS SEAT. 2 by the template 'for every input the law returns true; each argument reads behind the call as it read before'; 0 by the template 'total and deterministic' (their statements: YtagfbefgcijegaaDoorTotals.lean).
  GIVEN WITH THE SEED: the statements are not yours to turn. If you find one false, say at which input.
  Laid BY PROGRAM, IN A SANDBOX (cutbox-rows.mjs): the forced cells as the released guide's own fill.sh prints them over the translation 1f7ab91bb8797931… (all of the seat's roots in one cut). By AI agents, Wed Nov 11 2026. No macro, syntax, notation, axiom, sorry.
-/
import Derived.Test.YtagfbefgcijegaaDoorChecked
import GoSem.Claim
import GoSem.ClaimJoined
import GoSem.ClaimMapViews
import Derived.JoinedTies
import Derived.KernelRfl
namespace Go.Proofs.YtagfbefgcijegaaDoor
/- THE CELL 'sum', in the pinned program and in every row, IS THE sha256 OF THE DUMP (.gsa) THAT YtagfbefgcijegaaDoorProg.lean LOADS. Nothing in Lean hashes anything: it is a label: what it is worth is what the hold of that sum in a sandbox is worth. -/
noncomputable def Tryd.pinned : Pinned := { name := "ytagfbefgcijegaadoor", sum := "1f7ab91bb8797931295e6322ed1b018b9fac732c5f5ad1c6e5c37d9c0531fa3e", checked := Tryd.checked }
namespace Rows
def none {H : Type} : Left H := { results := [], args := [] }

/- WHAT THE LISTED PACKAGE-LEVEL VARIABLES READ AS WHEN THE CALL BEGINS. Each datum BY PROGRAM (the guide's laid-datum.mjs) off the statement by which the dump's own 'gosem.cut.vars' lays the variable. In a bare row this is a premise. The card (YtagfbefgcijegaaDoorCards.lean) ties it to the program's text. -/
def laid_pub_doubloon_pub_cosmosmath_ErrIntOverflow {H : Type} : DataW H := .iface "*errors.errorString" (.ptr (.agg [.lit (.string [105, 110, 116, 101, 103, 101, 114, 32, 111, 118, 101, 114, 102, 108, 111, 119])]))

/-- 'laws.FnCoinDenom': WHATEVER THE INPUT: true; the input reads as it did. -/
def fnCoinDenomSpec : ChangeSpec := { name := "fnCoinDenom", fn := fun _ => fun
  | [d] => { results := [.lit (.bool true)], args := [d] }
  | _ => none }
def fnCoinDenomRow : OpenClaim := { program := "ytagfbefgcijegaadoor", sum := "1f7ab91bb8797931295e6322ed1b018b9fac732c5f5ad1c6e5c37d9c0531fa3e", func := "pub-doubloon/laws.FnCoinDenom", spec := "fnCoinDenom", inPlace := ["math/bits.Add64", "math/bits.Sub64"], unfollowed := true, recurses := true, named := ["pub-doubloon/pub/cosmosmath.ErrIntOverflow"], apart := false, laid := [("pub-doubloon/pub/cosmosmath.ErrIntOverflow", laid_pub_doubloon_pub_cosmosmath_ErrIntOverflow)] }
def FnCoinDenomSaid : Prop := fnCoinDenomRow.holds Tryd.pinned (OpenSpec.ofChange fnCoinDenomSpec)

/-- ITS FALSE NEIGHBOUR: 'it returns false'. Refute it at one input. -/
def fnCoinDenomWrong : ChangeSpec := { name := "fnCoinDenom", fn := fun _ => fun
  | [d] => { results := [.lit (.bool false)], args := [d] }
  | _ => none }
def FnCoinDenomWrongFalsely : Prop := fnCoinDenomRow.holds Tryd.pinned (OpenSpec.ofChange fnCoinDenomWrong)

/-- 'laws.FnCoinsSort': WHATEVER THE INPUT: true; the input reads as it did. -/
def fnCoinsSortSpec : ChangeSpec := { name := "fnCoinsSort", fn := fun _ => fun
  | [d] => { results := [.lit (.bool true)], args := [d] }
  | _ => none }
def fnCoinsSortRow : OpenClaim := { program := "ytagfbefgcijegaadoor", sum := "1f7ab91bb8797931295e6322ed1b018b9fac732c5f5ad1c6e5c37d9c0531fa3e", func := "pub-doubloon/laws.FnCoinsSort", spec := "fnCoinsSort", inPlace := ["math/bits.Add64", "math/bits.Sub64"], unfollowed := true, recurses := true, named := ["pub-doubloon/pub/cosmosmath.ErrIntOverflow"], apart := false, laid := [("pub-doubloon/pub/cosmosmath.ErrIntOverflow", laid_pub_doubloon_pub_cosmosmath_ErrIntOverflow)] }
def FnCoinsSortSaid : Prop := fnCoinsSortRow.holds Tryd.pinned (OpenSpec.ofChange fnCoinsSortSpec)

/-- ITS FALSE NEIGHBOUR: 'it returns false'. Refute it at one input. -/
def fnCoinsSortWrong : ChangeSpec := { name := "fnCoinsSort", fn := fun _ => fun
  | [d] => { results := [.lit (.bool false)], args := [d] }
  | _ => none }
def FnCoinsSortWrongFalsely : Prop := fnCoinsSortRow.holds Tryd.pinned (OpenSpec.ofChange fnCoinsSortWrong)

/- THE SECOND FORM. 'bulk': how many values and letters a reading holds, each counted each time it is reached (what is shared counts as often as it is met; a slice's spare places count too). A statement '..UptoSaid' is the law's where the arguments, and the package variables that the reading takes, are together of bulk at most 1048576: NARROWER than '..Said'. Prove '..Said' where nothing that the law and all that it calls make is longer than what came in: it says more and counts as full. Else prove '..UptoSaid'. A law counts once. -/
mutual
def uptoBulk {H : Type} : DataW H → Nat
  | .lit (.string bytes) => bytes.length + 1
  | .lit _ => 1
  | .nil => 1
  | .ptr d => uptoBulk d + 1
  | .slice elems spare => uptoBulkAll elems + uptoBulkAll spare + 1
  | .agg parts => uptoBulkAll parts + 1
  | .iface _ d => uptoBulk d + 1
  | .map entries => uptoBulkEntries entries + 1
  | .held _ => 1
def uptoBulkAll {H : Type} : List (DataW H) → Nat
  | [] => 0
  | d :: r => uptoBulk d + uptoBulkAll r
def uptoBulkEntries {H : Type} : List (Lit × DataW H) → Nat
  | [] => 0
  | x :: r => uptoBulkEntry x + uptoBulkEntries r
def uptoBulkEntry {H : Type} : Lit × DataW H → Nat
  | (.string bytes, d) => bytes.length + uptoBulk d + 1
  | (_, d) => uptoBulk d + 1
 end
def uptoSmall : (H : Type) → List (DataW H) → Bool := fun _ ds => decide (uptoBulkAll ds ≤ 1048576)
def OpenSpec.upto (s : _root_.Go.ChangeSpec) : _root_.Go.OpenSpec := { _root_.Go.OpenSpec.ofChange s with cond := some uptoSmall }

/-- 'laws.FnCoinDenom', WHERE WHAT IT READS IS OF BULK AT MOST 1048576: true; the input reads as it did. -/
def fnCoinDenomUptoRow : OpenClaim := { program := "ytagfbefgcijegaadoor", sum := "1f7ab91bb8797931295e6322ed1b018b9fac732c5f5ad1c6e5c37d9c0531fa3e", func := "pub-doubloon/laws.FnCoinDenom", spec := "fnCoinDenom", inPlace := ["math/bits.Add64", "math/bits.Sub64"], unfollowed := true, recurses := true, named := ["pub-doubloon/pub/cosmosmath.ErrIntOverflow"], apart := false, laid := [("pub-doubloon/pub/cosmosmath.ErrIntOverflow", laid_pub_doubloon_pub_cosmosmath_ErrIntOverflow)], narrowed := true }
def FnCoinDenomUptoSaid : Prop := fnCoinDenomUptoRow.holds Tryd.pinned (OpenSpec.upto fnCoinDenomSpec)

/-- 'laws.FnCoinsSort', WHERE WHAT IT READS IS OF BULK AT MOST 1048576: true; the input reads as it did. -/
def fnCoinsSortUptoRow : OpenClaim := { program := "ytagfbefgcijegaadoor", sum := "1f7ab91bb8797931295e6322ed1b018b9fac732c5f5ad1c6e5c37d9c0531fa3e", func := "pub-doubloon/laws.FnCoinsSort", spec := "fnCoinsSort", inPlace := ["math/bits.Add64", "math/bits.Sub64"], unfollowed := true, recurses := true, named := ["pub-doubloon/pub/cosmosmath.ErrIntOverflow"], apart := false, laid := [("pub-doubloon/pub/cosmosmath.ErrIntOverflow", laid_pub_doubloon_pub_cosmosmath_ErrIntOverflow)], narrowed := true }
def FnCoinsSortUptoSaid : Prop := fnCoinsSortUptoRow.holds Tryd.pinned (OpenSpec.upto fnCoinsSortSpec)

end Rows
end Go.Proofs.YtagfbefgcijegaaDoor
