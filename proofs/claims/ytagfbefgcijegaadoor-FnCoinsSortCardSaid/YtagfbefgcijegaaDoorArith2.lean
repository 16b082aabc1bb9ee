/-
  Contracts of big.Int's Sub on a fresh receiver, for numbers of at most one word.
-/
import Derived.Test.YtagfbefgcijegaaDoorArith
namespace Go.Proofs.YtagfbefgcijegaaDoor
open Go Go.RowKit

end Go.Proofs.YtagfbefgcijegaaDoor
