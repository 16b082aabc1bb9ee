/-
  The contracts of big.Int's Neg, cosmosmath's neg, Int.Neg, Coins.negative.
  The contracts of Coins.negative, NewCoins and MakeCoins of sets, Coins.SafeSub and Sub.
  The contracts of NewCoins and MakeCoins of sets, Coins.SafeSub and Sub, impl.SafeOf and SubOf.
-/
import Derived.Test.YtfocejhcdcnnhaaGreatDoorHI
import Derived.Test.YtfocejhcdcnnhaaGreatDoorGB
import Derived.Deep.RegionLaw
import Derived.Test.YtfocejhcdcnnhaaGreatDoorGY
import Derived.Deep.AppendLies
namespace Go.Proofs.YtfocejhcdcnnhaaGreatDoor
open Go Go.RowKit

end Go.Proofs.YtfocejhcdcnnhaaGreatDoor

namespace Go.Proofs.YtfocejhcdcnnhaaGreatDoor
open Go Go.RowKit

end Go.Proofs.YtfocejhcdcnnhaaGreatDoor

namespace Go.Proofs.YtfocejhcdcnnhaaGreatDoor
open Go Go.RowKit

theorem own_lower {w : World} {b b' : Nat} {v : Value} {cs : List Co} (h : CoinsOwn w b v cs) (hb : b' ≤ b) : CoinsOwn w b' v cs := ⟨row_low h.1 hb, h.2⟩

end Go.Proofs.YtfocejhcdcnnhaaGreatDoor
