/-
  DERIVED. GIVEN WITH THE SEED: THE CARDS: each row of YtagfbefgcijegaaDoorRows.lean that lists a variable, with what it lists TIED to the program's text (the seventh form; the later family's looks); each row that meets fmt, with fmt's text TOLD by the authors' own Lean function (tested against real Go, not proved from fmt's source: count such statements apart). THE CARD IS WHAT COUNTS. Prove the row's statement (the work); the ties are given (YtagfbefgcijegaaDoorTie.lean); close each card by the builder's one call (the guide's Derived/Test/ToyasCard.lean, 'card_holds'). Laid BY PROGRAM, IN A SANDBOX (cutbox-door.mjs). By AI agents, Wed Nov 11 2026. No macro, syntax, notation, axiom, sorry.
-/
import Derived.Test.YtagfbefgcijegaaDoorRows
import GoSem.ClaimSeven
namespace Go.Proofs.YtagfbefgcijegaaDoor
namespace Rows

/-- THE TIED CARD OF 'laws.FnCoinDenom'. -/
def fnCoinDenomCard : Claim7 := { stood := { row := fnCoinDenomRow, standIns := [], harness := (true, "166830c4d855b984b0148bde93fb55e2327d307a96dc37c5c491dd4c92b8122a"), looks := false }, kinds := [], alts := [], laidByText := true, laidKinds := [.sentinel], laidTests := true, laidLooks := .later }
def FnCoinDenomCardSaid : Prop := Claim7.holds Tryd.pinned (.plain (OpenSpec.ofChange fnCoinDenomSpec)) fnCoinDenomCard

/-- THE TIED CARD OF 'laws.FnCoinsSort'. -/
def fnCoinsSortCard : Claim7 := { stood := { row := fnCoinsSortRow, standIns := [], harness := (true, "166830c4d855b984b0148bde93fb55e2327d307a96dc37c5c491dd4c92b8122a"), looks := false }, kinds := [], alts := [], laidByText := true, laidKinds := [.sentinel], laidTests := true, laidLooks := .later }
def FnCoinsSortCardSaid : Prop := Claim7.holds Tryd.pinned (.plain (OpenSpec.ofChange fnCoinsSortSpec)) fnCoinsSortCard

/-- THE SECOND FORM's CARD OF 'laws.FnCoinDenom'. -/
def fnCoinDenomUptoCard : Claim7 := { stood := { row := fnCoinDenomUptoRow, standIns := [], harness := (true, "166830c4d855b984b0148bde93fb55e2327d307a96dc37c5c491dd4c92b8122a"), looks := false }, kinds := [], alts := [], laidByText := true, laidKinds := [.sentinel], laidTests := true, laidLooks := .later }
def FnCoinDenomUptoCardSaid : Prop := Claim7.holds Tryd.pinned (.plain (OpenSpec.upto fnCoinDenomSpec)) fnCoinDenomUptoCard

/-- THE SECOND FORM's CARD OF 'laws.FnCoinsSort'. -/
def fnCoinsSortUptoCard : Claim7 := { stood := { row := fnCoinsSortUptoRow, standIns := [], harness := (true, "166830c4d855b984b0148bde93fb55e2327d307a96dc37c5c491dd4c92b8122a"), looks := false }, kinds := [], alts := [], laidByText := true, laidKinds := [.sentinel], laidTests := true, laidLooks := .later }
def FnCoinsSortUptoCardSaid : Prop := Claim7.holds Tryd.pinned (.plain (OpenSpec.upto fnCoinsSortSpec)) fnCoinsSortUptoCard
end Rows
end Go.Proofs.YtagfbefgcijegaaDoor
