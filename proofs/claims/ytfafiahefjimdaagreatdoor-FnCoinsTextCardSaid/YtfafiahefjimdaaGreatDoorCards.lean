/-
  DERIVED. GIVEN WITH THE SEED: THE CARDS: each row of YtfafiahefjimdaaGreatDoorRows.lean that lists a variable, with what it lists TIED to the program's text (the seventh form; the later family's looks); each row that meets fmt, with fmt's text TOLD by the authors' own Lean function (tested against real Go, not proved from fmt's source: count such statements apart). THE CARD IS WHAT COUNTS. Prove the row's statement (the work); the ties are given (YtfafiahefjimdaaGreatDoorTie.lean); close each card by the builder's one call (the guide's Derived/Test/ToyasCard.lean, 'card_holds'). Laid BY PROGRAM, IN A SANDBOX (cutbox-door.mjs). By AI agents, Wed Nov 11 2026. No macro, syntax, notation, axiom, sorry.
-/
import Derived.Test.YtfafiahefjimdaaGreatDoorRows
import GoSem.ClaimSeven
namespace Go.Proofs.YtfafiahefjimdaaGreatDoor
namespace Rows

/-- THE TIED CARD OF 'laws.FnDeciOver'. -/
def fnDeciOverCard : Claim7 := { stood := { row := fnDeciOverRow, standIns := [], harness := (true, "9d1741159e86aa07f73b73b066fc5b5b8230cac3093249f115941efb7317a0ac"), looks := true }, kinds := [], alts := [], laidByText := true, laidKinds := [.data, .data, .data, .data, .data, .data], laidTests := true, laidLooks := .later }
def FnDeciOverCardSaid : Prop := Claim7.holds Tryz.pinned (.plain (OpenSpec.ofChange fnDeciOverSpec)) fnDeciOverCard

/-- THE TIED CARD OF 'laws.FnUnits'. -/
def fnUnitsCard : Claim7 := { stood := { row := fnUnitsRow, standIns := [], harness := (true, "9d1741159e86aa07f73b73b066fc5b5b8230cac3093249f115941efb7317a0ac"), looks := true }, kinds := [], alts := [], laidByText := true, laidKinds := [.data, .data, .data, .data, .data, .data], laidTests := true, laidLooks := .later }
def FnUnitsCardSaid : Prop := Claim7.holds Tryz.pinned (.plain (OpenSpec.ofChange fnUnitsSpec)) fnUnitsCard

/-- THE TIED CARD OF 'laws.FnUnitsWhole'. -/
def fnUnitsWholeCard : Claim7 := { stood := { row := fnUnitsWholeRow, standIns := [], harness := (true, "9d1741159e86aa07f73b73b066fc5b5b8230cac3093249f115941efb7317a0ac"), looks := true }, kinds := [], alts := [], laidByText := true, laidKinds := [.data, .data, .data, .data, .data, .data], laidTests := true, laidLooks := .later }
def FnUnitsWholeCardSaid : Prop := Claim7.holds Tryz.pinned (.plain (OpenSpec.ofChange fnUnitsWholeSpec)) fnUnitsWholeCard

/-- THE TIED CARD OF 'laws.FnParseDec'. -/
def fnParseDecCard : Claim7 := { stood := { row := fnParseDecRow, standIns := [], harness := (true, "9d1741159e86aa07f73b73b066fc5b5b8230cac3093249f115941efb7317a0ac"), looks := true }, kinds := [], alts := [], laidByText := true, laidKinds := [.data, .data, .sentinel, .sentinel, .sentinel, .data, .data, .data, .data, .sentinel, .sentinel, .sentinel], laidTests := true, laidLooks := .later }
def FnParseDecCardSaid : Prop := Claim7.holds Tryz.pinned (.plain (OpenSpec.ofChange fnParseDecSpec)) fnParseDecCard

/-- THE TIED CARD OF 'laws.FnDenom'. -/
def fnDenomCard : Claim7 := { stood := { row := fnDenomRow, standIns := [], harness := (true, "9d1741159e86aa07f73b73b066fc5b5b8230cac3093249f115941efb7317a0ac"), looks := true }, kinds := [], alts := [], laidByText := true, laidKinds := [.data, .data, .sentinel, .sentinel, .sentinel, .data, .data, .data, .data, .sentinel, .sentinel, .sentinel], laidTests := true, laidLooks := .later }
def FnDenomCardSaid : Prop := Claim7.holds Tryz.pinned (.plain (OpenSpec.ofChange fnDenomSpec)) fnDenomCard

/-- THE TIED CARD OF 'laws.FnDeciOne'. -/
def fnDeciOneCard : Claim7 := { stood := { row := fnDeciOneRow, standIns := [], harness := (true, "9d1741159e86aa07f73b73b066fc5b5b8230cac3093249f115941efb7317a0ac"), looks := true }, kinds := [], alts := [], laidByText := true, laidKinds := [.data, .data, .data, .data, .data, .data, .data], laidTests := true, laidLooks := .later }
def FnDeciOneCardSaid : Prop := Claim7.holds Tryz.pinned (.plain (OpenSpec.ofChange fnDeciOneSpec)) fnDeciOneCard

/-- THE TIED CARD OF 'laws.FnCoinOne'. -/
def fnCoinOneCard : Claim7 := { stood := { row := fnCoinOneRow, standIns := [], harness := (true, "9d1741159e86aa07f73b73b066fc5b5b8230cac3093249f115941efb7317a0ac"), looks := true }, kinds := [], alts := [], laidByText := true, laidKinds := [.data, .data, .data, .data, .data, .data, .data, .sentinel], laidTests := true, laidLooks := .later }
def FnCoinOneCardSaid : Prop := Claim7.holds Tryz.pinned (.plain (OpenSpec.ofChange fnCoinOneSpec)) fnCoinOneCard

/-- THE TIED CARD OF 'laws.FnCoinsText'. -/
def fnCoinsTextCard : Claim7 := { stood := { row := fnCoinsTextRow, standIns := [], harness := (true, "9d1741159e86aa07f73b73b066fc5b5b8230cac3093249f115941efb7317a0ac"), looks := true }, kinds := [], alts := [], laidByText := true, laidKinds := [.data, .data, .data, .data, .data, .data, .data, .sentinel], laidTests := true, laidLooks := .later }
def FnCoinsTextCardSaid : Prop := Claim7.holds Tryz.pinned (.plain (OpenSpec.ofChange fnCoinsTextSpec)) fnCoinsTextCard

/-- THE TIED CARD OF 'laws.FnParseCoin'. -/
def fnParseCoinCard : Claim7 := { stood := { row := fnParseCoinRow, standIns := [], harness := (true, "9d1741159e86aa07f73b73b066fc5b5b8230cac3093249f115941efb7317a0ac"), looks := true }, kinds := [], alts := [], laidByText := true, laidKinds := [.data, .data, .sentinel, .sentinel, .sentinel, .data, .data, .data, .data, .sentinel, .sentinel, .sentinel], laidTests := true, laidLooks := .later }
def FnParseCoinCardSaid : Prop := Claim7.holds Tryz.pinned (.plain (OpenSpec.ofChange fnParseCoinSpec)) fnParseCoinCard

/-- THE TIED CARD OF 'laws.FnParseUnits'. -/
def fnParseUnitsCard : Claim7 := { stood := { row := fnParseUnitsRow, standIns := [], harness := (true, "9d1741159e86aa07f73b73b066fc5b5b8230cac3093249f115941efb7317a0ac"), looks := true }, kinds := [], alts := [], laidByText := true, laidKinds := [.data, .data, .sentinel, .sentinel, .sentinel, .data, .data, .data, .data, .sentinel, .sentinel, .sentinel], laidTests := true, laidLooks := .later }
def FnParseUnitsCardSaid : Prop := Claim7.holds Tryz.pinned (.plain (OpenSpec.ofChange fnParseUnitsSpec)) fnParseUnitsCard

/-- THE SECOND FORM's CARD OF 'laws.FnDeciOver'. -/
def fnDeciOverUptoCard : Claim7 := { stood := { row := fnDeciOverUptoRow, standIns := [], harness := (true, "9d1741159e86aa07f73b73b066fc5b5b8230cac3093249f115941efb7317a0ac"), looks := true }, kinds := [], alts := [], laidByText := true, laidKinds := [.data, .data, .data, .data, .data, .data], laidTests := true, laidLooks := .later }
def FnDeciOverUptoCardSaid : Prop := Claim7.holds Tryz.pinned (.plain (OpenSpec.upto fnDeciOverSpec)) fnDeciOverUptoCard

/-- THE SECOND FORM's CARD OF 'laws.FnUnits'. -/
def fnUnitsUptoCard : Claim7 := { stood := { row := fnUnitsUptoRow, standIns := [], harness := (true, "9d1741159e86aa07f73b73b066fc5b5b8230cac3093249f115941efb7317a0ac"), looks := true }, kinds := [], alts := [], laidByText := true, laidKinds := [.data, .data, .data, .data, .data, .data], laidTests := true, laidLooks := .later }
def FnUnitsUptoCardSaid : Prop := Claim7.holds Tryz.pinned (.plain (OpenSpec.upto fnUnitsSpec)) fnUnitsUptoCard

/-- THE SECOND FORM's CARD OF 'laws.FnUnitsWhole'. -/
def fnUnitsWholeUptoCard : Claim7 := { stood := { row := fnUnitsWholeUptoRow, standIns := [], harness := (true, "9d1741159e86aa07f73b73b066fc5b5b8230cac3093249f115941efb7317a0ac"), looks := true }, kinds := [], alts := [], laidByText := true, laidKinds := [.data, .data, .data, .data, .data, .data], laidTests := true, laidLooks := .later }
def FnUnitsWholeUptoCardSaid : Prop := Claim7.holds Tryz.pinned (.plain (OpenSpec.upto fnUnitsWholeSpec)) fnUnitsWholeUptoCard

/-- THE SECOND FORM's CARD OF 'laws.FnParseDec'. -/
def fnParseDecUptoCard : Claim7 := { stood := { row := fnParseDecUptoRow, standIns := [], harness := (true, "9d1741159e86aa07f73b73b066fc5b5b8230cac3093249f115941efb7317a0ac"), looks := true }, kinds := [], alts := [], laidByText := true, laidKinds := [.data, .data, .sentinel, .sentinel, .sentinel, .data, .data, .data, .data, .sentinel, .sentinel, .sentinel], laidTests := true, laidLooks := .later }
def FnParseDecUptoCardSaid : Prop := Claim7.holds Tryz.pinned (.plain (OpenSpec.upto fnParseDecSpec)) fnParseDecUptoCard

/-- THE SECOND FORM's CARD OF 'laws.FnDenom'. -/
def fnDenomUptoCard : Claim7 := { stood := { row := fnDenomUptoRow, standIns := [], harness := (true, "9d1741159e86aa07f73b73b066fc5b5b8230cac3093249f115941efb7317a0ac"), looks := true }, kinds := [], alts := [], laidByText := true, laidKinds := [.data, .data, .sentinel, .sentinel, .sentinel, .data, .data, .data, .data, .sentinel, .sentinel, .sentinel], laidTests := true, laidLooks := .later }
def FnDenomUptoCardSaid : Prop := Claim7.holds Tryz.pinned (.plain (OpenSpec.upto fnDenomSpec)) fnDenomUptoCard

/-- THE SECOND FORM's CARD OF 'laws.FnDeciOne'. -/
def fnDeciOneUptoCard : Claim7 := { stood := { row := fnDeciOneUptoRow, standIns := [], harness := (true, "9d1741159e86aa07f73b73b066fc5b5b8230cac3093249f115941efb7317a0ac"), looks := true }, kinds := [], alts := [], laidByText := true, laidKinds := [.data, .data, .data, .data, .data, .data, .data], laidTests := true, laidLooks := .later }
def FnDeciOneUptoCardSaid : Prop := Claim7.holds Tryz.pinned (.plain (OpenSpec.upto fnDeciOneSpec)) fnDeciOneUptoCard

/-- THE SECOND FORM's CARD OF 'laws.FnCoinOne'. -/
def fnCoinOneUptoCard : Claim7 := { stood := { row := fnCoinOneUptoRow, standIns := [], harness := (true, "9d1741159e86aa07f73b73b066fc5b5b8230cac3093249f115941efb7317a0ac"), looks := true }, kinds := [], alts := [], laidByText := true, laidKinds := [.data, .data, .data, .data, .data, .data, .data, .sentinel], laidTests := true, laidLooks := .later }
def FnCoinOneUptoCardSaid : Prop := Claim7.holds Tryz.pinned (.plain (OpenSpec.upto fnCoinOneSpec)) fnCoinOneUptoCard

/-- THE SECOND FORM's CARD OF 'laws.FnCoinsText'. -/
def fnCoinsTextUptoCard : Claim7 := { stood := { row := fnCoinsTextUptoRow, standIns := [], harness := (true, "9d1741159e86aa07f73b73b066fc5b5b8230cac3093249f115941efb7317a0ac"), looks := true }, kinds := [], alts := [], laidByText := true, laidKinds := [.data, .data, .data, .data, .data, .data, .data, .sentinel], laidTests := true, laidLooks := .later }
def FnCoinsTextUptoCardSaid : Prop := Claim7.holds Tryz.pinned (.plain (OpenSpec.upto fnCoinsTextSpec)) fnCoinsTextUptoCard

/-- THE SECOND FORM's CARD OF 'laws.FnParseCoin'. -/
def fnParseCoinUptoCard : Claim7 := { stood := { row := fnParseCoinUptoRow, standIns := [], harness := (true, "9d1741159e86aa07f73b73b066fc5b5b8230cac3093249f115941efb7317a0ac"), looks := true }, kinds := [], alts := [], laidByText := true, laidKinds := [.data, .data, .sentinel, .sentinel, .sentinel, .data, .data, .data, .data, .sentinel, .sentinel, .sentinel], laidTests := true, laidLooks := .later }
def FnParseCoinUptoCardSaid : Prop := Claim7.holds Tryz.pinned (.plain (OpenSpec.upto fnParseCoinSpec)) fnParseCoinUptoCard

/-- THE SECOND FORM's CARD OF 'laws.FnParseUnits'. -/
def fnParseUnitsUptoCard : Claim7 := { stood := { row := fnParseUnitsUptoRow, standIns := [], harness := (true, "9d1741159e86aa07f73b73b066fc5b5b8230cac3093249f115941efb7317a0ac"), looks := true }, kinds := [], alts := [], laidByText := true, laidKinds := [.data, .data, .sentinel, .sentinel, .sentinel, .data, .data, .data, .data, .sentinel, .sentinel, .sentinel], laidTests := true, laidLooks := .later }
def FnParseUnitsUptoCardSaid : Prop := Claim7.holds Tryz.pinned (.plain (OpenSpec.upto fnParseUnitsSpec)) fnParseUnitsUptoCard
end Rows
end Go.Proofs.YtfafiahefjimdaaGreatDoor
