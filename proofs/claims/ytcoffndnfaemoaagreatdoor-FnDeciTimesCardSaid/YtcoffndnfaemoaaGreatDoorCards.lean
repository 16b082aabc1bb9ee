/-
  DERIVED. GIVEN WITH THE SEED: THE CARDS: each row of YtcoffndnfaemoaaGreatDoorRows.lean that lists a variable, with what it lists TIED to the program's text (the seventh form; the later family's looks); each row that meets fmt, with fmt's text TOLD by the authors' own Lean function (tested against real Go, not proved from fmt's source: count such statements apart). THE CARD IS WHAT COUNTS. Prove the row's statement (the work); the ties are given (YtcoffndnfaemoaaGreatDoorTie.lean); close each card by the builder's one call (the guide's Derived/Test/ToyasCard.lean, 'card_holds'). Laid BY PROGRAM, IN A SANDBOX (cutbox-door.mjs). By AI agents, Wed Nov 11 2026. No macro, syntax, notation, axiom, sorry.
-/
import Derived.Test.YtcoffndnfaemoaaGreatDoorRows
import GoSem.ClaimSeven
namespace Go.Proofs.YtcoffndnfaemoaaGreatDoor
namespace Rows

/-- THE TIED CARD OF 'laws.FnDeciTimes'. -/
def fnDeciTimesCard : Claim7 := { stood := { row := fnDeciTimesRow, standIns := [], harness := (true, "fb518d3137f576c7605df298814a3742012b14117d3d684bf48eca55d2ec021f"), looks := true }, kinds := [], alts := [], laidByText := true, laidKinds := [.data, .data, .data, .data, .data, .data], laidTests := true, laidLooks := .later }
def FnDeciTimesCardSaid : Prop := Claim7.holds Tryz.pinned (.plain (OpenSpec.ofChange fnDeciTimesSpec)) fnDeciTimesCard

/-- THE TIED CARD OF 'laws.FnDeciOver'. -/
def fnDeciOverCard : Claim7 := { stood := { row := fnDeciOverRow, standIns := [], harness := (true, "fb518d3137f576c7605df298814a3742012b14117d3d684bf48eca55d2ec021f"), looks := true }, kinds := [], alts := [], laidByText := true, laidKinds := [.data, .data, .data, .data, .data, .data], laidTests := true, laidLooks := .later }
def FnDeciOverCardSaid : Prop := Claim7.holds Tryz.pinned (.plain (OpenSpec.ofChange fnDeciOverSpec)) fnDeciOverCard

/-- THE TIED CARD OF 'laws.FnUnitsBase'. -/
def fnUnitsBaseCard : Claim7 := { stood := { row := fnUnitsBaseRow, standIns := [], harness := (true, "fb518d3137f576c7605df298814a3742012b14117d3d684bf48eca55d2ec021f"), looks := true }, kinds := [], alts := [], laidByText := true, laidKinds := [.data, .data, .data, .data, .data, .data], laidTests := true, laidLooks := .later }
def FnUnitsBaseCardSaid : Prop := Claim7.holds Tryz.pinned (.plain (OpenSpec.ofChange fnUnitsBaseSpec)) fnUnitsBaseCard

/-- THE TIED CARD OF 'laws.FnUnitsOnce'. -/
def fnUnitsOnceCard : Claim7 := { stood := { row := fnUnitsOnceRow, standIns := [], harness := (true, "fb518d3137f576c7605df298814a3742012b14117d3d684bf48eca55d2ec021f"), looks := true }, kinds := [], alts := [], laidByText := true, laidKinds := [.data, .data, .data, .data, .data, .data], laidTests := true, laidLooks := .later }
def FnUnitsOnceCardSaid : Prop := Claim7.holds Tryz.pinned (.plain (OpenSpec.ofChange fnUnitsOnceSpec)) fnUnitsOnceCard

/-- THE TIED CARD OF 'laws.FnUnitsWhole'. -/
def fnUnitsWholeCard : Claim7 := { stood := { row := fnUnitsWholeRow, standIns := [], harness := (true, "fb518d3137f576c7605df298814a3742012b14117d3d684bf48eca55d2ec021f"), looks := true }, kinds := [], alts := [], laidByText := true, laidKinds := [.data, .data, .data, .data, .data, .data], laidTests := true, laidLooks := .later }
def FnUnitsWholeCardSaid : Prop := Claim7.holds Tryz.pinned (.plain (OpenSpec.ofChange fnUnitsWholeSpec)) fnUnitsWholeCard

/-- THE TIED CARD OF 'laws.FnDenom'. -/
def fnDenomCard : Claim7 := { stood := { row := fnDenomRow, standIns := [], harness := (true, "fb518d3137f576c7605df298814a3742012b14117d3d684bf48eca55d2ec021f"), looks := true }, kinds := [], alts := [], laidByText := true, laidKinds := [.data, .data, .sentinel, .sentinel, .sentinel, .data, .data, .data, .data, .sentinel, .sentinel, .sentinel], laidTests := true, laidLooks := .later }
def FnDenomCardSaid : Prop := Claim7.holds Tryz.pinned (.plain (OpenSpec.ofChange fnDenomSpec)) fnDenomCard

/-- THE TIED CARD OF 'laws.FnCoinOne'. -/
def fnCoinOneCard : Claim7 := { stood := { row := fnCoinOneRow, standIns := [], harness := (true, "fb518d3137f576c7605df298814a3742012b14117d3d684bf48eca55d2ec021f"), looks := true }, kinds := [], alts := [], laidByText := true, laidKinds := [.data, .data, .data, .data, .data, .data, .data, .sentinel], laidTests := true, laidLooks := .later }
def FnCoinOneCardSaid : Prop := Claim7.holds Tryz.pinned (.plain (OpenSpec.ofChange fnCoinOneSpec)) fnCoinOneCard

/-- THE TIED CARD OF 'laws.FnCoinsText'. -/
def fnCoinsTextCard : Claim7 := { stood := { row := fnCoinsTextRow, standIns := [], harness := (true, "fb518d3137f576c7605df298814a3742012b14117d3d684bf48eca55d2ec021f"), looks := true }, kinds := [], alts := [], laidByText := true, laidKinds := [.data, .data, .data, .data, .data, .data, .data, .sentinel], laidTests := true, laidLooks := .later }
def FnCoinsTextCardSaid : Prop := Claim7.holds Tryz.pinned (.plain (OpenSpec.ofChange fnCoinsTextSpec)) fnCoinsTextCard

/-- THE SECOND FORM's CARD OF 'laws.FnDeciTimes'. -/
def fnDeciTimesUptoCard : Claim7 := { stood := { row := fnDeciTimesUptoRow, standIns := [], harness := (true, "fb518d3137f576c7605df298814a3742012b14117d3d684bf48eca55d2ec021f"), looks := true }, kinds := [], alts := [], laidByText := true, laidKinds := [.data, .data, .data, .data, .data, .data], laidTests := true, laidLooks := .later }
def FnDeciTimesUptoCardSaid : Prop := Claim7.holds Tryz.pinned (.plain (OpenSpec.upto fnDeciTimesSpec)) fnDeciTimesUptoCard

/-- THE SECOND FORM's CARD OF 'laws.FnDeciOver'. -/
def fnDeciOverUptoCard : Claim7 := { stood := { row := fnDeciOverUptoRow, standIns := [], harness := (true, "fb518d3137f576c7605df298814a3742012b14117d3d684bf48eca55d2ec021f"), looks := true }, kinds := [], alts := [], laidByText := true, laidKinds := [.data, .data, .data, .data, .data, .data], laidTests := true, laidLooks := .later }
def FnDeciOverUptoCardSaid : Prop := Claim7.holds Tryz.pinned (.plain (OpenSpec.upto fnDeciOverSpec)) fnDeciOverUptoCard

/-- THE SECOND FORM's CARD OF 'laws.FnUnitsBase'. -/
def fnUnitsBaseUptoCard : Claim7 := { stood := { row := fnUnitsBaseUptoRow, standIns := [], harness := (true, "fb518d3137f576c7605df298814a3742012b14117d3d684bf48eca55d2ec021f"), looks := true }, kinds := [], alts := [], laidByText := true, laidKinds := [.data, .data, .data, .data, .data, .data], laidTests := true, laidLooks := .later }
def FnUnitsBaseUptoCardSaid : Prop := Claim7.holds Tryz.pinned (.plain (OpenSpec.upto fnUnitsBaseSpec)) fnUnitsBaseUptoCard

/-- THE SECOND FORM's CARD OF 'laws.FnUnitsOnce'. -/
def fnUnitsOnceUptoCard : Claim7 := { stood := { row := fnUnitsOnceUptoRow, standIns := [], harness := (true, "fb518d3137f576c7605df298814a3742012b14117d3d684bf48eca55d2ec021f"), looks := true }, kinds := [], alts := [], laidByText := true, laidKinds := [.data, .data, .data, .data, .data, .data], laidTests := true, laidLooks := .later }
def FnUnitsOnceUptoCardSaid : Prop := Claim7.holds Tryz.pinned (.plain (OpenSpec.upto fnUnitsOnceSpec)) fnUnitsOnceUptoCard

/-- THE SECOND FORM's CARD OF 'laws.FnUnitsWhole'. -/
def fnUnitsWholeUptoCard : Claim7 := { stood := { row := fnUnitsWholeUptoRow, standIns := [], harness := (true, "fb518d3137f576c7605df298814a3742012b14117d3d684bf48eca55d2ec021f"), looks := true }, kinds := [], alts := [], laidByText := true, laidKinds := [.data, .data, .data, .data, .data, .data], laidTests := true, laidLooks := .later }
def FnUnitsWholeUptoCardSaid : Prop := Claim7.holds Tryz.pinned (.plain (OpenSpec.upto fnUnitsWholeSpec)) fnUnitsWholeUptoCard

/-- THE SECOND FORM's CARD OF 'laws.FnDenom'. -/
def fnDenomUptoCard : Claim7 := { stood := { row := fnDenomUptoRow, standIns := [], harness := (true, "fb518d3137f576c7605df298814a3742012b14117d3d684bf48eca55d2ec021f"), looks := true }, kinds := [], alts := [], laidByText := true, laidKinds := [.data, .data, .sentinel, .sentinel, .sentinel, .data, .data, .data, .data, .sentinel, .sentinel, .sentinel], laidTests := true, laidLooks := .later }
def FnDenomUptoCardSaid : Prop := Claim7.holds Tryz.pinned (.plain (OpenSpec.upto fnDenomSpec)) fnDenomUptoCard

/-- THE SECOND FORM's CARD OF 'laws.FnCoinOne'. -/
def fnCoinOneUptoCard : Claim7 := { stood := { row := fnCoinOneUptoRow, standIns := [], harness := (true, "fb518d3137f576c7605df298814a3742012b14117d3d684bf48eca55d2ec021f"), looks := true }, kinds := [], alts := [], laidByText := true, laidKinds := [.data, .data, .data, .data, .data, .data, .data, .sentinel], laidTests := true, laidLooks := .later }
def FnCoinOneUptoCardSaid : Prop := Claim7.holds Tryz.pinned (.plain (OpenSpec.upto fnCoinOneSpec)) fnCoinOneUptoCard

/-- THE SECOND FORM's CARD OF 'laws.FnCoinsText'. -/
def fnCoinsTextUptoCard : Claim7 := { stood := { row := fnCoinsTextUptoRow, standIns := [], harness := (true, "fb518d3137f576c7605df298814a3742012b14117d3d684bf48eca55d2ec021f"), looks := true }, kinds := [], alts := [], laidByText := true, laidKinds := [.data, .data, .data, .data, .data, .data, .data, .sentinel], laidTests := true, laidLooks := .later }
def FnCoinsTextUptoCardSaid : Prop := Claim7.holds Tryz.pinned (.plain (OpenSpec.upto fnCoinsTextSpec)) fnCoinsTextUptoCard
end Rows
end Go.Proofs.YtcoffndnfaemoaaGreatDoor
