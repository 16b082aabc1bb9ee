/-
  DERIVED. GIVEN WITH THE SEED: THE CARDS: each row of YtfocejhcdcnnhaaGreatDoorRows.lean that lists a variable, with what it lists TIED to the program's text (the seventh form; the later family's looks); each row that meets fmt, with fmt's text TOLD by the authors' own Lean function (tested against real Go, not proved from fmt's source: count such statements apart). THE CARD IS WHAT COUNTS. Prove the row's statement (the work); the ties are given (YtfocejhcdcnnhaaGreatDoorTie.lean); close each card by the builder's one call (the guide's Derived/Test/ToyasCard.lean, 'card_holds'). Laid BY PROGRAM, IN A SANDBOX (cutbox-door.mjs). By AI agents, Wed Nov 11 2026. No macro, syntax, notation, axiom, sorry.
-/
import Derived.Test.YtfocejhcdcnnhaaGreatDoorRows
import GoSem.ClaimSeven
namespace Go.Proofs.YtfocejhcdcnnhaaGreatDoor
namespace Rows

/-- THE TIED CARD OF 'laws.FnDeciTimes'. -/
def fnDeciTimesCard : Claim7 := { stood := { row := fnDeciTimesRow, standIns := [], harness := (true, "248b87f715431251fd35d361be327c01f6a1e36cadcb7816f08069e5f6b6df27"), looks := false }, kinds := [], alts := [], laidByText := true, laidKinds := [.data, .data, .data, .data, .data, .data], laidTests := true, laidLooks := .later }
def FnDeciTimesCardSaid : Prop := Claim7.holds Tryz.pinned (.plain (OpenSpec.ofChange fnDeciTimesSpec)) fnDeciTimesCard

/-- THE TIED CARD OF 'laws.FnDeciOver'. -/
def fnDeciOverCard : Claim7 := { stood := { row := fnDeciOverRow, standIns := [], harness := (true, "248b87f715431251fd35d361be327c01f6a1e36cadcb7816f08069e5f6b6df27"), looks := false }, kinds := [], alts := [], laidByText := true, laidKinds := [.data, .data, .data, .data, .data, .data], laidTests := true, laidLooks := .later }
def FnDeciOverCardSaid : Prop := Claim7.holds Tryz.pinned (.plain (OpenSpec.ofChange fnDeciOverSpec)) fnDeciOverCard

/-- THE TIED CARD OF 'laws.FnDeciNew'. -/
def fnDeciNewCard : Claim7 := { stood := { row := fnDeciNewRow, standIns := [], harness := (true, "248b87f715431251fd35d361be327c01f6a1e36cadcb7816f08069e5f6b6df27"), looks := false }, kinds := [], alts := [], laidByText := true, laidKinds := [.data, .data, .data, .data, .data, .data], laidTests := true, laidLooks := .later }
def FnDeciNewCardSaid : Prop := Claim7.holds Tryz.pinned (.plain (OpenSpec.ofChange fnDeciNewSpec)) fnDeciNewCard

/-- THE TIED CARD OF 'laws.FnDeciFrom'. -/
def fnDeciFromCard : Claim7 := { stood := { row := fnDeciFromRow, standIns := [], harness := (true, "248b87f715431251fd35d361be327c01f6a1e36cadcb7816f08069e5f6b6df27"), looks := false }, kinds := [], alts := [], laidByText := true, laidKinds := [.data, .data, .data, .data, .data, .data], laidTests := true, laidLooks := .later }
def FnDeciFromCardSaid : Prop := Claim7.holds Tryz.pinned (.plain (OpenSpec.ofChange fnDeciFromSpec)) fnDeciFromCard

/-- THE TIED CARD OF 'laws.FnDeciThereBack'. -/
def fnDeciThereBackCard : Claim7 := { stood := { row := fnDeciThereBackRow, standIns := [], harness := (true, "248b87f715431251fd35d361be327c01f6a1e36cadcb7816f08069e5f6b6df27"), looks := false }, kinds := [], alts := [], laidByText := true, laidKinds := [.data, .data, .data, .data, .data, .data], laidTests := true, laidLooks := .later }
def FnDeciThereBackCardSaid : Prop := Claim7.holds Tryz.pinned (.plain (OpenSpec.ofChange fnDeciThereBackSpec)) fnDeciThereBackCard

/-- THE TIED CARD OF 'laws.FnDeciTruncate'. -/
def fnDeciTruncateCard : Claim7 := { stood := { row := fnDeciTruncateRow, standIns := [], harness := (true, "248b87f715431251fd35d361be327c01f6a1e36cadcb7816f08069e5f6b6df27"), looks := false }, kinds := [], alts := [], laidByText := true, laidKinds := [.data, .data, .data, .data, .data, .data, .sentinel], laidTests := true, laidLooks := .later }
def FnDeciTruncateCardSaid : Prop := Claim7.holds Tryz.pinned (.plain (OpenSpec.ofChange fnDeciTruncateSpec)) fnDeciTruncateCard

/-- THE TIED CARD OF 'laws.FnDeciParted'. -/
def fnDeciPartedCard : Claim7 := { stood := { row := fnDeciPartedRow, standIns := [], harness := (true, "248b87f715431251fd35d361be327c01f6a1e36cadcb7816f08069e5f6b6df27"), looks := false }, kinds := [], alts := [], laidByText := true, laidKinds := [.data, .data, .data, .data, .data, .data, .sentinel], laidTests := true, laidLooks := .later }
def FnDeciPartedCardSaid : Prop := Claim7.holds Tryz.pinned (.plain (OpenSpec.ofChange fnDeciPartedSpec)) fnDeciPartedCard

/-- THE SECOND FORM's CARD OF 'laws.FnDeciTimes'. -/
def fnDeciTimesUptoCard : Claim7 := { stood := { row := fnDeciTimesUptoRow, standIns := [], harness := (true, "248b87f715431251fd35d361be327c01f6a1e36cadcb7816f08069e5f6b6df27"), looks := false }, kinds := [], alts := [], laidByText := true, laidKinds := [.data, .data, .data, .data, .data, .data], laidTests := true, laidLooks := .later }
def FnDeciTimesUptoCardSaid : Prop := Claim7.holds Tryz.pinned (.plain (OpenSpec.upto fnDeciTimesSpec)) fnDeciTimesUptoCard

/-- THE SECOND FORM's CARD OF 'laws.FnDeciOver'. -/
def fnDeciOverUptoCard : Claim7 := { stood := { row := fnDeciOverUptoRow, standIns := [], harness := (true, "248b87f715431251fd35d361be327c01f6a1e36cadcb7816f08069e5f6b6df27"), looks := false }, kinds := [], alts := [], laidByText := true, laidKinds := [.data, .data, .data, .data, .data, .data], laidTests := true, laidLooks := .later }
def FnDeciOverUptoCardSaid : Prop := Claim7.holds Tryz.pinned (.plain (OpenSpec.upto fnDeciOverSpec)) fnDeciOverUptoCard

/-- THE SECOND FORM's CARD OF 'laws.FnDeciNew'. -/
def fnDeciNewUptoCard : Claim7 := { stood := { row := fnDeciNewUptoRow, standIns := [], harness := (true, "248b87f715431251fd35d361be327c01f6a1e36cadcb7816f08069e5f6b6df27"), looks := false }, kinds := [], alts := [], laidByText := true, laidKinds := [.data, .data, .data, .data, .data, .data], laidTests := true, laidLooks := .later }
def FnDeciNewUptoCardSaid : Prop := Claim7.holds Tryz.pinned (.plain (OpenSpec.upto fnDeciNewSpec)) fnDeciNewUptoCard

/-- THE SECOND FORM's CARD OF 'laws.FnDeciFrom'. -/
def fnDeciFromUptoCard : Claim7 := { stood := { row := fnDeciFromUptoRow, standIns := [], harness := (true, "248b87f715431251fd35d361be327c01f6a1e36cadcb7816f08069e5f6b6df27"), looks := false }, kinds := [], alts := [], laidByText := true, laidKinds := [.data, .data, .data, .data, .data, .data], laidTests := true, laidLooks := .later }
def FnDeciFromUptoCardSaid : Prop := Claim7.holds Tryz.pinned (.plain (OpenSpec.upto fnDeciFromSpec)) fnDeciFromUptoCard

/-- THE SECOND FORM's CARD OF 'laws.FnDeciThereBack'. -/
def fnDeciThereBackUptoCard : Claim7 := { stood := { row := fnDeciThereBackUptoRow, standIns := [], harness := (true, "248b87f715431251fd35d361be327c01f6a1e36cadcb7816f08069e5f6b6df27"), looks := false }, kinds := [], alts := [], laidByText := true, laidKinds := [.data, .data, .data, .data, .data, .data], laidTests := true, laidLooks := .later }
def FnDeciThereBackUptoCardSaid : Prop := Claim7.holds Tryz.pinned (.plain (OpenSpec.upto fnDeciThereBackSpec)) fnDeciThereBackUptoCard

/-- THE SECOND FORM's CARD OF 'laws.FnDeciTruncate'. -/
def fnDeciTruncateUptoCard : Claim7 := { stood := { row := fnDeciTruncateUptoRow, standIns := [], harness := (true, "248b87f715431251fd35d361be327c01f6a1e36cadcb7816f08069e5f6b6df27"), looks := false }, kinds := [], alts := [], laidByText := true, laidKinds := [.data, .data, .data, .data, .data, .data, .sentinel], laidTests := true, laidLooks := .later }
def FnDeciTruncateUptoCardSaid : Prop := Claim7.holds Tryz.pinned (.plain (OpenSpec.upto fnDeciTruncateSpec)) fnDeciTruncateUptoCard

/-- THE SECOND FORM's CARD OF 'laws.FnDeciParted'. -/
def fnDeciPartedUptoCard : Claim7 := { stood := { row := fnDeciPartedUptoRow, standIns := [], harness := (true, "248b87f715431251fd35d361be327c01f6a1e36cadcb7816f08069e5f6b6df27"), looks := false }, kinds := [], alts := [], laidByText := true, laidKinds := [.data, .data, .data, .data, .data, .data, .sentinel], laidTests := true, laidLooks := .later }
def FnDeciPartedUptoCardSaid : Prop := Claim7.holds Tryz.pinned (.plain (OpenSpec.upto fnDeciPartedSpec)) fnDeciPartedUptoCard
end Rows
end Go.Proofs.YtfocejhcdcnnhaaGreatDoor
