/-
  DERIVED. GIVEN WITH THE SEED: THE CARDS: each row of YthnghknmgbimbaaGreatDoorRows.lean that lists a variable, with what it lists TIED to the program's text (the seventh form; the later family's looks); each row that meets fmt, with fmt's text TOLD by the authors' own Lean function (tested against real Go, not proved from fmt's source: count such statements apart). THE CARD IS WHAT COUNTS. Prove the row's statement (the work); the ties are given (YthnghknmgbimbaaGreatDoorTie.lean); close each card by the builder's one call (the guide's Derived/Test/ToyasCard.lean, 'card_holds'). Laid BY PROGRAM, IN A SANDBOX (cutbox-door.mjs). By AI agents, Wed Nov 11 2026. No macro, syntax, notation, axiom, sorry.
-/
import Derived.Test.YthnghknmgbimbaaGreatDoorRows
import GoSem.ClaimSeven
namespace Go.Proofs.YthnghknmgbimbaaGreatDoor
namespace Rows

/-- THE TIED CARD OF 'laws.FnDeciAdd'. -/
def fnDeciAddCard : Claim7 := { stood := { row := fnDeciAddRow, standIns := [], harness := (true, "9373b4bf6aaab3a693a7e5d778b755a7a83cad13fc33175b9102dc51589b1def"), looks := false }, kinds := [], alts := [], laidByText := true, laidKinds := [.data, .data, .data, .data, .data, .data], laidTests := true, laidLooks := .later }
def FnDeciAddCardSaid : Prop := Claim7.holds Tryz.pinned (.plain (OpenSpec.ofChange fnDeciAddSpec)) fnDeciAddCard

/-- THE TIED CARD OF 'laws.FnDeciPair'. -/
def fnDeciPairCard : Claim7 := { stood := { row := fnDeciPairRow, standIns := [], harness := (true, "9373b4bf6aaab3a693a7e5d778b755a7a83cad13fc33175b9102dc51589b1def"), looks := false }, kinds := [], alts := [], laidByText := true, laidKinds := [.data, .data, .data, .data, .data, .data], laidTests := true, laidLooks := .later }
def FnDeciPairCardSaid : Prop := Claim7.holds Tryz.pinned (.plain (OpenSpec.ofChange fnDeciPairSpec)) fnDeciPairCard

/-- THE TIED CARD OF 'laws.FnDeciAmount'. -/
def fnDeciAmountCard : Claim7 := { stood := { row := fnDeciAmountRow, standIns := [], harness := (true, "9373b4bf6aaab3a693a7e5d778b755a7a83cad13fc33175b9102dc51589b1def"), looks := false }, kinds := [], alts := [], laidByText := true, laidKinds := [.data, .data, .data, .data, .data, .data], laidTests := true, laidLooks := .later }
def FnDeciAmountCardSaid : Prop := Claim7.holds Tryz.pinned (.plain (OpenSpec.ofChange fnDeciAmountSpec)) fnDeciAmountCard

/-- THE TIED CARD OF 'laws.FnDeciLess'. -/
def fnDeciLessCard : Claim7 := { stood := { row := fnDeciLessRow, standIns := [], harness := (true, "9373b4bf6aaab3a693a7e5d778b755a7a83cad13fc33175b9102dc51589b1def"), looks := false }, kinds := [], alts := [], laidByText := true, laidKinds := [.data, .data, .data, .data, .data, .data], laidTests := true, laidLooks := .later }
def FnDeciLessCardSaid : Prop := Claim7.holds Tryz.pinned (.plain (OpenSpec.ofChange fnDeciLessSpec)) fnDeciLessCard

/-- THE TIED CARD OF 'laws.FnDeciBoth'. -/
def fnDeciBothCard : Claim7 := { stood := { row := fnDeciBothRow, standIns := [], harness := (true, "9373b4bf6aaab3a693a7e5d778b755a7a83cad13fc33175b9102dc51589b1def"), looks := false }, kinds := [], alts := [], laidByText := true, laidKinds := [.data, .data, .data, .data, .data, .data], laidTests := true, laidLooks := .later }
def FnDeciBothCardSaid : Prop := Claim7.holds Tryz.pinned (.plain (OpenSpec.ofChange fnDeciBothSpec)) fnDeciBothCard

/-- THE TIED CARD OF 'laws.FnDeciErrors'. -/
def fnDeciErrorsCard : Claim7 := { stood := { row := fnDeciErrorsRow, standIns := [], harness := (true, "9373b4bf6aaab3a693a7e5d778b755a7a83cad13fc33175b9102dc51589b1def"), looks := false }, kinds := [], alts := [], laidByText := true, laidKinds := [.data, .data, .data, .data, .data, .data], laidTests := true, laidLooks := .later }
def FnDeciErrorsCardSaid : Prop := Claim7.holds Tryz.pinned (.plain (OpenSpec.ofChange fnDeciErrorsSpec)) fnDeciErrorsCard

/-- THE TIED CARD OF 'laws.FnDeciAbout'. -/
def fnDeciAboutCard : Claim7 := { stood := { row := fnDeciAboutRow, standIns := [], harness := (true, "9373b4bf6aaab3a693a7e5d778b755a7a83cad13fc33175b9102dc51589b1def"), looks := false }, kinds := [], alts := [], laidByText := true, laidKinds := [.data, .data, .data, .data, .data, .data], laidTests := true, laidLooks := .later }
def FnDeciAboutCardSaid : Prop := Claim7.holds Tryz.pinned (.plain (OpenSpec.ofChange fnDeciAboutSpec)) fnDeciAboutCard

/-- THE TIED CARD OF 'laws.FnDeciTimes'. -/
def fnDeciTimesCard : Claim7 := { stood := { row := fnDeciTimesRow, standIns := [], harness := (true, "9373b4bf6aaab3a693a7e5d778b755a7a83cad13fc33175b9102dc51589b1def"), looks := false }, kinds := [], alts := [], laidByText := true, laidKinds := [.data, .data, .data, .data, .data, .data], laidTests := true, laidLooks := .later }
def FnDeciTimesCardSaid : Prop := Claim7.holds Tryz.pinned (.plain (OpenSpec.ofChange fnDeciTimesSpec)) fnDeciTimesCard

/-- THE TIED CARD OF 'laws.FnDeciOver'. -/
def fnDeciOverCard : Claim7 := { stood := { row := fnDeciOverRow, standIns := [], harness := (true, "9373b4bf6aaab3a693a7e5d778b755a7a83cad13fc33175b9102dc51589b1def"), looks := false }, kinds := [], alts := [], laidByText := true, laidKinds := [.data, .data, .data, .data, .data, .data], laidTests := true, laidLooks := .later }
def FnDeciOverCardSaid : Prop := Claim7.holds Tryz.pinned (.plain (OpenSpec.ofChange fnDeciOverSpec)) fnDeciOverCard

/-- THE TIED CARD OF 'laws.FnDeciEqual'. -/
def fnDeciEqualCard : Claim7 := { stood := { row := fnDeciEqualRow, standIns := [], harness := (true, "9373b4bf6aaab3a693a7e5d778b755a7a83cad13fc33175b9102dc51589b1def"), looks := false }, kinds := [], alts := [], laidByText := true, laidKinds := [.data, .data, .data, .data, .data, .data], laidTests := true, laidLooks := .later }
def FnDeciEqualCardSaid : Prop := Claim7.holds Tryz.pinned (.plain (OpenSpec.ofChange fnDeciEqualSpec)) fnDeciEqualCard

/-- THE TIED CARD OF 'laws.FnDeciNew'. -/
def fnDeciNewCard : Claim7 := { stood := { row := fnDeciNewRow, standIns := [], harness := (true, "9373b4bf6aaab3a693a7e5d778b755a7a83cad13fc33175b9102dc51589b1def"), looks := false }, kinds := [], alts := [], laidByText := true, laidKinds := [.data, .data, .data, .data, .data, .data], laidTests := true, laidLooks := .later }
def FnDeciNewCardSaid : Prop := Claim7.holds Tryz.pinned (.plain (OpenSpec.ofChange fnDeciNewSpec)) fnDeciNewCard

/-- THE TIED CARD OF 'laws.FnDeciFrom'. -/
def fnDeciFromCard : Claim7 := { stood := { row := fnDeciFromRow, standIns := [], harness := (true, "9373b4bf6aaab3a693a7e5d778b755a7a83cad13fc33175b9102dc51589b1def"), looks := false }, kinds := [], alts := [], laidByText := true, laidKinds := [.data, .data, .data, .data, .data, .data], laidTests := true, laidLooks := .later }
def FnDeciFromCardSaid : Prop := Claim7.holds Tryz.pinned (.plain (OpenSpec.ofChange fnDeciFromSpec)) fnDeciFromCard

/-- THE TIED CARD OF 'laws.FnDeciThereBack'. -/
def fnDeciThereBackCard : Claim7 := { stood := { row := fnDeciThereBackRow, standIns := [], harness := (true, "9373b4bf6aaab3a693a7e5d778b755a7a83cad13fc33175b9102dc51589b1def"), looks := false }, kinds := [], alts := [], laidByText := true, laidKinds := [.data, .data, .data, .data, .data, .data], laidTests := true, laidLooks := .later }
def FnDeciThereBackCardSaid : Prop := Claim7.holds Tryz.pinned (.plain (OpenSpec.ofChange fnDeciThereBackSpec)) fnDeciThereBackCard

/-- THE SECOND FORM's CARD OF 'laws.FnDeciAdd'. -/
def fnDeciAddUptoCard : Claim7 := { stood := { row := fnDeciAddUptoRow, standIns := [], harness := (true, "9373b4bf6aaab3a693a7e5d778b755a7a83cad13fc33175b9102dc51589b1def"), looks := false }, kinds := [], alts := [], laidByText := true, laidKinds := [.data, .data, .data, .data, .data, .data], laidTests := true, laidLooks := .later }
def FnDeciAddUptoCardSaid : Prop := Claim7.holds Tryz.pinned (.plain (OpenSpec.upto fnDeciAddSpec)) fnDeciAddUptoCard

/-- THE SECOND FORM's CARD OF 'laws.FnDeciPair'. -/
def fnDeciPairUptoCard : Claim7 := { stood := { row := fnDeciPairUptoRow, standIns := [], harness := (true, "9373b4bf6aaab3a693a7e5d778b755a7a83cad13fc33175b9102dc51589b1def"), looks := false }, kinds := [], alts := [], laidByText := true, laidKinds := [.data, .data, .data, .data, .data, .data], laidTests := true, laidLooks := .later }
def FnDeciPairUptoCardSaid : Prop := Claim7.holds Tryz.pinned (.plain (OpenSpec.upto fnDeciPairSpec)) fnDeciPairUptoCard

/-- THE SECOND FORM's CARD OF 'laws.FnDeciAmount'. -/
def fnDeciAmountUptoCard : Claim7 := { stood := { row := fnDeciAmountUptoRow, standIns := [], harness := (true, "9373b4bf6aaab3a693a7e5d778b755a7a83cad13fc33175b9102dc51589b1def"), looks := false }, kinds := [], alts := [], laidByText := true, laidKinds := [.data, .data, .data, .data, .data, .data], laidTests := true, laidLooks := .later }
def FnDeciAmountUptoCardSaid : Prop := Claim7.holds Tryz.pinned (.plain (OpenSpec.upto fnDeciAmountSpec)) fnDeciAmountUptoCard

/-- THE SECOND FORM's CARD OF 'laws.FnDeciLess'. -/
def fnDeciLessUptoCard : Claim7 := { stood := { row := fnDeciLessUptoRow, standIns := [], harness := (true, "9373b4bf6aaab3a693a7e5d778b755a7a83cad13fc33175b9102dc51589b1def"), looks := false }, kinds := [], alts := [], laidByText := true, laidKinds := [.data, .data, .data, .data, .data, .data], laidTests := true, laidLooks := .later }
def FnDeciLessUptoCardSaid : Prop := Claim7.holds Tryz.pinned (.plain (OpenSpec.upto fnDeciLessSpec)) fnDeciLessUptoCard

/-- THE SECOND FORM's CARD OF 'laws.FnDeciBoth'. -/
def fnDeciBothUptoCard : Claim7 := { stood := { row := fnDeciBothUptoRow, standIns := [], harness := (true, "9373b4bf6aaab3a693a7e5d778b755a7a83cad13fc33175b9102dc51589b1def"), looks := false }, kinds := [], alts := [], laidByText := true, laidKinds := [.data, .data, .data, .data, .data, .data], laidTests := true, laidLooks := .later }
def FnDeciBothUptoCardSaid : Prop := Claim7.holds Tryz.pinned (.plain (OpenSpec.upto fnDeciBothSpec)) fnDeciBothUptoCard

/-- THE SECOND FORM's CARD OF 'laws.FnDeciErrors'. -/
def fnDeciErrorsUptoCard : Claim7 := { stood := { row := fnDeciErrorsUptoRow, standIns := [], harness := (true, "9373b4bf6aaab3a693a7e5d778b755a7a83cad13fc33175b9102dc51589b1def"), looks := false }, kinds := [], alts := [], laidByText := true, laidKinds := [.data, .data, .data, .data, .data, .data], laidTests := true, laidLooks := .later }
def FnDeciErrorsUptoCardSaid : Prop := Claim7.holds Tryz.pinned (.plain (OpenSpec.upto fnDeciErrorsSpec)) fnDeciErrorsUptoCard

/-- THE SECOND FORM's CARD OF 'laws.FnDeciAbout'. -/
def fnDeciAboutUptoCard : Claim7 := { stood := { row := fnDeciAboutUptoRow, standIns := [], harness := (true, "9373b4bf6aaab3a693a7e5d778b755a7a83cad13fc33175b9102dc51589b1def"), looks := false }, kinds := [], alts := [], laidByText := true, laidKinds := [.data, .data, .data, .data, .data, .data], laidTests := true, laidLooks := .later }
def FnDeciAboutUptoCardSaid : Prop := Claim7.holds Tryz.pinned (.plain (OpenSpec.upto fnDeciAboutSpec)) fnDeciAboutUptoCard

/-- THE SECOND FORM's CARD OF 'laws.FnDeciTimes'. -/
def fnDeciTimesUptoCard : Claim7 := { stood := { row := fnDeciTimesUptoRow, standIns := [], harness := (true, "9373b4bf6aaab3a693a7e5d778b755a7a83cad13fc33175b9102dc51589b1def"), looks := false }, kinds := [], alts := [], laidByText := true, laidKinds := [.data, .data, .data, .data, .data, .data], laidTests := true, laidLooks := .later }
def FnDeciTimesUptoCardSaid : Prop := Claim7.holds Tryz.pinned (.plain (OpenSpec.upto fnDeciTimesSpec)) fnDeciTimesUptoCard

/-- THE SECOND FORM's CARD OF 'laws.FnDeciOver'. -/
def fnDeciOverUptoCard : Claim7 := { stood := { row := fnDeciOverUptoRow, standIns := [], harness := (true, "9373b4bf6aaab3a693a7e5d778b755a7a83cad13fc33175b9102dc51589b1def"), looks := false }, kinds := [], alts := [], laidByText := true, laidKinds := [.data, .data, .data, .data, .data, .data], laidTests := true, laidLooks := .later }
def FnDeciOverUptoCardSaid : Prop := Claim7.holds Tryz.pinned (.plain (OpenSpec.upto fnDeciOverSpec)) fnDeciOverUptoCard

/-- THE SECOND FORM's CARD OF 'laws.FnDeciEqual'. -/
def fnDeciEqualUptoCard : Claim7 := { stood := { row := fnDeciEqualUptoRow, standIns := [], harness := (true, "9373b4bf6aaab3a693a7e5d778b755a7a83cad13fc33175b9102dc51589b1def"), looks := false }, kinds := [], alts := [], laidByText := true, laidKinds := [.data, .data, .data, .data, .data, .data], laidTests := true, laidLooks := .later }
def FnDeciEqualUptoCardSaid : Prop := Claim7.holds Tryz.pinned (.plain (OpenSpec.upto fnDeciEqualSpec)) fnDeciEqualUptoCard

/-- THE SECOND FORM's CARD OF 'laws.FnDeciNew'. -/
def fnDeciNewUptoCard : Claim7 := { stood := { row := fnDeciNewUptoRow, standIns := [], harness := (true, "9373b4bf6aaab3a693a7e5d778b755a7a83cad13fc33175b9102dc51589b1def"), looks := false }, kinds := [], alts := [], laidByText := true, laidKinds := [.data, .data, .data, .data, .data, .data], laidTests := true, laidLooks := .later }
def FnDeciNewUptoCardSaid : Prop := Claim7.holds Tryz.pinned (.plain (OpenSpec.upto fnDeciNewSpec)) fnDeciNewUptoCard

/-- THE SECOND FORM's CARD OF 'laws.FnDeciFrom'. -/
def fnDeciFromUptoCard : Claim7 := { stood := { row := fnDeciFromUptoRow, standIns := [], harness := (true, "9373b4bf6aaab3a693a7e5d778b755a7a83cad13fc33175b9102dc51589b1def"), looks := false }, kinds := [], alts := [], laidByText := true, laidKinds := [.data, .data, .data, .data, .data, .data], laidTests := true, laidLooks := .later }
def FnDeciFromUptoCardSaid : Prop := Claim7.holds Tryz.pinned (.plain (OpenSpec.upto fnDeciFromSpec)) fnDeciFromUptoCard

/-- THE SECOND FORM's CARD OF 'laws.FnDeciThereBack'. -/
def fnDeciThereBackUptoCard : Claim7 := { stood := { row := fnDeciThereBackUptoRow, standIns := [], harness := (true, "9373b4bf6aaab3a693a7e5d778b755a7a83cad13fc33175b9102dc51589b1def"), looks := false }, kinds := [], alts := [], laidByText := true, laidKinds := [.data, .data, .data, .data, .data, .data], laidTests := true, laidLooks := .later }
def FnDeciThereBackUptoCardSaid : Prop := Claim7.holds Tryz.pinned (.plain (OpenSpec.upto fnDeciThereBackSpec)) fnDeciThereBackUptoCard
end Rows
end Go.Proofs.YthnghknmgbimbaaGreatDoor
