/-
  DERIVED. GIVEN WITH THE SEED: THE CARDS: each row of YtagfbefgcijegaaGreatDoorRows.lean that lists a variable, with what it lists TIED to the program's text (the seventh form; the later family's looks); each row that meets fmt, with fmt's text TOLD by the authors' own Lean function (tested against real Go, not proved from fmt's source: count such statements apart). THE CARD IS WHAT COUNTS. Prove the row's statement (the work); the ties are given (YtagfbefgcijegaaGreatDoorTie.lean); close each card by the builder's one call (the guide's Derived/Test/ToyasCard.lean, 'card_holds'). Laid BY PROGRAM, IN A SANDBOX (cutbox-door.mjs). By AI agents, Wed Nov 11 2026. No macro, syntax, notation, axiom, sorry.
-/
import Derived.Test.YtagfbefgcijegaaGreatDoorRows
import GoSem.ClaimSeven
namespace Go.Proofs.YtagfbefgcijegaaGreatDoor
namespace Rows

/-- THE TIED CARD OF 'laws.FnCoinsAdd'. -/
def fnCoinsAddCard : Claim7 := { stood := { row := fnCoinsAddRow, standIns := [], harness := (true, "566b9bf4846ec01224ef69c3c30a34d154d0f4dd060aeef2cf2a8cfc31596479"), looks := false }, kinds := [], alts := [], laidByText := true, laidKinds := [.sentinel], laidTests := true, laidLooks := .later }
def FnCoinsAddCardSaid : Prop := Claim7.holds Tryz.pinned (.plain (OpenSpec.ofChange fnCoinsAddSpec)) fnCoinsAddCard

/-- THE TIED CARD OF 'laws.FnCoinsAlike'. -/
def fnCoinsAlikeCard : Claim7 := { stood := { row := fnCoinsAlikeRow, standIns := [], harness := (true, "566b9bf4846ec01224ef69c3c30a34d154d0f4dd060aeef2cf2a8cfc31596479"), looks := false }, kinds := [], alts := [], laidByText := true, laidKinds := [.sentinel], laidTests := true, laidLooks := .later }
def FnCoinsAlikeCardSaid : Prop := Claim7.holds Tryz.pinned (.plain (OpenSpec.ofChange fnCoinsAlikeSpec)) fnCoinsAlikeCard

/-- THE TIED CARD OF 'laws.FnCoinsEqual'. -/
def fnCoinsEqualCard : Claim7 := { stood := { row := fnCoinsEqualRow, standIns := [], harness := (true, "566b9bf4846ec01224ef69c3c30a34d154d0f4dd060aeef2cf2a8cfc31596479"), looks := false }, kinds := [], alts := [], laidByText := true, laidKinds := [.sentinel], laidTests := true, laidLooks := .later }
def FnCoinsEqualCardSaid : Prop := Claim7.holds Tryz.pinned (.plain (OpenSpec.ofChange fnCoinsEqualSpec)) fnCoinsEqualCard

/-- THE TIED CARD OF 'laws.FnCoinsFind'. -/
def fnCoinsFindCard : Claim7 := { stood := { row := fnCoinsFindRow, standIns := [], harness := (true, "566b9bf4846ec01224ef69c3c30a34d154d0f4dd060aeef2cf2a8cfc31596479"), looks := false }, kinds := [], alts := [], laidByText := true, laidKinds := [.sentinel], laidTests := true, laidLooks := .later }
def FnCoinsFindCardSaid : Prop := Claim7.holds Tryz.pinned (.plain (OpenSpec.ofChange fnCoinsFindSpec)) fnCoinsFindCard

/-- THE TIED CARD OF 'laws.FnCoinPair'. -/
def fnCoinPairCard : Claim7 := { stood := { row := fnCoinPairRow, standIns := [], harness := (true, "566b9bf4846ec01224ef69c3c30a34d154d0f4dd060aeef2cf2a8cfc31596479"), looks := false }, kinds := [], alts := [], laidByText := true, laidKinds := [.sentinel], laidTests := true, laidLooks := .later }
def FnCoinPairCardSaid : Prop := Claim7.holds Tryz.pinned (.plain (OpenSpec.ofChange fnCoinPairSpec)) fnCoinPairCard

/-- THE TIED CARD OF 'laws.FnCoinsNew'. -/
def fnCoinsNewCard : Claim7 := { stood := { row := fnCoinsNewRow, standIns := [], harness := (true, "566b9bf4846ec01224ef69c3c30a34d154d0f4dd060aeef2cf2a8cfc31596479"), looks := false }, kinds := [], alts := [], laidByText := true, laidKinds := [.sentinel], laidTests := true, laidLooks := .later }
def FnCoinsNewCardSaid : Prop := Claim7.holds Tryz.pinned (.plain (OpenSpec.ofChange fnCoinsNewSpec)) fnCoinsNewCard

/-- THE TIED CARD OF 'laws.FnCoinSum'. -/
def fnCoinSumCard : Claim7 := { stood := { row := fnCoinSumRow, standIns := [], harness := (true, "566b9bf4846ec01224ef69c3c30a34d154d0f4dd060aeef2cf2a8cfc31596479"), looks := false }, kinds := [], alts := [], laidByText := true, laidKinds := [.sentinel], laidTests := true, laidLooks := .later }
def FnCoinSumCardSaid : Prop := Claim7.holds Tryz.pinned (.plain (OpenSpec.ofChange fnCoinSumSpec)) fnCoinSumCard

/-- THE TIED CARD OF 'laws.FnCoinsAbout'. -/
def fnCoinsAboutCard : Claim7 := { stood := { row := fnCoinsAboutRow, standIns := [], harness := (true, "566b9bf4846ec01224ef69c3c30a34d154d0f4dd060aeef2cf2a8cfc31596479"), looks := false }, kinds := [], alts := [], laidByText := true, laidKinds := [.sentinel], laidTests := true, laidLooks := .later }
def FnCoinsAboutCardSaid : Prop := Claim7.holds Tryz.pinned (.plain (OpenSpec.ofChange fnCoinsAboutSpec)) fnCoinsAboutCard

/-- THE TIED CARD OF 'laws.FnCoinsErr'. -/
def fnCoinsErrCard : Claim7 := { stood := { row := fnCoinsErrRow, standIns := [], harness := (true, "566b9bf4846ec01224ef69c3c30a34d154d0f4dd060aeef2cf2a8cfc31596479"), looks := false }, kinds := [], alts := [], laidByText := true, laidKinds := [.sentinel], laidTests := true, laidLooks := .later }
def FnCoinsErrCardSaid : Prop := Claim7.holds Tryz.pinned (.plain (OpenSpec.ofChange fnCoinsErrSpec)) fnCoinsErrCard

/-- THE TIED CARD OF 'laws.FnCoinsSub'. -/
def fnCoinsSubCard : Claim7 := { stood := { row := fnCoinsSubRow, standIns := [], harness := (true, "566b9bf4846ec01224ef69c3c30a34d154d0f4dd060aeef2cf2a8cfc31596479"), looks := false }, kinds := [], alts := [], laidByText := true, laidKinds := [.sentinel], laidTests := true, laidLooks := .later }
def FnCoinsSubCardSaid : Prop := Claim7.holds Tryz.pinned (.plain (OpenSpec.ofChange fnCoinsSubSpec)) fnCoinsSubCard

/-- THE TIED CARD OF 'laws.FnCoinsBack'. -/
def fnCoinsBackCard : Claim7 := { stood := { row := fnCoinsBackRow, standIns := [], harness := (true, "566b9bf4846ec01224ef69c3c30a34d154d0f4dd060aeef2cf2a8cfc31596479"), looks := false }, kinds := [], alts := [], laidByText := true, laidKinds := [.sentinel], laidTests := true, laidLooks := .later }
def FnCoinsBackCardSaid : Prop := Claim7.holds Tryz.pinned (.plain (OpenSpec.ofChange fnCoinsBackSpec)) fnCoinsBackCard

/-- THE TIED CARD OF 'laws.FnCoinsMinMax'. -/
def fnCoinsMinMaxCard : Claim7 := { stood := { row := fnCoinsMinMaxRow, standIns := [], harness := (true, "566b9bf4846ec01224ef69c3c30a34d154d0f4dd060aeef2cf2a8cfc31596479"), looks := false }, kinds := [], alts := [], laidByText := true, laidKinds := [.sentinel], laidTests := true, laidLooks := .later }
def FnCoinsMinMaxCardSaid : Prop := Claim7.holds Tryz.pinned (.plain (OpenSpec.ofChange fnCoinsMinMaxSpec)) fnCoinsMinMaxCard

/-- THE TIED CARD OF 'laws.FnCoinsCompare'. -/
def fnCoinsCompareCard : Claim7 := { stood := { row := fnCoinsCompareRow, standIns := [], harness := (true, "566b9bf4846ec01224ef69c3c30a34d154d0f4dd060aeef2cf2a8cfc31596479"), looks := false }, kinds := [], alts := [], laidByText := true, laidKinds := [.sentinel], laidTests := true, laidLooks := .later }
def FnCoinsCompareCardSaid : Prop := Claim7.holds Tryz.pinned (.plain (OpenSpec.ofChange fnCoinsCompareSpec)) fnCoinsCompareCard

/-- THE TIED CARD OF 'laws.FnCoinsOrder'. -/
def fnCoinsOrderCard : Claim7 := { stood := { row := fnCoinsOrderRow, standIns := [], harness := (true, "566b9bf4846ec01224ef69c3c30a34d154d0f4dd060aeef2cf2a8cfc31596479"), looks := false }, kinds := [], alts := [], laidByText := true, laidKinds := [.sentinel], laidTests := true, laidLooks := .later }
def FnCoinsOrderCardSaid : Prop := Claim7.holds Tryz.pinned (.plain (OpenSpec.ofChange fnCoinsOrderSpec)) fnCoinsOrderCard

/-- THE TIED CARD OF 'laws.FnCoinsBounds'. -/
def fnCoinsBoundsCard : Claim7 := { stood := { row := fnCoinsBoundsRow, standIns := [], harness := (true, "566b9bf4846ec01224ef69c3c30a34d154d0f4dd060aeef2cf2a8cfc31596479"), looks := false }, kinds := [], alts := [], laidByText := true, laidKinds := [.sentinel], laidTests := true, laidLooks := .later }
def FnCoinsBoundsCardSaid : Prop := Claim7.holds Tryz.pinned (.plain (OpenSpec.ofChange fnCoinsBoundsSpec)) fnCoinsBoundsCard

/-- THE TIED CARD OF 'laws.FnCoinsTimes'. -/
def fnCoinsTimesCard : Claim7 := { stood := { row := fnCoinsTimesRow, standIns := [], harness := (true, "566b9bf4846ec01224ef69c3c30a34d154d0f4dd060aeef2cf2a8cfc31596479"), looks := false }, kinds := [], alts := [], laidByText := true, laidKinds := [.data, .data, .data, .data, .sentinel, .sentinel], laidTests := true, laidLooks := .later }
def FnCoinsTimesCardSaid : Prop := Claim7.holds Tryz.pinned (.plain (OpenSpec.ofChange fnCoinsTimesSpec)) fnCoinsTimesCard

/-- THE SECOND FORM's CARD OF 'laws.FnCoinsAdd'. -/
def fnCoinsAddUptoCard : Claim7 := { stood := { row := fnCoinsAddUptoRow, standIns := [], harness := (true, "566b9bf4846ec01224ef69c3c30a34d154d0f4dd060aeef2cf2a8cfc31596479"), looks := false }, kinds := [], alts := [], laidByText := true, laidKinds := [.sentinel], laidTests := true, laidLooks := .later }
def FnCoinsAddUptoCardSaid : Prop := Claim7.holds Tryz.pinned (.plain (OpenSpec.upto fnCoinsAddSpec)) fnCoinsAddUptoCard

/-- THE SECOND FORM's CARD OF 'laws.FnCoinsAlike'. -/
def fnCoinsAlikeUptoCard : Claim7 := { stood := { row := fnCoinsAlikeUptoRow, standIns := [], harness := (true, "566b9bf4846ec01224ef69c3c30a34d154d0f4dd060aeef2cf2a8cfc31596479"), looks := false }, kinds := [], alts := [], laidByText := true, laidKinds := [.sentinel], laidTests := true, laidLooks := .later }
def FnCoinsAlikeUptoCardSaid : Prop := Claim7.holds Tryz.pinned (.plain (OpenSpec.upto fnCoinsAlikeSpec)) fnCoinsAlikeUptoCard

/-- THE SECOND FORM's CARD OF 'laws.FnCoinsEqual'. -/
def fnCoinsEqualUptoCard : Claim7 := { stood := { row := fnCoinsEqualUptoRow, standIns := [], harness := (true, "566b9bf4846ec01224ef69c3c30a34d154d0f4dd060aeef2cf2a8cfc31596479"), looks := false }, kinds := [], alts := [], laidByText := true, laidKinds := [.sentinel], laidTests := true, laidLooks := .later }
def FnCoinsEqualUptoCardSaid : Prop := Claim7.holds Tryz.pinned (.plain (OpenSpec.upto fnCoinsEqualSpec)) fnCoinsEqualUptoCard

/-- THE SECOND FORM's CARD OF 'laws.FnCoinsFind'. -/
def fnCoinsFindUptoCard : Claim7 := { stood := { row := fnCoinsFindUptoRow, standIns := [], harness := (true, "566b9bf4846ec01224ef69c3c30a34d154d0f4dd060aeef2cf2a8cfc31596479"), looks := false }, kinds := [], alts := [], laidByText := true, laidKinds := [.sentinel], laidTests := true, laidLooks := .later }
def FnCoinsFindUptoCardSaid : Prop := Claim7.holds Tryz.pinned (.plain (OpenSpec.upto fnCoinsFindSpec)) fnCoinsFindUptoCard

/-- THE SECOND FORM's CARD OF 'laws.FnCoinPair'. -/
def fnCoinPairUptoCard : Claim7 := { stood := { row := fnCoinPairUptoRow, standIns := [], harness := (true, "566b9bf4846ec01224ef69c3c30a34d154d0f4dd060aeef2cf2a8cfc31596479"), looks := false }, kinds := [], alts := [], laidByText := true, laidKinds := [.sentinel], laidTests := true, laidLooks := .later }
def FnCoinPairUptoCardSaid : Prop := Claim7.holds Tryz.pinned (.plain (OpenSpec.upto fnCoinPairSpec)) fnCoinPairUptoCard

/-- THE SECOND FORM's CARD OF 'laws.FnCoinsNew'. -/
def fnCoinsNewUptoCard : Claim7 := { stood := { row := fnCoinsNewUptoRow, standIns := [], harness := (true, "566b9bf4846ec01224ef69c3c30a34d154d0f4dd060aeef2cf2a8cfc31596479"), looks := false }, kinds := [], alts := [], laidByText := true, laidKinds := [.sentinel], laidTests := true, laidLooks := .later }
def FnCoinsNewUptoCardSaid : Prop := Claim7.holds Tryz.pinned (.plain (OpenSpec.upto fnCoinsNewSpec)) fnCoinsNewUptoCard

/-- THE SECOND FORM's CARD OF 'laws.FnCoinSum'. -/
def fnCoinSumUptoCard : Claim7 := { stood := { row := fnCoinSumUptoRow, standIns := [], harness := (true, "566b9bf4846ec01224ef69c3c30a34d154d0f4dd060aeef2cf2a8cfc31596479"), looks := false }, kinds := [], alts := [], laidByText := true, laidKinds := [.sentinel], laidTests := true, laidLooks := .later }
def FnCoinSumUptoCardSaid : Prop := Claim7.holds Tryz.pinned (.plain (OpenSpec.upto fnCoinSumSpec)) fnCoinSumUptoCard

/-- THE SECOND FORM's CARD OF 'laws.FnCoinsAbout'. -/
def fnCoinsAboutUptoCard : Claim7 := { stood := { row := fnCoinsAboutUptoRow, standIns := [], harness := (true, "566b9bf4846ec01224ef69c3c30a34d154d0f4dd060aeef2cf2a8cfc31596479"), looks := false }, kinds := [], alts := [], laidByText := true, laidKinds := [.sentinel], laidTests := true, laidLooks := .later }
def FnCoinsAboutUptoCardSaid : Prop := Claim7.holds Tryz.pinned (.plain (OpenSpec.upto fnCoinsAboutSpec)) fnCoinsAboutUptoCard

/-- THE SECOND FORM's CARD OF 'laws.FnCoinsErr'. -/
def fnCoinsErrUptoCard : Claim7 := { stood := { row := fnCoinsErrUptoRow, standIns := [], harness := (true, "566b9bf4846ec01224ef69c3c30a34d154d0f4dd060aeef2cf2a8cfc31596479"), looks := false }, kinds := [], alts := [], laidByText := true, laidKinds := [.sentinel], laidTests := true, laidLooks := .later }
def FnCoinsErrUptoCardSaid : Prop := Claim7.holds Tryz.pinned (.plain (OpenSpec.upto fnCoinsErrSpec)) fnCoinsErrUptoCard

/-- THE SECOND FORM's CARD OF 'laws.FnCoinsSub'. -/
def fnCoinsSubUptoCard : Claim7 := { stood := { row := fnCoinsSubUptoRow, standIns := [], harness := (true, "566b9bf4846ec01224ef69c3c30a34d154d0f4dd060aeef2cf2a8cfc31596479"), looks := false }, kinds := [], alts := [], laidByText := true, laidKinds := [.sentinel], laidTests := true, laidLooks := .later }
def FnCoinsSubUptoCardSaid : Prop := Claim7.holds Tryz.pinned (.plain (OpenSpec.upto fnCoinsSubSpec)) fnCoinsSubUptoCard

/-- THE SECOND FORM's CARD OF 'laws.FnCoinsBack'. -/
def fnCoinsBackUptoCard : Claim7 := { stood := { row := fnCoinsBackUptoRow, standIns := [], harness := (true, "566b9bf4846ec01224ef69c3c30a34d154d0f4dd060aeef2cf2a8cfc31596479"), looks := false }, kinds := [], alts := [], laidByText := true, laidKinds := [.sentinel], laidTests := true, laidLooks := .later }
def FnCoinsBackUptoCardSaid : Prop := Claim7.holds Tryz.pinned (.plain (OpenSpec.upto fnCoinsBackSpec)) fnCoinsBackUptoCard

/-- THE SECOND FORM's CARD OF 'laws.FnCoinsMinMax'. -/
def fnCoinsMinMaxUptoCard : Claim7 := { stood := { row := fnCoinsMinMaxUptoRow, standIns := [], harness := (true, "566b9bf4846ec01224ef69c3c30a34d154d0f4dd060aeef2cf2a8cfc31596479"), looks := false }, kinds := [], alts := [], laidByText := true, laidKinds := [.sentinel], laidTests := true, laidLooks := .later }
def FnCoinsMinMaxUptoCardSaid : Prop := Claim7.holds Tryz.pinned (.plain (OpenSpec.upto fnCoinsMinMaxSpec)) fnCoinsMinMaxUptoCard

/-- THE SECOND FORM's CARD OF 'laws.FnCoinsCompare'. -/
def fnCoinsCompareUptoCard : Claim7 := { stood := { row := fnCoinsCompareUptoRow, standIns := [], harness := (true, "566b9bf4846ec01224ef69c3c30a34d154d0f4dd060aeef2cf2a8cfc31596479"), looks := false }, kinds := [], alts := [], laidByText := true, laidKinds := [.sentinel], laidTests := true, laidLooks := .later }
def FnCoinsCompareUptoCardSaid : Prop := Claim7.holds Tryz.pinned (.plain (OpenSpec.upto fnCoinsCompareSpec)) fnCoinsCompareUptoCard

/-- THE SECOND FORM's CARD OF 'laws.FnCoinsOrder'. -/
def fnCoinsOrderUptoCard : Claim7 := { stood := { row := fnCoinsOrderUptoRow, standIns := [], harness := (true, "566b9bf4846ec01224ef69c3c30a34d154d0f4dd060aeef2cf2a8cfc31596479"), looks := false }, kinds := [], alts := [], laidByText := true, laidKinds := [.sentinel], laidTests := true, laidLooks := .later }
def FnCoinsOrderUptoCardSaid : Prop := Claim7.holds Tryz.pinned (.plain (OpenSpec.upto fnCoinsOrderSpec)) fnCoinsOrderUptoCard

/-- THE SECOND FORM's CARD OF 'laws.FnCoinsBounds'. -/
def fnCoinsBoundsUptoCard : Claim7 := { stood := { row := fnCoinsBoundsUptoRow, standIns := [], harness := (true, "566b9bf4846ec01224ef69c3c30a34d154d0f4dd060aeef2cf2a8cfc31596479"), looks := false }, kinds := [], alts := [], laidByText := true, laidKinds := [.sentinel], laidTests := true, laidLooks := .later }
def FnCoinsBoundsUptoCardSaid : Prop := Claim7.holds Tryz.pinned (.plain (OpenSpec.upto fnCoinsBoundsSpec)) fnCoinsBoundsUptoCard

/-- THE SECOND FORM's CARD OF 'laws.FnCoinsTimes'. -/
def fnCoinsTimesUptoCard : Claim7 := { stood := { row := fnCoinsTimesUptoRow, standIns := [], harness := (true, "566b9bf4846ec01224ef69c3c30a34d154d0f4dd060aeef2cf2a8cfc31596479"), looks := false }, kinds := [], alts := [], laidByText := true, laidKinds := [.data, .data, .data, .data, .sentinel, .sentinel], laidTests := true, laidLooks := .later }
def FnCoinsTimesUptoCardSaid : Prop := Claim7.holds Tryz.pinned (.plain (OpenSpec.upto fnCoinsTimesSpec)) fnCoinsTimesUptoCard
end Rows
end Go.Proofs.YtagfbefgcijegaaGreatDoor
