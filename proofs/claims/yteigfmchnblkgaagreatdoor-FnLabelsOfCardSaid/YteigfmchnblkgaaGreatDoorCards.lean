/-
  DERIVED. GIVEN WITH THE SEED: THE CARDS: each row of YteigfmchnblkgaaGreatDoorRows.lean that lists a variable, with what it lists TIED to the program's text (the seventh form; the later family's looks); each row that meets fmt, with fmt's text TOLD by the authors' own Lean function (tested against real Go, not proved from fmt's source: count such statements apart). THE CARD IS WHAT COUNTS. Prove the row's statement (the work); the ties are given (YteigfmchnblkgaaGreatDoorTie.lean); close each card by the builder's one call (the guide's Derived/Test/ToyasCard.lean, 'card_holds'). Laid BY PROGRAM, IN A SANDBOX (cutbox-door.mjs). By AI agents, Wed Nov 11 2026. No macro, syntax, notation, axiom, sorry.
-/
import Derived.Test.YteigfmchnblkgaaGreatDoorRows
import GoSem.ClaimSeven
namespace Go.Proofs.YteigfmchnblkgaaGreatDoor
namespace Rows

/-- THE TIED CARD OF 'laws.FnSelDecidesLabels'. -/
def fnSelDecidesLabelsCard : Claim7 := { stood := { row := fnSelDecidesLabelsRow, standIns := [], harness := (true, "072fb4f3068c777eb2a4895713d451a3cd9b060d7feac170f9cc50a9f2aa8834"), looks := true }, kinds := [], alts := [], laidByText := true, laidKinds := [.data, .data, .data, .sentinel, .sentinel], laidTests := true, laidLooks := .later }
def FnSelDecidesLabelsCardSaid : Prop := Claim7.holds Tryz.pinned (.plain (OpenSpec.ofChange fnSelDecidesLabelsSpec)) fnSelDecidesLabelsCard

/-- THE TIED CARD OF 'laws.FnSelMatches'. -/
def fnSelMatchesCard : Claim7 := { stood := { row := fnSelMatchesRow, standIns := [], harness := (true, "072fb4f3068c777eb2a4895713d451a3cd9b060d7feac170f9cc50a9f2aa8834"), looks := true }, kinds := [], alts := [], laidByText := true, laidKinds := [.data, .data, .data, .sentinel, .sentinel], laidTests := true, laidLooks := .later }
def FnSelMatchesCardSaid : Prop := Claim7.holds Tryz.pinned (.plain (OpenSpec.ofChange fnSelMatchesSpec)) fnSelMatchesCard

/-- THE TIED CARD OF 'laws.FnSelOrder'. -/
def fnSelOrderCard : Claim7 := { stood := { row := fnSelOrderRow, standIns := [], harness := (true, "072fb4f3068c777eb2a4895713d451a3cd9b060d7feac170f9cc50a9f2aa8834"), looks := true }, kinds := [], alts := [], laidByText := true, laidKinds := [.data, .data, .data, .sentinel, .sentinel], laidTests := true, laidLooks := .later }
def FnSelOrderCardSaid : Prop := Claim7.holds Tryz.pinned (.plain (OpenSpec.ofChange fnSelOrderSpec)) fnSelOrderCard

/-- THE TIED CARD OF 'laws.FnReqMatches'. -/
def fnReqMatchesCard : Claim7 := { stood := { row := fnReqMatchesRow, standIns := [], harness := (true, "072fb4f3068c777eb2a4895713d451a3cd9b060d7feac170f9cc50a9f2aa8834"), looks := true }, kinds := [], alts := [], laidByText := true, laidKinds := [.data, .data, .data, .sentinel, .sentinel], laidTests := true, laidLooks := .later }
def FnReqMatchesCardSaid : Prop := Claim7.holds Tryz.pinned (.plain (OpenSpec.ofChange fnReqMatchesSpec)) fnReqMatchesCard

/-- THE TIED CARD OF 'laws.FnLabelsText'. -/
def fnLabelsTextCard : Claim7 := { stood := { row := fnLabelsTextRow, standIns := [], harness := (true, "072fb4f3068c777eb2a4895713d451a3cd9b060d7feac170f9cc50a9f2aa8834"), looks := true }, kinds := [], alts := [], laidByText := true, laidKinds := [.data, .data, .data, .sentinel, .sentinel], laidTests := true, laidLooks := .later }
def FnLabelsTextCardSaid : Prop := Claim7.holds Tryz.pinned (.plain (OpenSpec.ofChange fnLabelsTextSpec)) fnLabelsTextCard

/-- THE TIED CARD OF 'laws.FnSelExact'. -/
def fnSelExactCard : Claim7 := { stood := { row := fnSelExactRow, standIns := [], harness := (true, "072fb4f3068c777eb2a4895713d451a3cd9b060d7feac170f9cc50a9f2aa8834"), looks := true }, kinds := [], alts := [], laidByText := true, laidKinds := [.data, .data, .data, .sentinel, .sentinel], laidTests := true, laidLooks := .later }
def FnSelExactCardSaid : Prop := Claim7.holds Tryz.pinned (.plain (OpenSpec.ofChange fnSelExactSpec)) fnSelExactCard

/-- THE TIED CARD OF 'laws.FnLabelsBoth'. -/
def fnLabelsBothCard : Claim7 := { stood := { row := fnLabelsBothRow, standIns := [], harness := (true, "072fb4f3068c777eb2a4895713d451a3cd9b060d7feac170f9cc50a9f2aa8834"), looks := true }, kinds := [], alts := [], laidByText := true, laidKinds := [.data, .data, .data, .sentinel, .sentinel], laidTests := true, laidLooks := .later }
def FnLabelsBothCardSaid : Prop := Claim7.holds Tryz.pinned (.plain (OpenSpec.ofChange fnLabelsBothSpec)) fnLabelsBothCard

/-- THE TIED CARD OF 'laws.FnLabelsMerge'. -/
def fnLabelsMergeCard : Claim7 := { stood := { row := fnLabelsMergeRow, standIns := [], harness := (true, "072fb4f3068c777eb2a4895713d451a3cd9b060d7feac170f9cc50a9f2aa8834"), looks := true }, kinds := [], alts := [], laidByText := true, laidKinds := [.data, .data, .data, .sentinel, .sentinel], laidTests := true, laidLooks := .later }
def FnLabelsMergeCardSaid : Prop := Claim7.holds Tryz.pinned (.plain (OpenSpec.ofChange fnLabelsMergeSpec)) fnLabelsMergeCard

/-- THE TIED CARD OF 'laws.FnReqText'. -/
def fnReqTextCard : Claim7 := { stood := { row := fnReqTextRow, standIns := [], harness := (true, "072fb4f3068c777eb2a4895713d451a3cd9b060d7feac170f9cc50a9f2aa8834"), looks := true }, kinds := [], alts := [], laidByText := true, laidKinds := [.data, .data, .data, .sentinel, .sentinel], laidTests := true, laidLooks := .later }
def FnReqTextCardSaid : Prop := Claim7.holds Tryz.pinned (.plain (OpenSpec.ofChange fnReqTextSpec)) fnReqTextCard

/-- THE TIED CARD OF 'laws.FnLabelsOf'. -/
def fnLabelsOfCard : Claim7 := { stood := { row := fnLabelsOfRow, standIns := [], harness := (true, "072fb4f3068c777eb2a4895713d451a3cd9b060d7feac170f9cc50a9f2aa8834"), looks := true }, kinds := [], alts := [], laidByText := true, laidKinds := [.data, .data, .data, .data, .sentinel, .sentinel, .pinned], laidTests := true, laidLooks := .later }
def FnLabelsOfCardSaid : Prop := Claim7.holds Tryz.pinned (.plain (OpenSpec.ofChange fnLabelsOfSpec)) fnLabelsOfCard

/-- THE SECOND FORM's CARD OF 'laws.FnSelDecidesLabels'. -/
def fnSelDecidesLabelsUptoCard : Claim7 := { stood := { row := fnSelDecidesLabelsUptoRow, standIns := [], harness := (true, "072fb4f3068c777eb2a4895713d451a3cd9b060d7feac170f9cc50a9f2aa8834"), looks := true }, kinds := [], alts := [], laidByText := true, laidKinds := [.data, .data, .data, .sentinel, .sentinel], laidTests := true, laidLooks := .later }
def FnSelDecidesLabelsUptoCardSaid : Prop := Claim7.holds Tryz.pinned (.plain (OpenSpec.upto fnSelDecidesLabelsSpec)) fnSelDecidesLabelsUptoCard

/-- THE SECOND FORM's CARD OF 'laws.FnSelMatches'. -/
def fnSelMatchesUptoCard : Claim7 := { stood := { row := fnSelMatchesUptoRow, standIns := [], harness := (true, "072fb4f3068c777eb2a4895713d451a3cd9b060d7feac170f9cc50a9f2aa8834"), looks := true }, kinds := [], alts := [], laidByText := true, laidKinds := [.data, .data, .data, .sentinel, .sentinel], laidTests := true, laidLooks := .later }
def FnSelMatchesUptoCardSaid : Prop := Claim7.holds Tryz.pinned (.plain (OpenSpec.upto fnSelMatchesSpec)) fnSelMatchesUptoCard

/-- THE SECOND FORM's CARD OF 'laws.FnSelOrder'. -/
def fnSelOrderUptoCard : Claim7 := { stood := { row := fnSelOrderUptoRow, standIns := [], harness := (true, "072fb4f3068c777eb2a4895713d451a3cd9b060d7feac170f9cc50a9f2aa8834"), looks := true }, kinds := [], alts := [], laidByText := true, laidKinds := [.data, .data, .data, .sentinel, .sentinel], laidTests := true, laidLooks := .later }
def FnSelOrderUptoCardSaid : Prop := Claim7.holds Tryz.pinned (.plain (OpenSpec.upto fnSelOrderSpec)) fnSelOrderUptoCard

/-- THE SECOND FORM's CARD OF 'laws.FnReqMatches'. -/
def fnReqMatchesUptoCard : Claim7 := { stood := { row := fnReqMatchesUptoRow, standIns := [], harness := (true, "072fb4f3068c777eb2a4895713d451a3cd9b060d7feac170f9cc50a9f2aa8834"), looks := true }, kinds := [], alts := [], laidByText := true, laidKinds := [.data, .data, .data, .sentinel, .sentinel], laidTests := true, laidLooks := .later }
def FnReqMatchesUptoCardSaid : Prop := Claim7.holds Tryz.pinned (.plain (OpenSpec.upto fnReqMatchesSpec)) fnReqMatchesUptoCard

/-- THE SECOND FORM's CARD OF 'laws.FnLabelsText'. -/
def fnLabelsTextUptoCard : Claim7 := { stood := { row := fnLabelsTextUptoRow, standIns := [], harness := (true, "072fb4f3068c777eb2a4895713d451a3cd9b060d7feac170f9cc50a9f2aa8834"), looks := true }, kinds := [], alts := [], laidByText := true, laidKinds := [.data, .data, .data, .sentinel, .sentinel], laidTests := true, laidLooks := .later }
def FnLabelsTextUptoCardSaid : Prop := Claim7.holds Tryz.pinned (.plain (OpenSpec.upto fnLabelsTextSpec)) fnLabelsTextUptoCard

/-- THE SECOND FORM's CARD OF 'laws.FnSelExact'. -/
def fnSelExactUptoCard : Claim7 := { stood := { row := fnSelExactUptoRow, standIns := [], harness := (true, "072fb4f3068c777eb2a4895713d451a3cd9b060d7feac170f9cc50a9f2aa8834"), looks := true }, kinds := [], alts := [], laidByText := true, laidKinds := [.data, .data, .data, .sentinel, .sentinel], laidTests := true, laidLooks := .later }
def FnSelExactUptoCardSaid : Prop := Claim7.holds Tryz.pinned (.plain (OpenSpec.upto fnSelExactSpec)) fnSelExactUptoCard

/-- THE SECOND FORM's CARD OF 'laws.FnLabelsBoth'. -/
def fnLabelsBothUptoCard : Claim7 := { stood := { row := fnLabelsBothUptoRow, standIns := [], harness := (true, "072fb4f3068c777eb2a4895713d451a3cd9b060d7feac170f9cc50a9f2aa8834"), looks := true }, kinds := [], alts := [], laidByText := true, laidKinds := [.data, .data, .data, .sentinel, .sentinel], laidTests := true, laidLooks := .later }
def FnLabelsBothUptoCardSaid : Prop := Claim7.holds Tryz.pinned (.plain (OpenSpec.upto fnLabelsBothSpec)) fnLabelsBothUptoCard

/-- THE SECOND FORM's CARD OF 'laws.FnLabelsMerge'. -/
def fnLabelsMergeUptoCard : Claim7 := { stood := { row := fnLabelsMergeUptoRow, standIns := [], harness := (true, "072fb4f3068c777eb2a4895713d451a3cd9b060d7feac170f9cc50a9f2aa8834"), looks := true }, kinds := [], alts := [], laidByText := true, laidKinds := [.data, .data, .data, .sentinel, .sentinel], laidTests := true, laidLooks := .later }
def FnLabelsMergeUptoCardSaid : Prop := Claim7.holds Tryz.pinned (.plain (OpenSpec.upto fnLabelsMergeSpec)) fnLabelsMergeUptoCard

/-- THE SECOND FORM's CARD OF 'laws.FnReqText'. -/
def fnReqTextUptoCard : Claim7 := { stood := { row := fnReqTextUptoRow, standIns := [], harness := (true, "072fb4f3068c777eb2a4895713d451a3cd9b060d7feac170f9cc50a9f2aa8834"), looks := true }, kinds := [], alts := [], laidByText := true, laidKinds := [.data, .data, .data, .sentinel, .sentinel], laidTests := true, laidLooks := .later }
def FnReqTextUptoCardSaid : Prop := Claim7.holds Tryz.pinned (.plain (OpenSpec.upto fnReqTextSpec)) fnReqTextUptoCard

/-- THE SECOND FORM's CARD OF 'laws.FnLabelsOf'. -/
def fnLabelsOfUptoCard : Claim7 := { stood := { row := fnLabelsOfUptoRow, standIns := [], harness := (true, "072fb4f3068c777eb2a4895713d451a3cd9b060d7feac170f9cc50a9f2aa8834"), looks := true }, kinds := [], alts := [], laidByText := true, laidKinds := [.data, .data, .data, .data, .sentinel, .sentinel, .pinned], laidTests := true, laidLooks := .later }
def FnLabelsOfUptoCardSaid : Prop := Claim7.holds Tryz.pinned (.plain (OpenSpec.upto fnLabelsOfSpec)) fnLabelsOfUptoCard
end Rows
end Go.Proofs.YteigfmchnblkgaaGreatDoor
