/-
  DERIVED. GIVEN WITH THE SEED: THE CARDS: each row of YthfjolafikgpoaaGreatDoorRows.lean that lists a variable, with what it lists TIED to the program's text (the seventh form; the later family's looks); each row that meets fmt, with fmt's text TOLD by the authors' own Lean function (tested against real Go, not proved from fmt's source: count such statements apart). THE CARD IS WHAT COUNTS. Prove the row's statement (the work); the ties are given (YthfjolafikgpoaaGreatDoorTie.lean); close each card by the builder's one call (the guide's Derived/Test/ToyasCard.lean, 'card_holds'). Laid BY PROGRAM, IN A SANDBOX (cutbox-door.mjs). By AI agents, Wed Nov 11 2026. No macro, syntax, notation, axiom, sorry.
-/
import Derived.Test.YthfjolafikgpoaaGreatDoorRows
import GoSem.ClaimSeven
namespace Go.Proofs.YthfjolafikgpoaaGreatDoor
namespace Rows

/-- THE TIED CARD OF 'laws.FnSelRound'. -/
def fnSelRoundCard : Claim7 := { stood := { row := fnSelRoundRow, standIns := [], harness := (true, "2cc26d430a824a6d2404ec683056ef2f8bb20146d8c79f2ce221012b151722aa"), looks := true }, kinds := [], alts := [], laidByText := true, laidKinds := [.data, .data, .data, .sentinel, .sentinel], laidTests := true, laidLooks := .later }
def FnSelRoundCardSaid : Prop := Claim7.holds Tryz.pinned (.plain (OpenSpec.ofChange fnSelRoundSpec)) fnSelRoundCard

/-- THE TIED CARD OF 'laws.FnSelAdd'. -/
def fnSelAddCard : Claim7 := { stood := { row := fnSelAddRow, standIns := [], harness := (true, "2cc26d430a824a6d2404ec683056ef2f8bb20146d8c79f2ce221012b151722aa"), looks := true }, kinds := [], alts := [], laidByText := true, laidKinds := [.data, .data, .data, .sentinel, .sentinel], laidTests := true, laidLooks := .later }
def FnSelAddCardSaid : Prop := Claim7.holds Tryz.pinned (.plain (OpenSpec.ofChange fnSelAddSpec)) fnSelAddCard

/-- THE TIED CARD OF 'laws.FnSelOfSet'. -/
def fnSelOfSetCard : Claim7 := { stood := { row := fnSelOfSetRow, standIns := [], harness := (true, "2cc26d430a824a6d2404ec683056ef2f8bb20146d8c79f2ce221012b151722aa"), looks := true }, kinds := [], alts := [], laidByText := true, laidKinds := [.data, .data, .data, .sentinel, .sentinel], laidTests := true, laidLooks := .later }
def FnSelOfSetCardSaid : Prop := Claim7.holds Tryz.pinned (.plain (OpenSpec.ofChange fnSelOfSetSpec)) fnSelOfSetCard

/-- THE TIED CARD OF 'laws.FnSelDecidesLabels'. -/
def fnSelDecidesLabelsCard : Claim7 := { stood := { row := fnSelDecidesLabelsRow, standIns := [], harness := (true, "2cc26d430a824a6d2404ec683056ef2f8bb20146d8c79f2ce221012b151722aa"), looks := true }, kinds := [], alts := [], laidByText := true, laidKinds := [.data, .data, .data, .sentinel, .sentinel], laidTests := true, laidLooks := .later }
def FnSelDecidesLabelsCardSaid : Prop := Claim7.holds Tryz.pinned (.plain (OpenSpec.ofChange fnSelDecidesLabelsSpec)) fnSelDecidesLabelsCard

/-- THE TIED CARD OF 'laws.FnLabelsRound'. -/
def fnLabelsRoundCard : Claim7 := { stood := { row := fnLabelsRoundRow, standIns := [], harness := (true, "2cc26d430a824a6d2404ec683056ef2f8bb20146d8c79f2ce221012b151722aa"), looks := true }, kinds := [], alts := [], laidByText := true, laidKinds := [.data, .data, .data, .data, .sentinel, .sentinel, .pinned], laidTests := true, laidLooks := .later }
def FnLabelsRoundCardSaid : Prop := Claim7.holds Tryz.pinned (.plain (OpenSpec.ofChange fnLabelsRoundSpec)) fnLabelsRoundCard

/-- THE TIED CARD OF 'laws.FnSelDecides'. -/
def fnSelDecidesCard : Claim7 := { stood := { row := fnSelDecidesRow, standIns := [], harness := (true, "2cc26d430a824a6d2404ec683056ef2f8bb20146d8c79f2ce221012b151722aa"), looks := true }, kinds := [], alts := [], laidByText := true, laidKinds := [.data, .data, .data, .sentinel, .sentinel], laidTests := true, laidLooks := .later }
def FnSelDecidesCardSaid : Prop := Claim7.holds Tryz.pinned (.plain (OpenSpec.ofChange fnSelDecidesSpec)) fnSelDecidesCard

/-- THE TIED CARD OF 'laws.FnSelParses'. -/
def fnSelParsesCard : Claim7 := { stood := { row := fnSelParsesRow, standIns := [], harness := (true, "2cc26d430a824a6d2404ec683056ef2f8bb20146d8c79f2ce221012b151722aa"), looks := true }, kinds := [], alts := [], laidByText := true, laidKinds := [.data, .data, .data, .sentinel, .sentinel], laidTests := true, laidLooks := .later }
def FnSelParsesCardSaid : Prop := Claim7.holds Tryz.pinned (.plain (OpenSpec.ofChange fnSelParsesSpec)) fnSelParsesCard

/-- THE TIED CARD OF 'laws.FnSelRefuses'. -/
def fnSelRefusesCard : Claim7 := { stood := { row := fnSelRefusesRow, standIns := [], harness := (true, "2cc26d430a824a6d2404ec683056ef2f8bb20146d8c79f2ce221012b151722aa"), looks := true }, kinds := [], alts := [], laidByText := true, laidKinds := [.data, .data, .data, .sentinel, .sentinel], laidTests := true, laidLooks := .later }
def FnSelRefusesCardSaid : Prop := Claim7.holds Tryz.pinned (.plain (OpenSpec.ofChange fnSelRefusesSpec)) fnSelRefusesCard

/-- THE SECOND FORM's CARD OF 'laws.FnSelRound'. -/
def fnSelRoundUptoCard : Claim7 := { stood := { row := fnSelRoundUptoRow, standIns := [], harness := (true, "2cc26d430a824a6d2404ec683056ef2f8bb20146d8c79f2ce221012b151722aa"), looks := true }, kinds := [], alts := [], laidByText := true, laidKinds := [.data, .data, .data, .sentinel, .sentinel], laidTests := true, laidLooks := .later }
def FnSelRoundUptoCardSaid : Prop := Claim7.holds Tryz.pinned (.plain (OpenSpec.upto fnSelRoundSpec)) fnSelRoundUptoCard

/-- THE SECOND FORM's CARD OF 'laws.FnSelAdd'. -/
def fnSelAddUptoCard : Claim7 := { stood := { row := fnSelAddUptoRow, standIns := [], harness := (true, "2cc26d430a824a6d2404ec683056ef2f8bb20146d8c79f2ce221012b151722aa"), looks := true }, kinds := [], alts := [], laidByText := true, laidKinds := [.data, .data, .data, .sentinel, .sentinel], laidTests := true, laidLooks := .later }
def FnSelAddUptoCardSaid : Prop := Claim7.holds Tryz.pinned (.plain (OpenSpec.upto fnSelAddSpec)) fnSelAddUptoCard

/-- THE SECOND FORM's CARD OF 'laws.FnSelOfSet'. -/
def fnSelOfSetUptoCard : Claim7 := { stood := { row := fnSelOfSetUptoRow, standIns := [], harness := (true, "2cc26d430a824a6d2404ec683056ef2f8bb20146d8c79f2ce221012b151722aa"), looks := true }, kinds := [], alts := [], laidByText := true, laidKinds := [.data, .data, .data, .sentinel, .sentinel], laidTests := true, laidLooks := .later }
def FnSelOfSetUptoCardSaid : Prop := Claim7.holds Tryz.pinned (.plain (OpenSpec.upto fnSelOfSetSpec)) fnSelOfSetUptoCard

/-- THE SECOND FORM's CARD OF 'laws.FnSelDecidesLabels'. -/
def fnSelDecidesLabelsUptoCard : Claim7 := { stood := { row := fnSelDecidesLabelsUptoRow, standIns := [], harness := (true, "2cc26d430a824a6d2404ec683056ef2f8bb20146d8c79f2ce221012b151722aa"), looks := true }, kinds := [], alts := [], laidByText := true, laidKinds := [.data, .data, .data, .sentinel, .sentinel], laidTests := true, laidLooks := .later }
def FnSelDecidesLabelsUptoCardSaid : Prop := Claim7.holds Tryz.pinned (.plain (OpenSpec.upto fnSelDecidesLabelsSpec)) fnSelDecidesLabelsUptoCard

/-- THE SECOND FORM's CARD OF 'laws.FnLabelsRound'. -/
def fnLabelsRoundUptoCard : Claim7 := { stood := { row := fnLabelsRoundUptoRow, standIns := [], harness := (true, "2cc26d430a824a6d2404ec683056ef2f8bb20146d8c79f2ce221012b151722aa"), looks := true }, kinds := [], alts := [], laidByText := true, laidKinds := [.data, .data, .data, .data, .sentinel, .sentinel, .pinned], laidTests := true, laidLooks := .later }
def FnLabelsRoundUptoCardSaid : Prop := Claim7.holds Tryz.pinned (.plain (OpenSpec.upto fnLabelsRoundSpec)) fnLabelsRoundUptoCard

/-- THE SECOND FORM's CARD OF 'laws.FnSelDecides'. -/
def fnSelDecidesUptoCard : Claim7 := { stood := { row := fnSelDecidesUptoRow, standIns := [], harness := (true, "2cc26d430a824a6d2404ec683056ef2f8bb20146d8c79f2ce221012b151722aa"), looks := true }, kinds := [], alts := [], laidByText := true, laidKinds := [.data, .data, .data, .sentinel, .sentinel], laidTests := true, laidLooks := .later }
def FnSelDecidesUptoCardSaid : Prop := Claim7.holds Tryz.pinned (.plain (OpenSpec.upto fnSelDecidesSpec)) fnSelDecidesUptoCard

/-- THE SECOND FORM's CARD OF 'laws.FnSelParses'. -/
def fnSelParsesUptoCard : Claim7 := { stood := { row := fnSelParsesUptoRow, standIns := [], harness := (true, "2cc26d430a824a6d2404ec683056ef2f8bb20146d8c79f2ce221012b151722aa"), looks := true }, kinds := [], alts := [], laidByText := true, laidKinds := [.data, .data, .data, .sentinel, .sentinel], laidTests := true, laidLooks := .later }
def FnSelParsesUptoCardSaid : Prop := Claim7.holds Tryz.pinned (.plain (OpenSpec.upto fnSelParsesSpec)) fnSelParsesUptoCard

/-- THE SECOND FORM's CARD OF 'laws.FnSelRefuses'. -/
def fnSelRefusesUptoCard : Claim7 := { stood := { row := fnSelRefusesUptoRow, standIns := [], harness := (true, "2cc26d430a824a6d2404ec683056ef2f8bb20146d8c79f2ce221012b151722aa"), looks := true }, kinds := [], alts := [], laidByText := true, laidKinds := [.data, .data, .data, .sentinel, .sentinel], laidTests := true, laidLooks := .later }
def FnSelRefusesUptoCardSaid : Prop := Claim7.holds Tryz.pinned (.plain (OpenSpec.upto fnSelRefusesSpec)) fnSelRefusesUptoCard
end Rows
end Go.Proofs.YthfjolafikgpoaaGreatDoor
