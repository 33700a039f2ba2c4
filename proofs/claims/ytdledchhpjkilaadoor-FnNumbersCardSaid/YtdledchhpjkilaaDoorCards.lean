/-
  DERIVED. GIVEN WITH THE SEED: THE CARDS: each row of YtdledchhpjkilaaDoorRows.lean that lists a variable, with what it lists TIED to the program's text (the seventh form; the later family's looks); each row that meets fmt, with fmt's text TOLD by the authors' own Lean function (tested against real Go, not proved from fmt's source: count such statements apart). THE CARD IS WHAT COUNTS. Prove the row's statement (the work); the ties are given (YtdledchhpjkilaaDoorTie.lean); close each card by the builder's one call (the guide's Derived/Test/ToyasCard.lean, 'card_holds'). Laid BY PROGRAM, IN A SANDBOX (cutbox-door.mjs). By AI agents, Wed Nov 11 2026. No macro, syntax, notation, axiom, sorry.
-/
import Derived.Test.YtdledchhpjkilaaDoorRows
import GoSem.ClaimSeven
namespace Go.Proofs.YtdledchhpjkilaaDoor
namespace Rows

/-- THE TIED CARD OF 'laws.FnNameLabel'. -/
def fnNameLabelCard : Claim7 := { stood := { row := fnNameLabelRow, standIns := [], harness := (true, "574cd78cdf0d655f4b0323edcff197c0fbae3ef13f5777db95bb803c9c5934a9"), looks := false }, kinds := [], alts := [], laidByText := true, laidKinds := [.data, .data, .data], laidTests := true, laidLooks := .later }
def FnNameLabelCardSaid : Prop := Claim7.holds Tryd.pinned (.plain (OpenSpec.ofChange fnNameLabelSpec)) fnNameLabelCard

/-- THE TIED CARD OF 'laws.FnNameHeaderName'. -/
def fnNameHeaderNameCard : Claim7 := { stood := { row := fnNameHeaderNameRow, standIns := [], harness := (true, "574cd78cdf0d655f4b0323edcff197c0fbae3ef13f5777db95bb803c9c5934a9"), looks := false }, kinds := [], alts := [], laidByText := true, laidKinds := [.data, .data, .data], laidTests := true, laidLooks := .later }
def FnNameHeaderNameCardSaid : Prop := Claim7.holds Tryd.pinned (.plain (OpenSpec.ofChange fnNameHeaderNameSpec)) fnNameHeaderNameCard

/-- THE TIED CARD OF 'laws.FnNameCIdentifier'. -/
def fnNameCIdentifierCard : Claim7 := { stood := { row := fnNameCIdentifierRow, standIns := [], harness := (true, "574cd78cdf0d655f4b0323edcff197c0fbae3ef13f5777db95bb803c9c5934a9"), looks := false }, kinds := [], alts := [], laidByText := true, laidKinds := [.data, .data, .data], laidTests := true, laidLooks := .later }
def FnNameCIdentifierCardSaid : Prop := Claim7.holds Tryd.pinned (.plain (OpenSpec.ofChange fnNameCIdentifierSpec)) fnNameCIdentifierCard

/-- THE TIED CARD OF 'laws.FnNamePercent'. -/
def fnNamePercentCard : Claim7 := { stood := { row := fnNamePercentRow, standIns := [], harness := (true, "574cd78cdf0d655f4b0323edcff197c0fbae3ef13f5777db95bb803c9c5934a9"), looks := false }, kinds := [], alts := [], laidByText := true, laidKinds := [.data, .data, .data], laidTests := true, laidLooks := .later }
def FnNamePercentCardSaid : Prop := Claim7.holds Tryd.pinned (.plain (OpenSpec.ofChange fnNamePercentSpec)) fnNamePercentCard

/-- THE TIED CARD OF 'laws.FnNameOldLabel'. -/
def fnNameOldLabelCard : Claim7 := { stood := { row := fnNameOldLabelRow, standIns := [], harness := (true, "574cd78cdf0d655f4b0323edcff197c0fbae3ef13f5777db95bb803c9c5934a9"), looks := false }, kinds := [], alts := [], laidByText := true, laidKinds := [.data, .data, .data], laidTests := true, laidLooks := .later }
def FnNameOldLabelCardSaid : Prop := Claim7.holds Tryd.pinned (.plain (OpenSpec.ofChange fnNameOldLabelSpec)) fnNameOldLabelCard

/-- THE TIED CARD OF 'laws.FnNameLabelValue'. -/
def fnNameLabelValueCard : Claim7 := { stood := { row := fnNameLabelValueRow, standIns := [], harness := (true, "574cd78cdf0d655f4b0323edcff197c0fbae3ef13f5777db95bb803c9c5934a9"), looks := false }, kinds := [], alts := [], laidByText := true, laidKinds := [.data, .data, .data], laidTests := true, laidLooks := .later }
def FnNameLabelValueCardSaid : Prop := Claim7.holds Tryd.pinned (.plain (OpenSpec.ofChange fnNameLabelValueSpec)) fnNameLabelValueCard

/-- THE TIED CARD OF 'laws.FnNameEnvName'. -/
def fnNameEnvNameCard : Claim7 := { stood := { row := fnNameEnvNameRow, standIns := [], harness := (true, "574cd78cdf0d655f4b0323edcff197c0fbae3ef13f5777db95bb803c9c5934a9"), looks := false }, kinds := [], alts := [], laidByText := true, laidKinds := [.data, .data, .data], laidTests := true, laidLooks := .later }
def FnNameEnvNameCardSaid : Prop := Claim7.holds Tryd.pinned (.plain (OpenSpec.ofChange fnNameEnvNameSpec)) fnNameEnvNameCard

/-- THE TIED CARD OF 'laws.FnNameConfigKey'. -/
def fnNameConfigKeyCard : Claim7 := { stood := { row := fnNameConfigKeyRow, standIns := [], harness := (true, "574cd78cdf0d655f4b0323edcff197c0fbae3ef13f5777db95bb803c9c5934a9"), looks := false }, kinds := [], alts := [], laidByText := true, laidKinds := [.data, .data, .data], laidTests := true, laidLooks := .later }
def FnNameConfigKeyCardSaid : Prop := Claim7.holds Tryd.pinned (.plain (OpenSpec.ofChange fnNameConfigKeySpec)) fnNameConfigKeyCard

/-- THE TIED CARD OF 'laws.FnNumbers'. -/
def fnNumbersCard : Claim7 := { stood := { row := fnNumbersRow, standIns := [], harness := (true, "574cd78cdf0d655f4b0323edcff197c0fbae3ef13f5777db95bb803c9c5934a9"), looks := false }, kinds := [], alts := [], laidByText := true, laidKinds := [.data, .data, .data], laidTests := true, laidLooks := .later }
def FnNumbersCardSaid : Prop := Claim7.holds Tryd.pinned (.plain (OpenSpec.ofChange fnNumbersSpec)) fnNumbersCard

/-- THE TIED CARD OF 'laws.FnNameSubdomain'. -/
def fnNameSubdomainCard : Claim7 := { stood := { row := fnNameSubdomainRow, standIns := [], harness := (true, "574cd78cdf0d655f4b0323edcff197c0fbae3ef13f5777db95bb803c9c5934a9"), looks := false }, kinds := [], alts := [], laidByText := true, laidKinds := [.data, .data, .data], laidTests := true, laidLooks := .later }
def FnNameSubdomainCardSaid : Prop := Claim7.holds Tryd.pinned (.plain (OpenSpec.ofChange fnNameSubdomainSpec)) fnNameSubdomainCard

/-- THE TIED CARD OF 'laws.FnNameWildcard'. -/
def fnNameWildcardCard : Claim7 := { stood := { row := fnNameWildcardRow, standIns := [], harness := (true, "574cd78cdf0d655f4b0323edcff197c0fbae3ef13f5777db95bb803c9c5934a9"), looks := false }, kinds := [], alts := [], laidByText := true, laidKinds := [.data, .data, .data], laidTests := true, laidLooks := .later }
def FnNameWildcardCardSaid : Prop := Claim7.holds Tryd.pinned (.plain (OpenSpec.ofChange fnNameWildcardSpec)) fnNameWildcardCard

/-- THE TIED CARD OF 'laws.FnNamePortName'. -/
def fnNamePortNameCard : Claim7 := { stood := { row := fnNamePortNameRow, standIns := [], harness := (true, "574cd78cdf0d655f4b0323edcff197c0fbae3ef13f5777db95bb803c9c5934a9"), looks := false }, kinds := [], alts := [], laidByText := true, laidKinds := [.data, .data, .data], laidTests := true, laidLooks := .later }
def FnNamePortNameCardSaid : Prop := Claim7.holds Tryd.pinned (.plain (OpenSpec.ofChange fnNamePortNameSpec)) fnNamePortNameCard

/-- THE TIED CARD OF 'laws.FnNameFullName'. -/
def fnNameFullNameCard : Claim7 := { stood := { row := fnNameFullNameRow, standIns := [], harness := (true, "574cd78cdf0d655f4b0323edcff197c0fbae3ef13f5777db95bb803c9c5934a9"), looks := false }, kinds := [], alts := [], laidByText := true, laidKinds := [.data, .data, .data], laidTests := true, laidLooks := .later }
def FnNameFullNameCardSaid : Prop := Claim7.holds Tryd.pinned (.plain (OpenSpec.ofChange fnNameFullNameSpec)) fnNameFullNameCard

/-- THE TIED CARD OF 'laws.FnNameDomainName'. -/
def fnNameDomainNameCard : Claim7 := { stood := { row := fnNameDomainNameRow, standIns := [], harness := (true, "574cd78cdf0d655f4b0323edcff197c0fbae3ef13f5777db95bb803c9c5934a9"), looks := false }, kinds := [], alts := [], laidByText := true, laidKinds := [.data, .data, .data], laidTests := true, laidLooks := .later }
def FnNameDomainNameCardSaid : Prop := Claim7.holds Tryd.pinned (.plain (OpenSpec.ofChange fnNameDomainNameSpec)) fnNameDomainNameCard

/-- THE TIED CARD OF 'laws.FnNameDomainPath'. -/
def fnNameDomainPathCard : Claim7 := { stood := { row := fnNameDomainPathRow, standIns := [], harness := (true, "574cd78cdf0d655f4b0323edcff197c0fbae3ef13f5777db95bb803c9c5934a9"), looks := false }, kinds := [], alts := [], laidByText := true, laidKinds := [.data, .data, .data], laidTests := true, laidLooks := .later }
def FnNameDomainPathCardSaid : Prop := Claim7.holds Tryd.pinned (.plain (OpenSpec.ofChange fnNameDomainPathSpec)) fnNameDomainPathCard

/-- THE TIED CARD OF 'laws.FnNameQualifiedName'. -/
def fnNameQualifiedNameCard : Claim7 := { stood := { row := fnNameQualifiedNameRow, standIns := [], harness := (true, "574cd78cdf0d655f4b0323edcff197c0fbae3ef13f5777db95bb803c9c5934a9"), looks := false }, kinds := [], alts := [], laidByText := true, laidKinds := [.data, .data, .data], laidTests := true, laidLooks := .later }
def FnNameQualifiedNameCardSaid : Prop := Claim7.holds Tryd.pinned (.plain (OpenSpec.ofChange fnNameQualifiedNameSpec)) fnNameQualifiedNameCard

/-- THE SECOND FORM's CARD OF 'laws.FnNameLabel'. -/
def fnNameLabelUptoCard : Claim7 := { stood := { row := fnNameLabelUptoRow, standIns := [], harness := (true, "574cd78cdf0d655f4b0323edcff197c0fbae3ef13f5777db95bb803c9c5934a9"), looks := false }, kinds := [], alts := [], laidByText := true, laidKinds := [.data, .data, .data], laidTests := true, laidLooks := .later }
def FnNameLabelUptoCardSaid : Prop := Claim7.holds Tryd.pinned (.plain (OpenSpec.upto fnNameLabelSpec)) fnNameLabelUptoCard

/-- THE SECOND FORM's CARD OF 'laws.FnNameHeaderName'. -/
def fnNameHeaderNameUptoCard : Claim7 := { stood := { row := fnNameHeaderNameUptoRow, standIns := [], harness := (true, "574cd78cdf0d655f4b0323edcff197c0fbae3ef13f5777db95bb803c9c5934a9"), looks := false }, kinds := [], alts := [], laidByText := true, laidKinds := [.data, .data, .data], laidTests := true, laidLooks := .later }
def FnNameHeaderNameUptoCardSaid : Prop := Claim7.holds Tryd.pinned (.plain (OpenSpec.upto fnNameHeaderNameSpec)) fnNameHeaderNameUptoCard

/-- THE SECOND FORM's CARD OF 'laws.FnNameCIdentifier'. -/
def fnNameCIdentifierUptoCard : Claim7 := { stood := { row := fnNameCIdentifierUptoRow, standIns := [], harness := (true, "574cd78cdf0d655f4b0323edcff197c0fbae3ef13f5777db95bb803c9c5934a9"), looks := false }, kinds := [], alts := [], laidByText := true, laidKinds := [.data, .data, .data], laidTests := true, laidLooks := .later }
def FnNameCIdentifierUptoCardSaid : Prop := Claim7.holds Tryd.pinned (.plain (OpenSpec.upto fnNameCIdentifierSpec)) fnNameCIdentifierUptoCard

/-- THE SECOND FORM's CARD OF 'laws.FnNamePercent'. -/
def fnNamePercentUptoCard : Claim7 := { stood := { row := fnNamePercentUptoRow, standIns := [], harness := (true, "574cd78cdf0d655f4b0323edcff197c0fbae3ef13f5777db95bb803c9c5934a9"), looks := false }, kinds := [], alts := [], laidByText := true, laidKinds := [.data, .data, .data], laidTests := true, laidLooks := .later }
def FnNamePercentUptoCardSaid : Prop := Claim7.holds Tryd.pinned (.plain (OpenSpec.upto fnNamePercentSpec)) fnNamePercentUptoCard

/-- THE SECOND FORM's CARD OF 'laws.FnNameOldLabel'. -/
def fnNameOldLabelUptoCard : Claim7 := { stood := { row := fnNameOldLabelUptoRow, standIns := [], harness := (true, "574cd78cdf0d655f4b0323edcff197c0fbae3ef13f5777db95bb803c9c5934a9"), looks := false }, kinds := [], alts := [], laidByText := true, laidKinds := [.data, .data, .data], laidTests := true, laidLooks := .later }
def FnNameOldLabelUptoCardSaid : Prop := Claim7.holds Tryd.pinned (.plain (OpenSpec.upto fnNameOldLabelSpec)) fnNameOldLabelUptoCard

/-- THE SECOND FORM's CARD OF 'laws.FnNameLabelValue'. -/
def fnNameLabelValueUptoCard : Claim7 := { stood := { row := fnNameLabelValueUptoRow, standIns := [], harness := (true, "574cd78cdf0d655f4b0323edcff197c0fbae3ef13f5777db95bb803c9c5934a9"), looks := false }, kinds := [], alts := [], laidByText := true, laidKinds := [.data, .data, .data], laidTests := true, laidLooks := .later }
def FnNameLabelValueUptoCardSaid : Prop := Claim7.holds Tryd.pinned (.plain (OpenSpec.upto fnNameLabelValueSpec)) fnNameLabelValueUptoCard

/-- THE SECOND FORM's CARD OF 'laws.FnNameEnvName'. -/
def fnNameEnvNameUptoCard : Claim7 := { stood := { row := fnNameEnvNameUptoRow, standIns := [], harness := (true, "574cd78cdf0d655f4b0323edcff197c0fbae3ef13f5777db95bb803c9c5934a9"), looks := false }, kinds := [], alts := [], laidByText := true, laidKinds := [.data, .data, .data], laidTests := true, laidLooks := .later }
def FnNameEnvNameUptoCardSaid : Prop := Claim7.holds Tryd.pinned (.plain (OpenSpec.upto fnNameEnvNameSpec)) fnNameEnvNameUptoCard

/-- THE SECOND FORM's CARD OF 'laws.FnNameConfigKey'. -/
def fnNameConfigKeyUptoCard : Claim7 := { stood := { row := fnNameConfigKeyUptoRow, standIns := [], harness := (true, "574cd78cdf0d655f4b0323edcff197c0fbae3ef13f5777db95bb803c9c5934a9"), looks := false }, kinds := [], alts := [], laidByText := true, laidKinds := [.data, .data, .data], laidTests := true, laidLooks := .later }
def FnNameConfigKeyUptoCardSaid : Prop := Claim7.holds Tryd.pinned (.plain (OpenSpec.upto fnNameConfigKeySpec)) fnNameConfigKeyUptoCard

/-- THE SECOND FORM's CARD OF 'laws.FnNumbers'. -/
def fnNumbersUptoCard : Claim7 := { stood := { row := fnNumbersUptoRow, standIns := [], harness := (true, "574cd78cdf0d655f4b0323edcff197c0fbae3ef13f5777db95bb803c9c5934a9"), looks := false }, kinds := [], alts := [], laidByText := true, laidKinds := [.data, .data, .data], laidTests := true, laidLooks := .later }
def FnNumbersUptoCardSaid : Prop := Claim7.holds Tryd.pinned (.plain (OpenSpec.upto fnNumbersSpec)) fnNumbersUptoCard

/-- THE SECOND FORM's CARD OF 'laws.FnNameSubdomain'. -/
def fnNameSubdomainUptoCard : Claim7 := { stood := { row := fnNameSubdomainUptoRow, standIns := [], harness := (true, "574cd78cdf0d655f4b0323edcff197c0fbae3ef13f5777db95bb803c9c5934a9"), looks := false }, kinds := [], alts := [], laidByText := true, laidKinds := [.data, .data, .data], laidTests := true, laidLooks := .later }
def FnNameSubdomainUptoCardSaid : Prop := Claim7.holds Tryd.pinned (.plain (OpenSpec.upto fnNameSubdomainSpec)) fnNameSubdomainUptoCard

/-- THE SECOND FORM's CARD OF 'laws.FnNameWildcard'. -/
def fnNameWildcardUptoCard : Claim7 := { stood := { row := fnNameWildcardUptoRow, standIns := [], harness := (true, "574cd78cdf0d655f4b0323edcff197c0fbae3ef13f5777db95bb803c9c5934a9"), looks := false }, kinds := [], alts := [], laidByText := true, laidKinds := [.data, .data, .data], laidTests := true, laidLooks := .later }
def FnNameWildcardUptoCardSaid : Prop := Claim7.holds Tryd.pinned (.plain (OpenSpec.upto fnNameWildcardSpec)) fnNameWildcardUptoCard

/-- THE SECOND FORM's CARD OF 'laws.FnNamePortName'. -/
def fnNamePortNameUptoCard : Claim7 := { stood := { row := fnNamePortNameUptoRow, standIns := [], harness := (true, "574cd78cdf0d655f4b0323edcff197c0fbae3ef13f5777db95bb803c9c5934a9"), looks := false }, kinds := [], alts := [], laidByText := true, laidKinds := [.data, .data, .data], laidTests := true, laidLooks := .later }
def FnNamePortNameUptoCardSaid : Prop := Claim7.holds Tryd.pinned (.plain (OpenSpec.upto fnNamePortNameSpec)) fnNamePortNameUptoCard

/-- THE SECOND FORM's CARD OF 'laws.FnNameFullName'. -/
def fnNameFullNameUptoCard : Claim7 := { stood := { row := fnNameFullNameUptoRow, standIns := [], harness := (true, "574cd78cdf0d655f4b0323edcff197c0fbae3ef13f5777db95bb803c9c5934a9"), looks := false }, kinds := [], alts := [], laidByText := true, laidKinds := [.data, .data, .data], laidTests := true, laidLooks := .later }
def FnNameFullNameUptoCardSaid : Prop := Claim7.holds Tryd.pinned (.plain (OpenSpec.upto fnNameFullNameSpec)) fnNameFullNameUptoCard

/-- THE SECOND FORM's CARD OF 'laws.FnNameDomainName'. -/
def fnNameDomainNameUptoCard : Claim7 := { stood := { row := fnNameDomainNameUptoRow, standIns := [], harness := (true, "574cd78cdf0d655f4b0323edcff197c0fbae3ef13f5777db95bb803c9c5934a9"), looks := false }, kinds := [], alts := [], laidByText := true, laidKinds := [.data, .data, .data], laidTests := true, laidLooks := .later }
def FnNameDomainNameUptoCardSaid : Prop := Claim7.holds Tryd.pinned (.plain (OpenSpec.upto fnNameDomainNameSpec)) fnNameDomainNameUptoCard

/-- THE SECOND FORM's CARD OF 'laws.FnNameDomainPath'. -/
def fnNameDomainPathUptoCard : Claim7 := { stood := { row := fnNameDomainPathUptoRow, standIns := [], harness := (true, "574cd78cdf0d655f4b0323edcff197c0fbae3ef13f5777db95bb803c9c5934a9"), looks := false }, kinds := [], alts := [], laidByText := true, laidKinds := [.data, .data, .data], laidTests := true, laidLooks := .later }
def FnNameDomainPathUptoCardSaid : Prop := Claim7.holds Tryd.pinned (.plain (OpenSpec.upto fnNameDomainPathSpec)) fnNameDomainPathUptoCard

/-- THE SECOND FORM's CARD OF 'laws.FnNameQualifiedName'. -/
def fnNameQualifiedNameUptoCard : Claim7 := { stood := { row := fnNameQualifiedNameUptoRow, standIns := [], harness := (true, "574cd78cdf0d655f4b0323edcff197c0fbae3ef13f5777db95bb803c9c5934a9"), looks := false }, kinds := [], alts := [], laidByText := true, laidKinds := [.data, .data, .data], laidTests := true, laidLooks := .later }
def FnNameQualifiedNameUptoCardSaid : Prop := Claim7.holds Tryd.pinned (.plain (OpenSpec.upto fnNameQualifiedNameSpec)) fnNameQualifiedNameUptoCard
end Rows
end Go.Proofs.YtdledchhpjkilaaDoor
