/-
  DERIVED. GIVEN WITH THE SEED: THE CARDS: each row of YtpjfmfaijcbopaaGreatDoorRows.lean that lists a variable, with what it lists TIED to the program's text (the seventh form; the later family's looks); each row that meets fmt, with fmt's text TOLD by the authors' own Lean function (tested against real Go, not proved from fmt's source: count such statements apart). THE CARD IS WHAT COUNTS. Prove the row's statement (the work); the ties are given (YtpjfmfaijcbopaaGreatDoorTie.lean); close each card by the builder's one call (the guide's Derived/Test/ToyasCard.lean, 'card_holds'). Laid BY PROGRAM, IN A SANDBOX (cutbox-door.mjs). By AI agents, Wed Nov 11 2026. No macro, syntax, notation, axiom, sorry.
-/
import Derived.Test.YtpjfmfaijcbopaaGreatDoorRows
import GoSem.ClaimSeven
namespace Go.Proofs.YtpjfmfaijcbopaaGreatDoor
namespace Rows

/-- THE TIED CARD OF 'laws.FnPartEnds'. -/
def fnPartEndsCard : Claim7 := { stood := { row := fnPartEndsRow, standIns := [], harness := (true, "b30a6ba2a941f1dafa75a2351b8ba1a52256e7ff806dbfeab3f3b92a7f54d197"), looks := true }, kinds := [], alts := [], laidByText := true, laidKinds := [.data, .data, .widerDeep, .widerDeep, .data, .data, .data, .data, .data, .data, .sentinel, .sentinel, .pinned, .pinned, .pinned], laidTests := true, laidLooks := .later }
def FnPartEndsCardSaid : Prop := Claim7.holds Tryz.pinned (.plain (OpenSpec.ofChange fnPartEndsSpec)) fnPartEndsCard

/-- THE TIED CARD OF 'laws.FnPartStarts'. -/
def fnPartStartsCard : Claim7 := { stood := { row := fnPartStartsRow, standIns := [], harness := (true, "b30a6ba2a941f1dafa75a2351b8ba1a52256e7ff806dbfeab3f3b92a7f54d197"), looks := true }, kinds := [], alts := [], laidByText := true, laidKinds := [.data, .data, .widerDeep, .widerDeep, .data, .data, .data, .data, .data, .data, .sentinel, .sentinel, .pinned, .pinned, .pinned], laidTests := true, laidLooks := .later }
def FnPartStartsCardSaid : Prop := Claim7.holds Tryz.pinned (.plain (OpenSpec.ofChange fnPartStartsSpec)) fnPartStartsCard

/-- THE TIED CARD OF 'laws.FnPartComment'. -/
def fnPartCommentCard : Claim7 := { stood := { row := fnPartCommentRow, standIns := [], harness := (true, "b30a6ba2a941f1dafa75a2351b8ba1a52256e7ff806dbfeab3f3b92a7f54d197"), looks := true }, kinds := [], alts := [], laidByText := true, laidKinds := [.data, .data, .widerDeep, .widerDeep, .data, .data, .data, .data, .data, .data, .sentinel, .sentinel, .pinned, .pinned, .pinned], laidTests := true, laidLooks := .later }
def FnPartCommentCardSaid : Prop := Claim7.holds Tryz.pinned (.plain (OpenSpec.ofChange fnPartCommentSpec)) fnPartCommentCard

/-- THE TIED CARD OF 'laws.FnPartPrinted'. -/
def fnPartPrintedCard : Claim7 := { stood := { row := fnPartPrintedRow, standIns := [], harness := (true, "b30a6ba2a941f1dafa75a2351b8ba1a52256e7ff806dbfeab3f3b92a7f54d197"), looks := true }, kinds := [], alts := [], laidByText := true, laidKinds := [.data, .data, .widerDeep, .widerDeep, .data, .data, .data, .data, .data, .data, .sentinel, .sentinel, .pinned, .pinned, .pinned], laidTests := true, laidLooks := .later }
def FnPartPrintedCardSaid : Prop := Claim7.holds Tryz.pinned (.plain (OpenSpec.ofChange fnPartPrintedSpec)) fnPartPrintedCard

/-- THE TIED CARD OF 'laws.FnNumberNone'. -/
def fnNumberNoneCard : Claim7 := { stood := { row := fnNumberNoneRow, standIns := [], harness := (true, "b30a6ba2a941f1dafa75a2351b8ba1a52256e7ff806dbfeab3f3b92a7f54d197"), looks := true }, kinds := [], alts := [], laidByText := true, laidKinds := [.data, .data, .widerDeep, .widerDeep, .data, .data, .data, .data, .data, .sentinel, .sentinel, .pinned, .pinned], laidTests := true, laidLooks := .later }
def FnNumberNoneCardSaid : Prop := Claim7.holds Tryz.pinned (.plain (OpenSpec.ofChange fnNumberNoneSpec)) fnNumberNoneCard

/-- THE TIED CARD OF 'laws.FnPartEscapes'. -/
def fnPartEscapesCard : Claim7 := { stood := { row := fnPartEscapesRow, standIns := [], harness := (true, "b30a6ba2a941f1dafa75a2351b8ba1a52256e7ff806dbfeab3f3b92a7f54d197"), looks := true }, kinds := [], alts := [], laidByText := true, laidKinds := [.data, .data, .widerDeep, .widerDeep, .data, .data, .data, .data, .data, .data, .sentinel, .sentinel, .pinned, .pinned, .pinned], laidTests := true, laidLooks := .later }
def FnPartEscapesCardSaid : Prop := Claim7.holds Tryz.pinned (.plain (OpenSpec.ofChange fnPartEscapesSpec)) fnPartEscapesCard

/-- THE TIED CARD OF 'laws.FnQuotedScanned'. -/
def fnQuotedScannedCard : Claim7 := { stood := { row := fnQuotedScannedRow, standIns := [], harness := (true, "b30a6ba2a941f1dafa75a2351b8ba1a52256e7ff806dbfeab3f3b92a7f54d197"), looks := true }, kinds := [], alts := [], laidByText := true, laidKinds := [.data, .data, .widerDeep, .widerDeep, .data, .data, .data, .data, .data, .data, .sentinel, .sentinel, .pinned, .pinned, .pinned], laidTests := true, laidLooks := .later }
def FnQuotedScannedCardSaid : Prop := Claim7.holds Tryz.pinned (.plain (OpenSpec.ofChange fnQuotedScannedSpec)) fnQuotedScannedCard

/-- THE SECOND FORM's CARD OF 'laws.FnPartEnds'. -/
def fnPartEndsUptoCard : Claim7 := { stood := { row := fnPartEndsUptoRow, standIns := [], harness := (true, "b30a6ba2a941f1dafa75a2351b8ba1a52256e7ff806dbfeab3f3b92a7f54d197"), looks := true }, kinds := [], alts := [], laidByText := true, laidKinds := [.data, .data, .widerDeep, .widerDeep, .data, .data, .data, .data, .data, .data, .sentinel, .sentinel, .pinned, .pinned, .pinned], laidTests := true, laidLooks := .later }
def FnPartEndsUptoCardSaid : Prop := Claim7.holds Tryz.pinned (.plain (OpenSpec.upto fnPartEndsSpec)) fnPartEndsUptoCard

/-- THE SECOND FORM's CARD OF 'laws.FnPartStarts'. -/
def fnPartStartsUptoCard : Claim7 := { stood := { row := fnPartStartsUptoRow, standIns := [], harness := (true, "b30a6ba2a941f1dafa75a2351b8ba1a52256e7ff806dbfeab3f3b92a7f54d197"), looks := true }, kinds := [], alts := [], laidByText := true, laidKinds := [.data, .data, .widerDeep, .widerDeep, .data, .data, .data, .data, .data, .data, .sentinel, .sentinel, .pinned, .pinned, .pinned], laidTests := true, laidLooks := .later }
def FnPartStartsUptoCardSaid : Prop := Claim7.holds Tryz.pinned (.plain (OpenSpec.upto fnPartStartsSpec)) fnPartStartsUptoCard

/-- THE SECOND FORM's CARD OF 'laws.FnPartComment'. -/
def fnPartCommentUptoCard : Claim7 := { stood := { row := fnPartCommentUptoRow, standIns := [], harness := (true, "b30a6ba2a941f1dafa75a2351b8ba1a52256e7ff806dbfeab3f3b92a7f54d197"), looks := true }, kinds := [], alts := [], laidByText := true, laidKinds := [.data, .data, .widerDeep, .widerDeep, .data, .data, .data, .data, .data, .data, .sentinel, .sentinel, .pinned, .pinned, .pinned], laidTests := true, laidLooks := .later }
def FnPartCommentUptoCardSaid : Prop := Claim7.holds Tryz.pinned (.plain (OpenSpec.upto fnPartCommentSpec)) fnPartCommentUptoCard

/-- THE SECOND FORM's CARD OF 'laws.FnPartPrinted'. -/
def fnPartPrintedUptoCard : Claim7 := { stood := { row := fnPartPrintedUptoRow, standIns := [], harness := (true, "b30a6ba2a941f1dafa75a2351b8ba1a52256e7ff806dbfeab3f3b92a7f54d197"), looks := true }, kinds := [], alts := [], laidByText := true, laidKinds := [.data, .data, .widerDeep, .widerDeep, .data, .data, .data, .data, .data, .data, .sentinel, .sentinel, .pinned, .pinned, .pinned], laidTests := true, laidLooks := .later }
def FnPartPrintedUptoCardSaid : Prop := Claim7.holds Tryz.pinned (.plain (OpenSpec.upto fnPartPrintedSpec)) fnPartPrintedUptoCard

/-- THE SECOND FORM's CARD OF 'laws.FnNumberNone'. -/
def fnNumberNoneUptoCard : Claim7 := { stood := { row := fnNumberNoneUptoRow, standIns := [], harness := (true, "b30a6ba2a941f1dafa75a2351b8ba1a52256e7ff806dbfeab3f3b92a7f54d197"), looks := true }, kinds := [], alts := [], laidByText := true, laidKinds := [.data, .data, .widerDeep, .widerDeep, .data, .data, .data, .data, .data, .sentinel, .sentinel, .pinned, .pinned], laidTests := true, laidLooks := .later }
def FnNumberNoneUptoCardSaid : Prop := Claim7.holds Tryz.pinned (.plain (OpenSpec.upto fnNumberNoneSpec)) fnNumberNoneUptoCard

/-- THE SECOND FORM's CARD OF 'laws.FnPartEscapes'. -/
def fnPartEscapesUptoCard : Claim7 := { stood := { row := fnPartEscapesUptoRow, standIns := [], harness := (true, "b30a6ba2a941f1dafa75a2351b8ba1a52256e7ff806dbfeab3f3b92a7f54d197"), looks := true }, kinds := [], alts := [], laidByText := true, laidKinds := [.data, .data, .widerDeep, .widerDeep, .data, .data, .data, .data, .data, .data, .sentinel, .sentinel, .pinned, .pinned, .pinned], laidTests := true, laidLooks := .later }
def FnPartEscapesUptoCardSaid : Prop := Claim7.holds Tryz.pinned (.plain (OpenSpec.upto fnPartEscapesSpec)) fnPartEscapesUptoCard

/-- THE SECOND FORM's CARD OF 'laws.FnQuotedScanned'. -/
def fnQuotedScannedUptoCard : Claim7 := { stood := { row := fnQuotedScannedUptoRow, standIns := [], harness := (true, "b30a6ba2a941f1dafa75a2351b8ba1a52256e7ff806dbfeab3f3b92a7f54d197"), looks := true }, kinds := [], alts := [], laidByText := true, laidKinds := [.data, .data, .widerDeep, .widerDeep, .data, .data, .data, .data, .data, .data, .sentinel, .sentinel, .pinned, .pinned, .pinned], laidTests := true, laidLooks := .later }
def FnQuotedScannedUptoCardSaid : Prop := Claim7.holds Tryz.pinned (.plain (OpenSpec.upto fnQuotedScannedSpec)) fnQuotedScannedUptoCard
end Rows
end Go.Proofs.YtpjfmfaijcbopaaGreatDoor
