/-
  DERIVED. GIVEN WITH THE SEED: THE CARDS: each row of YtpboiodigfdajaaDoorRows.lean that lists a variable, with what it lists TIED to the program's text (the seventh form; the later family's looks); each row that meets fmt, with fmt's text TOLD by the authors' own Lean function (tested against real Go, not proved from fmt's source: count such statements apart). THE CARD IS WHAT COUNTS. Prove the row's statement (the work); the ties are given (YtpboiodigfdajaaDoorTie.lean); close each card by the builder's one call (the guide's Derived/Test/ToyasCard.lean, 'card_holds'). Laid BY PROGRAM, IN A SANDBOX (cutbox-door.mjs). By AI agents, Wed Nov 11 2026. No macro, syntax, notation, axiom, sorry.
-/
import Derived.Test.YtpboiodigfdajaaDoorRows
import GoSem.ClaimSeven
namespace Go.Proofs.YtpboiodigfdajaaDoor
namespace Rows

/-- THE TIED CARD OF 'laws.FnQuote'. -/
def fnQuoteCard : Claim7 := { stood := { row := fnQuoteRow, standIns := [], harness := (true, "d8790866382f1478e115b38b4bf0c578ef02ebfd4043bed4b7752e7a457157ec"), looks := false }, kinds := [], alts := [], laidByText := true, laidKinds := [.data, .pinned, .pinned, .pinned, .pinned, .pinned, .pinned], laidTests := true, laidLooks := .later }
def FnQuoteCardSaid : Prop := Claim7.holds Tryd.pinned (.plain (OpenSpec.ofChange fnQuoteSpec)) fnQuoteCard

/-- THE TIED CARD OF 'laws.FnQuoteToASCII'. -/
def fnQuoteToASCIICard : Claim7 := { stood := { row := fnQuoteToASCIIRow, standIns := [], harness := (true, "d8790866382f1478e115b38b4bf0c578ef02ebfd4043bed4b7752e7a457157ec"), looks := false }, kinds := [], alts := [], laidByText := true, laidKinds := [.data, .pinned, .pinned, .pinned, .pinned, .pinned, .pinned], laidTests := true, laidLooks := .later }
def FnQuoteToASCIICardSaid : Prop := Claim7.holds Tryd.pinned (.plain (OpenSpec.ofChange fnQuoteToASCIISpec)) fnQuoteToASCIICard

/-- THE TIED CARD OF 'laws.FnQuoteToGraphic'. -/
def fnQuoteToGraphicCard : Claim7 := { stood := { row := fnQuoteToGraphicRow, standIns := [], harness := (true, "d8790866382f1478e115b38b4bf0c578ef02ebfd4043bed4b7752e7a457157ec"), looks := false }, kinds := [], alts := [], laidByText := true, laidKinds := [.data, .pinned, .pinned, .pinned, .pinned, .pinned, .pinned], laidTests := true, laidLooks := .later }
def FnQuoteToGraphicCardSaid : Prop := Claim7.holds Tryd.pinned (.plain (OpenSpec.ofChange fnQuoteToGraphicSpec)) fnQuoteToGraphicCard

/-- THE TIED CARD OF 'laws.FnAppendQuotes'. -/
def fnAppendQuotesCard : Claim7 := { stood := { row := fnAppendQuotesRow, standIns := [], harness := (true, "d8790866382f1478e115b38b4bf0c578ef02ebfd4043bed4b7752e7a457157ec"), looks := false }, kinds := [], alts := [], laidByText := true, laidKinds := [.data, .pinned, .pinned, .pinned, .pinned, .pinned, .pinned], laidTests := true, laidLooks := .later }
def FnAppendQuotesCardSaid : Prop := Claim7.holds Tryd.pinned (.plain (OpenSpec.ofChange fnAppendQuotesSpec)) fnAppendQuotesCard

/-- THE TIED CARD OF 'laws.FnErrorText'. -/
def fnErrorTextCard : Claim7 := { stood := { row := fnErrorTextRow, standIns := [], harness := (true, "d8790866382f1478e115b38b4bf0c578ef02ebfd4043bed4b7752e7a457157ec"), looks := false }, kinds := [], alts := [], laidByText := true, laidKinds := [.data, .sentinel, .sentinel, .pinned, .pinned, .pinned, .pinned, .pinned, .pinned], laidTests := true, laidLooks := .later }
def FnErrorTextCardSaid : Prop := Claim7.holds Tryd.pinned (.plain (OpenSpec.ofChange fnErrorTextSpec)) fnErrorTextCard

/-- THE TIED CARD OF 'laws.FnListed'. -/
def fnListedCard : Claim7 := { stood := { row := fnListedRow, standIns := [], harness := (true, "d8790866382f1478e115b38b4bf0c578ef02ebfd4043bed4b7752e7a457157ec"), looks := false }, kinds := [], alts := [], laidByText := true, laidKinds := [.data, .pinned, .pinned, .pinned, .pinned, .pinned, .pinned], laidTests := true, laidLooks := .later }
def FnListedCardSaid : Prop := Claim7.holds Tryd.pinned (.plain (OpenSpec.ofChange fnListedSpec)) fnListedCard

/-- THE TIED CARD OF 'laws.FnOneLine'. -/
def fnOneLineCard : Claim7 := { stood := { row := fnOneLineRow, standIns := [], harness := (true, "d8790866382f1478e115b38b4bf0c578ef02ebfd4043bed4b7752e7a457157ec"), looks := false }, kinds := [], alts := [], laidByText := true, laidKinds := [.data, .pinned, .pinned, .pinned, .pinned, .pinned, .pinned], laidTests := true, laidLooks := .later }
def FnOneLineCardSaid : Prop := Claim7.holds Tryd.pinned (.plain (OpenSpec.ofChange fnOneLineSpec)) fnOneLineCard

/-- THE TIED CARD OF 'laws.FnPlain'. -/
def fnPlainCard : Claim7 := { stood := { row := fnPlainRow, standIns := [], harness := (true, "d8790866382f1478e115b38b4bf0c578ef02ebfd4043bed4b7752e7a457157ec"), looks := false }, kinds := [], alts := [], laidByText := true, laidKinds := [.data, .pinned, .pinned, .pinned, .pinned, .pinned, .pinned], laidTests := true, laidLooks := .later }
def FnPlainCardSaid : Prop := Claim7.holds Tryd.pinned (.plain (OpenSpec.ofChange fnPlainSpec)) fnPlainCard

/-- THE TIED CARD OF 'laws.FnQuoteApart'. -/
def fnQuoteApartCard : Claim7 := { stood := { row := fnQuoteApartRow, standIns := [], harness := (true, "d8790866382f1478e115b38b4bf0c578ef02ebfd4043bed4b7752e7a457157ec"), looks := false }, kinds := [], alts := [], laidByText := true, laidKinds := [.data, .pinned, .pinned, .pinned, .pinned, .pinned, .pinned], laidTests := true, laidLooks := .later }
def FnQuoteApartCardSaid : Prop := Claim7.holds Tryd.pinned (.plain (OpenSpec.ofChange fnQuoteApartSpec)) fnQuoteApartCard

/-- THE TIED CARD OF 'laws.FnQuoteLength'. -/
def fnQuoteLengthCard : Claim7 := { stood := { row := fnQuoteLengthRow, standIns := [], harness := (true, "d8790866382f1478e115b38b4bf0c578ef02ebfd4043bed4b7752e7a457157ec"), looks := false }, kinds := [], alts := [], laidByText := true, laidKinds := [.data, .pinned, .pinned, .pinned, .pinned, .pinned, .pinned], laidTests := true, laidLooks := .later }
def FnQuoteLengthCardSaid : Prop := Claim7.holds Tryd.pinned (.plain (OpenSpec.ofChange fnQuoteLengthSpec)) fnQuoteLengthCard

/-- THE TIED CARD OF 'laws.FnQuoteParts'. -/
def fnQuotePartsCard : Claim7 := { stood := { row := fnQuotePartsRow, standIns := [], harness := (true, "d8790866382f1478e115b38b4bf0c578ef02ebfd4043bed4b7752e7a457157ec"), looks := false }, kinds := [], alts := [], laidByText := true, laidKinds := [.data, .pinned, .pinned, .pinned, .pinned, .pinned, .pinned], laidTests := true, laidLooks := .later }
def FnQuotePartsCardSaid : Prop := Claim7.holds Tryd.pinned (.plain (OpenSpec.ofChange fnQuotePartsSpec)) fnQuotePartsCard

/-- THE TIED CARD OF 'laws.FnQuoteOne'. -/
def fnQuoteOneCard : Claim7 := { stood := { row := fnQuoteOneRow, standIns := [], harness := (true, "d8790866382f1478e115b38b4bf0c578ef02ebfd4043bed4b7752e7a457157ec"), looks := false }, kinds := [], alts := [], laidByText := true, laidKinds := [.data, .pinned, .pinned, .pinned, .pinned, .pinned, .pinned], laidTests := true, laidLooks := .later }
def FnQuoteOneCardSaid : Prop := Claim7.holds Tryd.pinned (.plain (OpenSpec.ofChange fnQuoteOneSpec)) fnQuoteOneCard

/-- THE SECOND FORM's CARD OF 'laws.FnQuote'. -/
def fnQuoteUptoCard : Claim7 := { stood := { row := fnQuoteUptoRow, standIns := [], harness := (true, "d8790866382f1478e115b38b4bf0c578ef02ebfd4043bed4b7752e7a457157ec"), looks := false }, kinds := [], alts := [], laidByText := true, laidKinds := [.data, .pinned, .pinned, .pinned, .pinned, .pinned, .pinned], laidTests := true, laidLooks := .later }
def FnQuoteUptoCardSaid : Prop := Claim7.holds Tryd.pinned (.plain (OpenSpec.upto fnQuoteSpec)) fnQuoteUptoCard

/-- THE SECOND FORM's CARD OF 'laws.FnQuoteToASCII'. -/
def fnQuoteToASCIIUptoCard : Claim7 := { stood := { row := fnQuoteToASCIIUptoRow, standIns := [], harness := (true, "d8790866382f1478e115b38b4bf0c578ef02ebfd4043bed4b7752e7a457157ec"), looks := false }, kinds := [], alts := [], laidByText := true, laidKinds := [.data, .pinned, .pinned, .pinned, .pinned, .pinned, .pinned], laidTests := true, laidLooks := .later }
def FnQuoteToASCIIUptoCardSaid : Prop := Claim7.holds Tryd.pinned (.plain (OpenSpec.upto fnQuoteToASCIISpec)) fnQuoteToASCIIUptoCard

/-- THE SECOND FORM's CARD OF 'laws.FnQuoteToGraphic'. -/
def fnQuoteToGraphicUptoCard : Claim7 := { stood := { row := fnQuoteToGraphicUptoRow, standIns := [], harness := (true, "d8790866382f1478e115b38b4bf0c578ef02ebfd4043bed4b7752e7a457157ec"), looks := false }, kinds := [], alts := [], laidByText := true, laidKinds := [.data, .pinned, .pinned, .pinned, .pinned, .pinned, .pinned], laidTests := true, laidLooks := .later }
def FnQuoteToGraphicUptoCardSaid : Prop := Claim7.holds Tryd.pinned (.plain (OpenSpec.upto fnQuoteToGraphicSpec)) fnQuoteToGraphicUptoCard

/-- THE SECOND FORM's CARD OF 'laws.FnAppendQuotes'. -/
def fnAppendQuotesUptoCard : Claim7 := { stood := { row := fnAppendQuotesUptoRow, standIns := [], harness := (true, "d8790866382f1478e115b38b4bf0c578ef02ebfd4043bed4b7752e7a457157ec"), looks := false }, kinds := [], alts := [], laidByText := true, laidKinds := [.data, .pinned, .pinned, .pinned, .pinned, .pinned, .pinned], laidTests := true, laidLooks := .later }
def FnAppendQuotesUptoCardSaid : Prop := Claim7.holds Tryd.pinned (.plain (OpenSpec.upto fnAppendQuotesSpec)) fnAppendQuotesUptoCard

/-- THE SECOND FORM's CARD OF 'laws.FnErrorText'. -/
def fnErrorTextUptoCard : Claim7 := { stood := { row := fnErrorTextUptoRow, standIns := [], harness := (true, "d8790866382f1478e115b38b4bf0c578ef02ebfd4043bed4b7752e7a457157ec"), looks := false }, kinds := [], alts := [], laidByText := true, laidKinds := [.data, .sentinel, .sentinel, .pinned, .pinned, .pinned, .pinned, .pinned, .pinned], laidTests := true, laidLooks := .later }
def FnErrorTextUptoCardSaid : Prop := Claim7.holds Tryd.pinned (.plain (OpenSpec.upto fnErrorTextSpec)) fnErrorTextUptoCard

/-- THE SECOND FORM's CARD OF 'laws.FnListed'. -/
def fnListedUptoCard : Claim7 := { stood := { row := fnListedUptoRow, standIns := [], harness := (true, "d8790866382f1478e115b38b4bf0c578ef02ebfd4043bed4b7752e7a457157ec"), looks := false }, kinds := [], alts := [], laidByText := true, laidKinds := [.data, .pinned, .pinned, .pinned, .pinned, .pinned, .pinned], laidTests := true, laidLooks := .later }
def FnListedUptoCardSaid : Prop := Claim7.holds Tryd.pinned (.plain (OpenSpec.upto fnListedSpec)) fnListedUptoCard

/-- THE SECOND FORM's CARD OF 'laws.FnOneLine'. -/
def fnOneLineUptoCard : Claim7 := { stood := { row := fnOneLineUptoRow, standIns := [], harness := (true, "d8790866382f1478e115b38b4bf0c578ef02ebfd4043bed4b7752e7a457157ec"), looks := false }, kinds := [], alts := [], laidByText := true, laidKinds := [.data, .pinned, .pinned, .pinned, .pinned, .pinned, .pinned], laidTests := true, laidLooks := .later }
def FnOneLineUptoCardSaid : Prop := Claim7.holds Tryd.pinned (.plain (OpenSpec.upto fnOneLineSpec)) fnOneLineUptoCard

/-- THE SECOND FORM's CARD OF 'laws.FnPlain'. -/
def fnPlainUptoCard : Claim7 := { stood := { row := fnPlainUptoRow, standIns := [], harness := (true, "d8790866382f1478e115b38b4bf0c578ef02ebfd4043bed4b7752e7a457157ec"), looks := false }, kinds := [], alts := [], laidByText := true, laidKinds := [.data, .pinned, .pinned, .pinned, .pinned, .pinned, .pinned], laidTests := true, laidLooks := .later }
def FnPlainUptoCardSaid : Prop := Claim7.holds Tryd.pinned (.plain (OpenSpec.upto fnPlainSpec)) fnPlainUptoCard

/-- THE SECOND FORM's CARD OF 'laws.FnQuoteApart'. -/
def fnQuoteApartUptoCard : Claim7 := { stood := { row := fnQuoteApartUptoRow, standIns := [], harness := (true, "d8790866382f1478e115b38b4bf0c578ef02ebfd4043bed4b7752e7a457157ec"), looks := false }, kinds := [], alts := [], laidByText := true, laidKinds := [.data, .pinned, .pinned, .pinned, .pinned, .pinned, .pinned], laidTests := true, laidLooks := .later }
def FnQuoteApartUptoCardSaid : Prop := Claim7.holds Tryd.pinned (.plain (OpenSpec.upto fnQuoteApartSpec)) fnQuoteApartUptoCard

/-- THE SECOND FORM's CARD OF 'laws.FnQuoteLength'. -/
def fnQuoteLengthUptoCard : Claim7 := { stood := { row := fnQuoteLengthUptoRow, standIns := [], harness := (true, "d8790866382f1478e115b38b4bf0c578ef02ebfd4043bed4b7752e7a457157ec"), looks := false }, kinds := [], alts := [], laidByText := true, laidKinds := [.data, .pinned, .pinned, .pinned, .pinned, .pinned, .pinned], laidTests := true, laidLooks := .later }
def FnQuoteLengthUptoCardSaid : Prop := Claim7.holds Tryd.pinned (.plain (OpenSpec.upto fnQuoteLengthSpec)) fnQuoteLengthUptoCard

/-- THE SECOND FORM's CARD OF 'laws.FnQuoteParts'. -/
def fnQuotePartsUptoCard : Claim7 := { stood := { row := fnQuotePartsUptoRow, standIns := [], harness := (true, "d8790866382f1478e115b38b4bf0c578ef02ebfd4043bed4b7752e7a457157ec"), looks := false }, kinds := [], alts := [], laidByText := true, laidKinds := [.data, .pinned, .pinned, .pinned, .pinned, .pinned, .pinned], laidTests := true, laidLooks := .later }
def FnQuotePartsUptoCardSaid : Prop := Claim7.holds Tryd.pinned (.plain (OpenSpec.upto fnQuotePartsSpec)) fnQuotePartsUptoCard

/-- THE SECOND FORM's CARD OF 'laws.FnQuoteOne'. -/
def fnQuoteOneUptoCard : Claim7 := { stood := { row := fnQuoteOneUptoRow, standIns := [], harness := (true, "d8790866382f1478e115b38b4bf0c578ef02ebfd4043bed4b7752e7a457157ec"), looks := false }, kinds := [], alts := [], laidByText := true, laidKinds := [.data, .pinned, .pinned, .pinned, .pinned, .pinned, .pinned], laidTests := true, laidLooks := .later }
def FnQuoteOneUptoCardSaid : Prop := Claim7.holds Tryd.pinned (.plain (OpenSpec.upto fnQuoteOneSpec)) fnQuoteOneUptoCard
end Rows
end Go.Proofs.YtpboiodigfdajaaDoor
