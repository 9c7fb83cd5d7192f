/-
  DERIVED. GIVEN WITH THE SEED: THE CARDS: each row of YtjipihlnebnjjaaDoorRows.lean that lists a variable, with what it lists TIED to the program's text (the seventh form; the later family's looks); each row that meets fmt, with fmt's text TOLD by the authors' own Lean function (tested against real Go, not proved from fmt's source: count such statements apart). THE CARD IS WHAT COUNTS. Prove the row's statement (the work); the ties are given (YtjipihlnebnjjaaDoorTie.lean); close each card by the builder's one call (the guide's Derived/Test/ToyasCard.lean, 'card_holds'). Laid BY PROGRAM, IN A SANDBOX (cutbox-door.mjs). By AI agents, Wed Nov 11 2026. No macro, syntax, notation, axiom, sorry.
-/
import Derived.Test.YtjipihlnebnjjaaDoorRows
import GoSem.ClaimSeven
namespace Go.Proofs.YtjipihlnebnjjaaDoor
namespace Rows

/-- THE TIED CARD OF 'laws.FnQuoteRune'. -/
def fnQuoteRuneCard : Claim7 := { stood := { row := fnQuoteRuneRow, standIns := [], harness := (true, "3b829ae15e99a1d9c572779e0ef9ac90e86eabd01abca7aa7145c631862cf094"), looks := false }, kinds := [], alts := [], laidByText := true, laidKinds := [.pinned, .pinned, .pinned, .pinned, .pinned], laidTests := true, laidLooks := .later }
def FnQuoteRuneCardSaid : Prop := Claim7.holds Tryd.pinned (.plain (OpenSpec.ofChange fnQuoteRuneSpec)) fnQuoteRuneCard

/-- THE TIED CARD OF 'laws.FnQuoteRuneToASCII'. -/
def fnQuoteRuneToASCIICard : Claim7 := { stood := { row := fnQuoteRuneToASCIIRow, standIns := [], harness := (true, "3b829ae15e99a1d9c572779e0ef9ac90e86eabd01abca7aa7145c631862cf094"), looks := false }, kinds := [], alts := [], laidByText := true, laidKinds := [.pinned, .pinned, .pinned, .pinned, .pinned], laidTests := true, laidLooks := .later }
def FnQuoteRuneToASCIICardSaid : Prop := Claim7.holds Tryd.pinned (.plain (OpenSpec.ofChange fnQuoteRuneToASCIISpec)) fnQuoteRuneToASCIICard

/-- THE TIED CARD OF 'laws.FnQuoteRuneToGraphic'. -/
def fnQuoteRuneToGraphicCard : Claim7 := { stood := { row := fnQuoteRuneToGraphicRow, standIns := [], harness := (true, "3b829ae15e99a1d9c572779e0ef9ac90e86eabd01abca7aa7145c631862cf094"), looks := false }, kinds := [], alts := [], laidByText := true, laidKinds := [.pinned, .pinned, .pinned, .pinned, .pinned], laidTests := true, laidLooks := .later }
def FnQuoteRuneToGraphicCardSaid : Prop := Claim7.holds Tryd.pinned (.plain (OpenSpec.ofChange fnQuoteRuneToGraphicSpec)) fnQuoteRuneToGraphicCard

/-- THE TIED CARD OF 'laws.FnReplaced'. -/
def fnReplacedCard : Claim7 := { stood := { row := fnReplacedRow, standIns := [], harness := (true, "3b829ae15e99a1d9c572779e0ef9ac90e86eabd01abca7aa7145c631862cf094"), looks := false }, kinds := [], alts := [], laidByText := true, laidKinds := [.pinned, .pinned, .pinned, .pinned, .pinned], laidTests := true, laidLooks := .later }
def FnReplacedCardSaid : Prop := Claim7.holds Tryd.pinned (.plain (OpenSpec.ofChange fnReplacedSpec)) fnReplacedCard

/-- THE TIED CARD OF 'laws.FnAppendQuoteRunes'. -/
def fnAppendQuoteRunesCard : Claim7 := { stood := { row := fnAppendQuoteRunesRow, standIns := [], harness := (true, "3b829ae15e99a1d9c572779e0ef9ac90e86eabd01abca7aa7145c631862cf094"), looks := false }, kinds := [], alts := [], laidByText := true, laidKinds := [.pinned, .pinned, .pinned, .pinned, .pinned], laidTests := true, laidLooks := .later }
def FnAppendQuoteRunesCardSaid : Prop := Claim7.holds Tryd.pinned (.plain (OpenSpec.ofChange fnAppendQuoteRunesSpec)) fnAppendQuoteRunesCard

/-- THE TIED CARD OF 'laws.FnQuote'. -/
def fnQuoteCard : Claim7 := { stood := { row := fnQuoteRow, standIns := [], harness := (true, "3b829ae15e99a1d9c572779e0ef9ac90e86eabd01abca7aa7145c631862cf094"), looks := false }, kinds := [], alts := [], laidByText := true, laidKinds := [.data, .pinned, .pinned, .pinned, .pinned, .pinned, .pinned], laidTests := true, laidLooks := .later }
def FnQuoteCardSaid : Prop := Claim7.holds Tryd.pinned (.plain (OpenSpec.ofChange fnQuoteSpec)) fnQuoteCard

/-- THE TIED CARD OF 'laws.FnQuoteToASCII'. -/
def fnQuoteToASCIICard : Claim7 := { stood := { row := fnQuoteToASCIIRow, standIns := [], harness := (true, "3b829ae15e99a1d9c572779e0ef9ac90e86eabd01abca7aa7145c631862cf094"), looks := false }, kinds := [], alts := [], laidByText := true, laidKinds := [.data, .pinned, .pinned, .pinned, .pinned, .pinned, .pinned], laidTests := true, laidLooks := .later }
def FnQuoteToASCIICardSaid : Prop := Claim7.holds Tryd.pinned (.plain (OpenSpec.ofChange fnQuoteToASCIISpec)) fnQuoteToASCIICard

/-- THE TIED CARD OF 'laws.FnQuoteToGraphic'. -/
def fnQuoteToGraphicCard : Claim7 := { stood := { row := fnQuoteToGraphicRow, standIns := [], harness := (true, "3b829ae15e99a1d9c572779e0ef9ac90e86eabd01abca7aa7145c631862cf094"), looks := false }, kinds := [], alts := [], laidByText := true, laidKinds := [.data, .pinned, .pinned, .pinned, .pinned, .pinned, .pinned], laidTests := true, laidLooks := .later }
def FnQuoteToGraphicCardSaid : Prop := Claim7.holds Tryd.pinned (.plain (OpenSpec.ofChange fnQuoteToGraphicSpec)) fnQuoteToGraphicCard

/-- THE TIED CARD OF 'laws.FnAppendQuotes'. -/
def fnAppendQuotesCard : Claim7 := { stood := { row := fnAppendQuotesRow, standIns := [], harness := (true, "3b829ae15e99a1d9c572779e0ef9ac90e86eabd01abca7aa7145c631862cf094"), looks := false }, kinds := [], alts := [], laidByText := true, laidKinds := [.data, .pinned, .pinned, .pinned, .pinned, .pinned, .pinned], laidTests := true, laidLooks := .later }
def FnAppendQuotesCardSaid : Prop := Claim7.holds Tryd.pinned (.plain (OpenSpec.ofChange fnAppendQuotesSpec)) fnAppendQuotesCard

/-- THE TIED CARD OF 'laws.FnErrorText'. -/
def fnErrorTextCard : Claim7 := { stood := { row := fnErrorTextRow, standIns := [], harness := (true, "3b829ae15e99a1d9c572779e0ef9ac90e86eabd01abca7aa7145c631862cf094"), looks := false }, kinds := [], alts := [], laidByText := true, laidKinds := [.data, .sentinel, .sentinel, .pinned, .pinned, .pinned, .pinned, .pinned, .pinned], laidTests := true, laidLooks := .later }
def FnErrorTextCardSaid : Prop := Claim7.holds Tryd.pinned (.plain (OpenSpec.ofChange fnErrorTextSpec)) fnErrorTextCard

/-- THE TIED CARD OF 'laws.FnListed'. -/
def fnListedCard : Claim7 := { stood := { row := fnListedRow, standIns := [], harness := (true, "3b829ae15e99a1d9c572779e0ef9ac90e86eabd01abca7aa7145c631862cf094"), looks := false }, kinds := [], alts := [], laidByText := true, laidKinds := [.data, .pinned, .pinned, .pinned, .pinned, .pinned, .pinned], laidTests := true, laidLooks := .later }
def FnListedCardSaid : Prop := Claim7.holds Tryd.pinned (.plain (OpenSpec.ofChange fnListedSpec)) fnListedCard

/-- THE TIED CARD OF 'laws.FnOneLine'. -/
def fnOneLineCard : Claim7 := { stood := { row := fnOneLineRow, standIns := [], harness := (true, "3b829ae15e99a1d9c572779e0ef9ac90e86eabd01abca7aa7145c631862cf094"), looks := false }, kinds := [], alts := [], laidByText := true, laidKinds := [.data, .pinned, .pinned, .pinned, .pinned, .pinned, .pinned], laidTests := true, laidLooks := .later }
def FnOneLineCardSaid : Prop := Claim7.holds Tryd.pinned (.plain (OpenSpec.ofChange fnOneLineSpec)) fnOneLineCard

/-- THE SECOND FORM's CARD OF 'laws.FnQuoteRune'. -/
def fnQuoteRuneUptoCard : Claim7 := { stood := { row := fnQuoteRuneUptoRow, standIns := [], harness := (true, "3b829ae15e99a1d9c572779e0ef9ac90e86eabd01abca7aa7145c631862cf094"), looks := false }, kinds := [], alts := [], laidByText := true, laidKinds := [.pinned, .pinned, .pinned, .pinned, .pinned], laidTests := true, laidLooks := .later }
def FnQuoteRuneUptoCardSaid : Prop := Claim7.holds Tryd.pinned (.plain (OpenSpec.upto fnQuoteRuneSpec)) fnQuoteRuneUptoCard

/-- THE SECOND FORM's CARD OF 'laws.FnQuoteRuneToASCII'. -/
def fnQuoteRuneToASCIIUptoCard : Claim7 := { stood := { row := fnQuoteRuneToASCIIUptoRow, standIns := [], harness := (true, "3b829ae15e99a1d9c572779e0ef9ac90e86eabd01abca7aa7145c631862cf094"), looks := false }, kinds := [], alts := [], laidByText := true, laidKinds := [.pinned, .pinned, .pinned, .pinned, .pinned], laidTests := true, laidLooks := .later }
def FnQuoteRuneToASCIIUptoCardSaid : Prop := Claim7.holds Tryd.pinned (.plain (OpenSpec.upto fnQuoteRuneToASCIISpec)) fnQuoteRuneToASCIIUptoCard

/-- THE SECOND FORM's CARD OF 'laws.FnQuoteRuneToGraphic'. -/
def fnQuoteRuneToGraphicUptoCard : Claim7 := { stood := { row := fnQuoteRuneToGraphicUptoRow, standIns := [], harness := (true, "3b829ae15e99a1d9c572779e0ef9ac90e86eabd01abca7aa7145c631862cf094"), looks := false }, kinds := [], alts := [], laidByText := true, laidKinds := [.pinned, .pinned, .pinned, .pinned, .pinned], laidTests := true, laidLooks := .later }
def FnQuoteRuneToGraphicUptoCardSaid : Prop := Claim7.holds Tryd.pinned (.plain (OpenSpec.upto fnQuoteRuneToGraphicSpec)) fnQuoteRuneToGraphicUptoCard

/-- THE SECOND FORM's CARD OF 'laws.FnReplaced'. -/
def fnReplacedUptoCard : Claim7 := { stood := { row := fnReplacedUptoRow, standIns := [], harness := (true, "3b829ae15e99a1d9c572779e0ef9ac90e86eabd01abca7aa7145c631862cf094"), looks := false }, kinds := [], alts := [], laidByText := true, laidKinds := [.pinned, .pinned, .pinned, .pinned, .pinned], laidTests := true, laidLooks := .later }
def FnReplacedUptoCardSaid : Prop := Claim7.holds Tryd.pinned (.plain (OpenSpec.upto fnReplacedSpec)) fnReplacedUptoCard

/-- THE SECOND FORM's CARD OF 'laws.FnAppendQuoteRunes'. -/
def fnAppendQuoteRunesUptoCard : Claim7 := { stood := { row := fnAppendQuoteRunesUptoRow, standIns := [], harness := (true, "3b829ae15e99a1d9c572779e0ef9ac90e86eabd01abca7aa7145c631862cf094"), looks := false }, kinds := [], alts := [], laidByText := true, laidKinds := [.pinned, .pinned, .pinned, .pinned, .pinned], laidTests := true, laidLooks := .later }
def FnAppendQuoteRunesUptoCardSaid : Prop := Claim7.holds Tryd.pinned (.plain (OpenSpec.upto fnAppendQuoteRunesSpec)) fnAppendQuoteRunesUptoCard

/-- THE SECOND FORM's CARD OF 'laws.FnQuote'. -/
def fnQuoteUptoCard : Claim7 := { stood := { row := fnQuoteUptoRow, standIns := [], harness := (true, "3b829ae15e99a1d9c572779e0ef9ac90e86eabd01abca7aa7145c631862cf094"), looks := false }, kinds := [], alts := [], laidByText := true, laidKinds := [.data, .pinned, .pinned, .pinned, .pinned, .pinned, .pinned], laidTests := true, laidLooks := .later }
def FnQuoteUptoCardSaid : Prop := Claim7.holds Tryd.pinned (.plain (OpenSpec.upto fnQuoteSpec)) fnQuoteUptoCard

/-- THE SECOND FORM's CARD OF 'laws.FnQuoteToASCII'. -/
def fnQuoteToASCIIUptoCard : Claim7 := { stood := { row := fnQuoteToASCIIUptoRow, standIns := [], harness := (true, "3b829ae15e99a1d9c572779e0ef9ac90e86eabd01abca7aa7145c631862cf094"), looks := false }, kinds := [], alts := [], laidByText := true, laidKinds := [.data, .pinned, .pinned, .pinned, .pinned, .pinned, .pinned], laidTests := true, laidLooks := .later }
def FnQuoteToASCIIUptoCardSaid : Prop := Claim7.holds Tryd.pinned (.plain (OpenSpec.upto fnQuoteToASCIISpec)) fnQuoteToASCIIUptoCard

/-- THE SECOND FORM's CARD OF 'laws.FnQuoteToGraphic'. -/
def fnQuoteToGraphicUptoCard : Claim7 := { stood := { row := fnQuoteToGraphicUptoRow, standIns := [], harness := (true, "3b829ae15e99a1d9c572779e0ef9ac90e86eabd01abca7aa7145c631862cf094"), looks := false }, kinds := [], alts := [], laidByText := true, laidKinds := [.data, .pinned, .pinned, .pinned, .pinned, .pinned, .pinned], laidTests := true, laidLooks := .later }
def FnQuoteToGraphicUptoCardSaid : Prop := Claim7.holds Tryd.pinned (.plain (OpenSpec.upto fnQuoteToGraphicSpec)) fnQuoteToGraphicUptoCard

/-- THE SECOND FORM's CARD OF 'laws.FnAppendQuotes'. -/
def fnAppendQuotesUptoCard : Claim7 := { stood := { row := fnAppendQuotesUptoRow, standIns := [], harness := (true, "3b829ae15e99a1d9c572779e0ef9ac90e86eabd01abca7aa7145c631862cf094"), looks := false }, kinds := [], alts := [], laidByText := true, laidKinds := [.data, .pinned, .pinned, .pinned, .pinned, .pinned, .pinned], laidTests := true, laidLooks := .later }
def FnAppendQuotesUptoCardSaid : Prop := Claim7.holds Tryd.pinned (.plain (OpenSpec.upto fnAppendQuotesSpec)) fnAppendQuotesUptoCard

/-- THE SECOND FORM's CARD OF 'laws.FnErrorText'. -/
def fnErrorTextUptoCard : Claim7 := { stood := { row := fnErrorTextUptoRow, standIns := [], harness := (true, "3b829ae15e99a1d9c572779e0ef9ac90e86eabd01abca7aa7145c631862cf094"), looks := false }, kinds := [], alts := [], laidByText := true, laidKinds := [.data, .sentinel, .sentinel, .pinned, .pinned, .pinned, .pinned, .pinned, .pinned], laidTests := true, laidLooks := .later }
def FnErrorTextUptoCardSaid : Prop := Claim7.holds Tryd.pinned (.plain (OpenSpec.upto fnErrorTextSpec)) fnErrorTextUptoCard

/-- THE SECOND FORM's CARD OF 'laws.FnListed'. -/
def fnListedUptoCard : Claim7 := { stood := { row := fnListedUptoRow, standIns := [], harness := (true, "3b829ae15e99a1d9c572779e0ef9ac90e86eabd01abca7aa7145c631862cf094"), looks := false }, kinds := [], alts := [], laidByText := true, laidKinds := [.data, .pinned, .pinned, .pinned, .pinned, .pinned, .pinned], laidTests := true, laidLooks := .later }
def FnListedUptoCardSaid : Prop := Claim7.holds Tryd.pinned (.plain (OpenSpec.upto fnListedSpec)) fnListedUptoCard

/-- THE SECOND FORM's CARD OF 'laws.FnOneLine'. -/
def fnOneLineUptoCard : Claim7 := { stood := { row := fnOneLineUptoRow, standIns := [], harness := (true, "3b829ae15e99a1d9c572779e0ef9ac90e86eabd01abca7aa7145c631862cf094"), looks := false }, kinds := [], alts := [], laidByText := true, laidKinds := [.data, .pinned, .pinned, .pinned, .pinned, .pinned, .pinned], laidTests := true, laidLooks := .later }
def FnOneLineUptoCardSaid : Prop := Claim7.holds Tryd.pinned (.plain (OpenSpec.upto fnOneLineSpec)) fnOneLineUptoCard
end Rows
end Go.Proofs.YtjipihlnebnjjaaDoor
