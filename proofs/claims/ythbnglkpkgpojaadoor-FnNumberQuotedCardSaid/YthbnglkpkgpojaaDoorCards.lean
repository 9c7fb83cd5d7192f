/-
  DERIVED. GIVEN WITH THE SEED: THE CARDS: each row of YthbnglkpkgpojaaDoorRows.lean that lists a variable, with what it lists TIED to the program's text (the seventh form; the later family's looks); each row that meets fmt, with fmt's text TOLD by the authors' own Lean function (tested against real Go, not proved from fmt's source: count such statements apart). THE CARD IS WHAT COUNTS. Prove the row's statement (the work); the ties are given (YthbnglkpkgpojaaDoorTie.lean); close each card by the builder's one call (the guide's Derived/Test/ToyasCard.lean, 'card_holds'). Laid BY PROGRAM, IN A SANDBOX (cutbox-door.mjs). By AI agents, Wed Nov 11 2026. No macro, syntax, notation, axiom, sorry.
-/
import Derived.Test.YthbnglkpkgpojaaDoorRows
import GoSem.ClaimSeven
namespace Go.Proofs.YthbnglkpkgpojaaDoor
namespace Rows

/-- THE TIED CARD OF 'laws.FnGraphic'. -/
def fnGraphicCard : Claim7 := { stood := { row := fnGraphicRow, standIns := [], harness := (true, "80f0cd54af67cf344dc2f55be1161dd5090730932fdd7cd2657c2eb3c67d20b6"), looks := true }, kinds := [], alts := [], laidByText := true, laidKinds := [.data, .pinned, .pinned, .pinned, .pinned, .pinned, .pinned], laidTests := true, laidLooks := .later }
def FnGraphicCardSaid : Prop := Claim7.holds Tryd.pinned (.plain (OpenSpec.ofChange fnGraphicSpec)) fnGraphicCard

/-- THE TIED CARD OF 'laws.FnASCII'. -/
def fnASCIICard : Claim7 := { stood := { row := fnASCIIRow, standIns := [], harness := (true, "80f0cd54af67cf344dc2f55be1161dd5090730932fdd7cd2657c2eb3c67d20b6"), looks := true }, kinds := [], alts := [], laidByText := true, laidKinds := [.data, .pinned, .pinned, .pinned, .pinned, .pinned, .pinned], laidTests := true, laidLooks := .later }
def FnASCIICardSaid : Prop := Claim7.holds Tryd.pinned (.plain (OpenSpec.ofChange fnASCIISpec)) fnASCIICard

/-- THE TIED CARD OF 'laws.FnUnquoted'. -/
def fnUnquotedCard : Claim7 := { stood := { row := fnUnquotedRow, standIns := [], harness := (true, "80f0cd54af67cf344dc2f55be1161dd5090730932fdd7cd2657c2eb3c67d20b6"), looks := true }, kinds := [], alts := [], laidByText := true, laidKinds := [.data, .sentinel, .pinned, .pinned, .pinned, .pinned, .pinned, .pinned], laidTests := true, laidLooks := .later }
def FnUnquotedCardSaid : Prop := Claim7.holds Tryd.pinned (.plain (OpenSpec.ofChange fnUnquotedSpec)) fnUnquotedCard

/-- THE TIED CARD OF 'laws.FnUnquotedRune'. -/
def fnUnquotedRuneCard : Claim7 := { stood := { row := fnUnquotedRuneRow, standIns := [], harness := (true, "80f0cd54af67cf344dc2f55be1161dd5090730932fdd7cd2657c2eb3c67d20b6"), looks := true }, kinds := [], alts := [], laidByText := true, laidKinds := [.data, .sentinel, .pinned, .pinned, .pinned, .pinned, .pinned, .pinned], laidTests := true, laidLooks := .later }
def FnUnquotedRuneCardSaid : Prop := Claim7.holds Tryd.pinned (.plain (OpenSpec.ofChange fnUnquotedRuneSpec)) fnUnquotedRuneCard

/-- THE TIED CARD OF 'laws.FnTwice'. -/
def fnTwiceCard : Claim7 := { stood := { row := fnTwiceRow, standIns := [], harness := (true, "80f0cd54af67cf344dc2f55be1161dd5090730932fdd7cd2657c2eb3c67d20b6"), looks := true }, kinds := [], alts := [], laidByText := true, laidKinds := [.data, .sentinel, .pinned, .pinned, .pinned, .pinned, .pinned, .pinned], laidTests := true, laidLooks := .later }
def FnTwiceCardSaid : Prop := Claim7.holds Tryd.pinned (.plain (OpenSpec.ofChange fnTwiceSpec)) fnTwiceCard

/-- THE TIED CARD OF 'laws.FnNumberQuoted'. -/
def fnNumberQuotedCard : Claim7 := { stood := { row := fnNumberQuotedRow, standIns := [], harness := (true, "80f0cd54af67cf344dc2f55be1161dd5090730932fdd7cd2657c2eb3c67d20b6"), looks := true }, kinds := [], alts := [], laidByText := true, laidKinds := [.data, .data, .data, .data, .sentinel, .sentinel, .pinned, .pinned, .pinned, .pinned, .pinned, .pinned], laidTests := true, laidLooks := .later }
def FnNumberQuotedCardSaid : Prop := Claim7.holds Tryd.pinned (.plain (OpenSpec.ofChange fnNumberQuotedSpec)) fnNumberQuotedCard

/-- THE TIED CARD OF 'laws.FnAppendMore'. -/
def fnAppendMoreCard : Claim7 := { stood := { row := fnAppendMoreRow, standIns := [], harness := (true, "80f0cd54af67cf344dc2f55be1161dd5090730932fdd7cd2657c2eb3c67d20b6"), looks := true }, kinds := [], alts := [], laidByText := true, laidKinds := [.data, .data, .data, .data, .pinned, .pinned, .pinned, .pinned, .pinned, .pinned], laidTests := true, laidLooks := .later }
def FnAppendMoreCardSaid : Prop := Claim7.holds Tryd.pinned (.plain (OpenSpec.ofChange fnAppendMoreSpec)) fnAppendMoreCard

/-- THE SECOND FORM's CARD OF 'laws.FnGraphic'. -/
def fnGraphicUptoCard : Claim7 := { stood := { row := fnGraphicUptoRow, standIns := [], harness := (true, "80f0cd54af67cf344dc2f55be1161dd5090730932fdd7cd2657c2eb3c67d20b6"), looks := true }, kinds := [], alts := [], laidByText := true, laidKinds := [.data, .pinned, .pinned, .pinned, .pinned, .pinned, .pinned], laidTests := true, laidLooks := .later }
def FnGraphicUptoCardSaid : Prop := Claim7.holds Tryd.pinned (.plain (OpenSpec.upto fnGraphicSpec)) fnGraphicUptoCard

/-- THE SECOND FORM's CARD OF 'laws.FnASCII'. -/
def fnASCIIUptoCard : Claim7 := { stood := { row := fnASCIIUptoRow, standIns := [], harness := (true, "80f0cd54af67cf344dc2f55be1161dd5090730932fdd7cd2657c2eb3c67d20b6"), looks := true }, kinds := [], alts := [], laidByText := true, laidKinds := [.data, .pinned, .pinned, .pinned, .pinned, .pinned, .pinned], laidTests := true, laidLooks := .later }
def FnASCIIUptoCardSaid : Prop := Claim7.holds Tryd.pinned (.plain (OpenSpec.upto fnASCIISpec)) fnASCIIUptoCard

/-- THE SECOND FORM's CARD OF 'laws.FnUnquoted'. -/
def fnUnquotedUptoCard : Claim7 := { stood := { row := fnUnquotedUptoRow, standIns := [], harness := (true, "80f0cd54af67cf344dc2f55be1161dd5090730932fdd7cd2657c2eb3c67d20b6"), looks := true }, kinds := [], alts := [], laidByText := true, laidKinds := [.data, .sentinel, .pinned, .pinned, .pinned, .pinned, .pinned, .pinned], laidTests := true, laidLooks := .later }
def FnUnquotedUptoCardSaid : Prop := Claim7.holds Tryd.pinned (.plain (OpenSpec.upto fnUnquotedSpec)) fnUnquotedUptoCard

/-- THE SECOND FORM's CARD OF 'laws.FnUnquotedRune'. -/
def fnUnquotedRuneUptoCard : Claim7 := { stood := { row := fnUnquotedRuneUptoRow, standIns := [], harness := (true, "80f0cd54af67cf344dc2f55be1161dd5090730932fdd7cd2657c2eb3c67d20b6"), looks := true }, kinds := [], alts := [], laidByText := true, laidKinds := [.data, .sentinel, .pinned, .pinned, .pinned, .pinned, .pinned, .pinned], laidTests := true, laidLooks := .later }
def FnUnquotedRuneUptoCardSaid : Prop := Claim7.holds Tryd.pinned (.plain (OpenSpec.upto fnUnquotedRuneSpec)) fnUnquotedRuneUptoCard

/-- THE SECOND FORM's CARD OF 'laws.FnTwice'. -/
def fnTwiceUptoCard : Claim7 := { stood := { row := fnTwiceUptoRow, standIns := [], harness := (true, "80f0cd54af67cf344dc2f55be1161dd5090730932fdd7cd2657c2eb3c67d20b6"), looks := true }, kinds := [], alts := [], laidByText := true, laidKinds := [.data, .sentinel, .pinned, .pinned, .pinned, .pinned, .pinned, .pinned], laidTests := true, laidLooks := .later }
def FnTwiceUptoCardSaid : Prop := Claim7.holds Tryd.pinned (.plain (OpenSpec.upto fnTwiceSpec)) fnTwiceUptoCard

/-- THE SECOND FORM's CARD OF 'laws.FnNumberQuoted'. -/
def fnNumberQuotedUptoCard : Claim7 := { stood := { row := fnNumberQuotedUptoRow, standIns := [], harness := (true, "80f0cd54af67cf344dc2f55be1161dd5090730932fdd7cd2657c2eb3c67d20b6"), looks := true }, kinds := [], alts := [], laidByText := true, laidKinds := [.data, .data, .data, .data, .sentinel, .sentinel, .pinned, .pinned, .pinned, .pinned, .pinned, .pinned], laidTests := true, laidLooks := .later }
def FnNumberQuotedUptoCardSaid : Prop := Claim7.holds Tryd.pinned (.plain (OpenSpec.upto fnNumberQuotedSpec)) fnNumberQuotedUptoCard

/-- THE SECOND FORM's CARD OF 'laws.FnAppendMore'. -/
def fnAppendMoreUptoCard : Claim7 := { stood := { row := fnAppendMoreUptoRow, standIns := [], harness := (true, "80f0cd54af67cf344dc2f55be1161dd5090730932fdd7cd2657c2eb3c67d20b6"), looks := true }, kinds := [], alts := [], laidByText := true, laidKinds := [.data, .data, .data, .data, .pinned, .pinned, .pinned, .pinned, .pinned, .pinned], laidTests := true, laidLooks := .later }
def FnAppendMoreUptoCardSaid : Prop := Claim7.holds Tryd.pinned (.plain (OpenSpec.upto fnAppendMoreSpec)) fnAppendMoreUptoCard
end Rows
end Go.Proofs.YthbnglkpkgpojaaDoor
