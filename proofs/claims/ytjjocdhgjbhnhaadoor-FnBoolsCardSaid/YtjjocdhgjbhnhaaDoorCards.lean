/-
  DERIVED. GIVEN WITH THE SEED: THE CARDS: each row of YtjjocdhgjbhnhaaDoorRows.lean that lists a variable, with what it lists TIED to the program's text (the seventh form; the later family's looks); each row that meets fmt, with fmt's text TOLD by the authors' own Lean function (tested against real Go, not proved from fmt's source: count such statements apart). THE CARD IS WHAT COUNTS. Prove the row's statement (the work); the ties are given (YtjjocdhgjbhnhaaDoorTie.lean); close each card by the builder's one call (the guide's Derived/Test/ToyasCard.lean, 'card_holds'). Laid BY PROGRAM, IN A SANDBOX (cutbox-door.mjs). By AI agents, Wed Nov 11 2026. No macro, syntax, notation, axiom, sorry.
-/
import Derived.Test.YtjjocdhgjbhnhaaDoorRows
import GoSem.ClaimSeven
namespace Go.Proofs.YtjjocdhgjbhnhaaDoor
namespace Rows

/-- THE TIED CARD OF 'laws.FnBoolError'. -/
def fnBoolErrorCard : Claim7 := { stood := { row := fnBoolErrorRow, standIns := [], harness := (true, "fa4800deba8934b1e441c4ee494b073bf1c9a20c80ed1eab488d2ad51eacdcd5"), looks := true }, kinds := [], alts := [], laidByText := true, laidKinds := [.data, .data, .data, .sentinel, .sentinel], laidTests := true, laidLooks := .later }
def FnBoolErrorCardSaid : Prop := Claim7.holds Tryd.pinned (.plain (OpenSpec.ofChange fnBoolErrorSpec)) fnBoolErrorCard

/-- THE TIED CARD OF 'laws.FnParseBool'. -/
def fnParseBoolCard : Claim7 := { stood := { row := fnParseBoolRow, standIns := [], harness := (true, "fa4800deba8934b1e441c4ee494b073bf1c9a20c80ed1eab488d2ad51eacdcd5"), looks := true }, kinds := [], alts := [], laidByText := true, laidKinds := [.data, .data, .data, .sentinel, .sentinel], laidTests := true, laidLooks := .later }
def FnParseBoolCardSaid : Prop := Claim7.holds Tryd.pinned (.plain (OpenSpec.ofChange fnParseBoolSpec)) fnParseBoolCard

/-- THE TIED CARD OF 'laws.FnBools'. -/
def fnBoolsCard : Claim7 := { stood := { row := fnBoolsRow, standIns := [], harness := (true, "fa4800deba8934b1e441c4ee494b073bf1c9a20c80ed1eab488d2ad51eacdcd5"), looks := true }, kinds := [], alts := [], laidByText := true, laidKinds := [.data, .data, .data, .sentinel, .sentinel], laidTests := true, laidLooks := .later }
def FnBoolsCardSaid : Prop := Claim7.holds Tryd.pinned (.plain (OpenSpec.ofChange fnBoolsSpec)) fnBoolsCard

/-- THE TIED CARD OF 'laws.FnCapitals'. -/
def fnCapitalsCard : Claim7 := { stood := { row := fnCapitalsRow, standIns := [], harness := (true, "fa4800deba8934b1e441c4ee494b073bf1c9a20c80ed1eab488d2ad51eacdcd5"), looks := true }, kinds := [], alts := [], laidByText := true, laidKinds := [.data, .data, .data, .sentinel, .sentinel], laidTests := true, laidLooks := .later }
def FnCapitalsCardSaid : Prop := Claim7.holds Tryd.pinned (.plain (OpenSpec.ofChange fnCapitalsSpec)) fnCapitalsCard

/-- THE TIED CARD OF 'laws.FnParseUint'. -/
def fnParseUintCard : Claim7 := { stood := { row := fnParseUintRow, standIns := [], harness := (true, "fa4800deba8934b1e441c4ee494b073bf1c9a20c80ed1eab488d2ad51eacdcd5"), looks := true }, kinds := [], alts := [], laidByText := true, laidKinds := [.data, .data, .data, .sentinel, .sentinel], laidTests := true, laidLooks := .later }
def FnParseUintCardSaid : Prop := Claim7.holds Tryd.pinned (.plain (OpenSpec.ofChange fnParseUintSpec)) fnParseUintCard

/-- THE TIED CARD OF 'laws.FnUnderscores'. -/
def fnUnderscoresCard : Claim7 := { stood := { row := fnUnderscoresRow, standIns := [], harness := (true, "fa4800deba8934b1e441c4ee494b073bf1c9a20c80ed1eab488d2ad51eacdcd5"), looks := true }, kinds := [], alts := [], laidByText := true, laidKinds := [.data, .data, .data, .sentinel, .sentinel], laidTests := true, laidLooks := .later }
def FnUnderscoresCardSaid : Prop := Claim7.holds Tryd.pinned (.plain (OpenSpec.ofChange fnUnderscoresSpec)) fnUnderscoresCard

/-- THE TIED CARD OF 'laws.FnDigit'. -/
def fnDigitCard : Claim7 := { stood := { row := fnDigitRow, standIns := [], harness := (true, "fa4800deba8934b1e441c4ee494b073bf1c9a20c80ed1eab488d2ad51eacdcd5"), looks := true }, kinds := [], alts := [], laidByText := true, laidKinds := [.data, .data, .data, .sentinel, .sentinel], laidTests := true, laidLooks := .later }
def FnDigitCardSaid : Prop := Claim7.holds Tryd.pinned (.plain (OpenSpec.ofChange fnDigitSpec)) fnDigitCard

/-- THE TIED CARD OF 'laws.FnRoundUint'. -/
def fnRoundUintCard : Claim7 := { stood := { row := fnRoundUintRow, standIns := [], harness := (true, "fa4800deba8934b1e441c4ee494b073bf1c9a20c80ed1eab488d2ad51eacdcd5"), looks := true }, kinds := [], alts := [], laidByText := true, laidKinds := [.data, .data, .data, .sentinel, .sentinel], laidTests := true, laidLooks := .later }
def FnRoundUintCardSaid : Prop := Claim7.holds Tryd.pinned (.plain (OpenSpec.ofChange fnRoundUintSpec)) fnRoundUintCard

/-- THE TIED CARD OF 'laws.FnBits'. -/
def fnBitsCard : Claim7 := { stood := { row := fnBitsRow, standIns := [], harness := (true, "fa4800deba8934b1e441c4ee494b073bf1c9a20c80ed1eab488d2ad51eacdcd5"), looks := true }, kinds := [], alts := [], laidByText := true, laidKinds := [.data, .data, .data, .sentinel, .sentinel], laidTests := true, laidLooks := .later }
def FnBitsCardSaid : Prop := Claim7.holds Tryd.pinned (.plain (OpenSpec.ofChange fnBitsSpec)) fnBitsCard

/-- THE TIED CARD OF 'laws.FnParseInt'. -/
def fnParseIntCard : Claim7 := { stood := { row := fnParseIntRow, standIns := [], harness := (true, "fa4800deba8934b1e441c4ee494b073bf1c9a20c80ed1eab488d2ad51eacdcd5"), looks := true }, kinds := [], alts := [], laidByText := true, laidKinds := [.data, .data, .data, .sentinel, .sentinel], laidTests := true, laidLooks := .later }
def FnParseIntCardSaid : Prop := Claim7.holds Tryd.pinned (.plain (OpenSpec.ofChange fnParseIntSpec)) fnParseIntCard

/-- THE TIED CARD OF 'laws.FnCanonical'. -/
def fnCanonicalCard : Claim7 := { stood := { row := fnCanonicalRow, standIns := [], harness := (true, "fa4800deba8934b1e441c4ee494b073bf1c9a20c80ed1eab488d2ad51eacdcd5"), looks := true }, kinds := [], alts := [], laidByText := true, laidKinds := [.data, .data, .data, .sentinel, .sentinel], laidTests := true, laidLooks := .later }
def FnCanonicalCardSaid : Prop := Claim7.holds Tryd.pinned (.plain (OpenSpec.ofChange fnCanonicalSpec)) fnCanonicalCard

/-- THE TIED CARD OF 'laws.FnRoundInt'. -/
def fnRoundIntCard : Claim7 := { stood := { row := fnRoundIntRow, standIns := [], harness := (true, "fa4800deba8934b1e441c4ee494b073bf1c9a20c80ed1eab488d2ad51eacdcd5"), looks := true }, kinds := [], alts := [], laidByText := true, laidKinds := [.data, .data, .data, .sentinel, .sentinel], laidTests := true, laidLooks := .later }
def FnRoundIntCardSaid : Prop := Claim7.holds Tryd.pinned (.plain (OpenSpec.ofChange fnRoundIntSpec)) fnRoundIntCard

/-- THE SECOND FORM's CARD OF 'laws.FnBoolError'. -/
def fnBoolErrorUptoCard : Claim7 := { stood := { row := fnBoolErrorUptoRow, standIns := [], harness := (true, "fa4800deba8934b1e441c4ee494b073bf1c9a20c80ed1eab488d2ad51eacdcd5"), looks := true }, kinds := [], alts := [], laidByText := true, laidKinds := [.data, .data, .data, .sentinel, .sentinel], laidTests := true, laidLooks := .later }
def FnBoolErrorUptoCardSaid : Prop := Claim7.holds Tryd.pinned (.plain (OpenSpec.upto fnBoolErrorSpec)) fnBoolErrorUptoCard

/-- THE SECOND FORM's CARD OF 'laws.FnParseBool'. -/
def fnParseBoolUptoCard : Claim7 := { stood := { row := fnParseBoolUptoRow, standIns := [], harness := (true, "fa4800deba8934b1e441c4ee494b073bf1c9a20c80ed1eab488d2ad51eacdcd5"), looks := true }, kinds := [], alts := [], laidByText := true, laidKinds := [.data, .data, .data, .sentinel, .sentinel], laidTests := true, laidLooks := .later }
def FnParseBoolUptoCardSaid : Prop := Claim7.holds Tryd.pinned (.plain (OpenSpec.upto fnParseBoolSpec)) fnParseBoolUptoCard

/-- THE SECOND FORM's CARD OF 'laws.FnBools'. -/
def fnBoolsUptoCard : Claim7 := { stood := { row := fnBoolsUptoRow, standIns := [], harness := (true, "fa4800deba8934b1e441c4ee494b073bf1c9a20c80ed1eab488d2ad51eacdcd5"), looks := true }, kinds := [], alts := [], laidByText := true, laidKinds := [.data, .data, .data, .sentinel, .sentinel], laidTests := true, laidLooks := .later }
def FnBoolsUptoCardSaid : Prop := Claim7.holds Tryd.pinned (.plain (OpenSpec.upto fnBoolsSpec)) fnBoolsUptoCard

/-- THE SECOND FORM's CARD OF 'laws.FnCapitals'. -/
def fnCapitalsUptoCard : Claim7 := { stood := { row := fnCapitalsUptoRow, standIns := [], harness := (true, "fa4800deba8934b1e441c4ee494b073bf1c9a20c80ed1eab488d2ad51eacdcd5"), looks := true }, kinds := [], alts := [], laidByText := true, laidKinds := [.data, .data, .data, .sentinel, .sentinel], laidTests := true, laidLooks := .later }
def FnCapitalsUptoCardSaid : Prop := Claim7.holds Tryd.pinned (.plain (OpenSpec.upto fnCapitalsSpec)) fnCapitalsUptoCard

/-- THE SECOND FORM's CARD OF 'laws.FnParseUint'. -/
def fnParseUintUptoCard : Claim7 := { stood := { row := fnParseUintUptoRow, standIns := [], harness := (true, "fa4800deba8934b1e441c4ee494b073bf1c9a20c80ed1eab488d2ad51eacdcd5"), looks := true }, kinds := [], alts := [], laidByText := true, laidKinds := [.data, .data, .data, .sentinel, .sentinel], laidTests := true, laidLooks := .later }
def FnParseUintUptoCardSaid : Prop := Claim7.holds Tryd.pinned (.plain (OpenSpec.upto fnParseUintSpec)) fnParseUintUptoCard

/-- THE SECOND FORM's CARD OF 'laws.FnUnderscores'. -/
def fnUnderscoresUptoCard : Claim7 := { stood := { row := fnUnderscoresUptoRow, standIns := [], harness := (true, "fa4800deba8934b1e441c4ee494b073bf1c9a20c80ed1eab488d2ad51eacdcd5"), looks := true }, kinds := [], alts := [], laidByText := true, laidKinds := [.data, .data, .data, .sentinel, .sentinel], laidTests := true, laidLooks := .later }
def FnUnderscoresUptoCardSaid : Prop := Claim7.holds Tryd.pinned (.plain (OpenSpec.upto fnUnderscoresSpec)) fnUnderscoresUptoCard

/-- THE SECOND FORM's CARD OF 'laws.FnDigit'. -/
def fnDigitUptoCard : Claim7 := { stood := { row := fnDigitUptoRow, standIns := [], harness := (true, "fa4800deba8934b1e441c4ee494b073bf1c9a20c80ed1eab488d2ad51eacdcd5"), looks := true }, kinds := [], alts := [], laidByText := true, laidKinds := [.data, .data, .data, .sentinel, .sentinel], laidTests := true, laidLooks := .later }
def FnDigitUptoCardSaid : Prop := Claim7.holds Tryd.pinned (.plain (OpenSpec.upto fnDigitSpec)) fnDigitUptoCard

/-- THE SECOND FORM's CARD OF 'laws.FnRoundUint'. -/
def fnRoundUintUptoCard : Claim7 := { stood := { row := fnRoundUintUptoRow, standIns := [], harness := (true, "fa4800deba8934b1e441c4ee494b073bf1c9a20c80ed1eab488d2ad51eacdcd5"), looks := true }, kinds := [], alts := [], laidByText := true, laidKinds := [.data, .data, .data, .sentinel, .sentinel], laidTests := true, laidLooks := .later }
def FnRoundUintUptoCardSaid : Prop := Claim7.holds Tryd.pinned (.plain (OpenSpec.upto fnRoundUintSpec)) fnRoundUintUptoCard

/-- THE SECOND FORM's CARD OF 'laws.FnBits'. -/
def fnBitsUptoCard : Claim7 := { stood := { row := fnBitsUptoRow, standIns := [], harness := (true, "fa4800deba8934b1e441c4ee494b073bf1c9a20c80ed1eab488d2ad51eacdcd5"), looks := true }, kinds := [], alts := [], laidByText := true, laidKinds := [.data, .data, .data, .sentinel, .sentinel], laidTests := true, laidLooks := .later }
def FnBitsUptoCardSaid : Prop := Claim7.holds Tryd.pinned (.plain (OpenSpec.upto fnBitsSpec)) fnBitsUptoCard

/-- THE SECOND FORM's CARD OF 'laws.FnParseInt'. -/
def fnParseIntUptoCard : Claim7 := { stood := { row := fnParseIntUptoRow, standIns := [], harness := (true, "fa4800deba8934b1e441c4ee494b073bf1c9a20c80ed1eab488d2ad51eacdcd5"), looks := true }, kinds := [], alts := [], laidByText := true, laidKinds := [.data, .data, .data, .sentinel, .sentinel], laidTests := true, laidLooks := .later }
def FnParseIntUptoCardSaid : Prop := Claim7.holds Tryd.pinned (.plain (OpenSpec.upto fnParseIntSpec)) fnParseIntUptoCard

/-- THE SECOND FORM's CARD OF 'laws.FnCanonical'. -/
def fnCanonicalUptoCard : Claim7 := { stood := { row := fnCanonicalUptoRow, standIns := [], harness := (true, "fa4800deba8934b1e441c4ee494b073bf1c9a20c80ed1eab488d2ad51eacdcd5"), looks := true }, kinds := [], alts := [], laidByText := true, laidKinds := [.data, .data, .data, .sentinel, .sentinel], laidTests := true, laidLooks := .later }
def FnCanonicalUptoCardSaid : Prop := Claim7.holds Tryd.pinned (.plain (OpenSpec.upto fnCanonicalSpec)) fnCanonicalUptoCard

/-- THE SECOND FORM's CARD OF 'laws.FnRoundInt'. -/
def fnRoundIntUptoCard : Claim7 := { stood := { row := fnRoundIntUptoRow, standIns := [], harness := (true, "fa4800deba8934b1e441c4ee494b073bf1c9a20c80ed1eab488d2ad51eacdcd5"), looks := true }, kinds := [], alts := [], laidByText := true, laidKinds := [.data, .data, .data, .sentinel, .sentinel], laidTests := true, laidLooks := .later }
def FnRoundIntUptoCardSaid : Prop := Claim7.holds Tryd.pinned (.plain (OpenSpec.upto fnRoundIntSpec)) fnRoundIntUptoCard
end Rows
end Go.Proofs.YtjjocdhgjbhnhaaDoor
