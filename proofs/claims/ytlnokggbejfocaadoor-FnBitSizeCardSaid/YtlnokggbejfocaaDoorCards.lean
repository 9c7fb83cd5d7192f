/-
  DERIVED. GIVEN WITH THE SEED: THE CARDS: each row of YtlnokggbejfocaaDoorRows.lean that lists a variable, with what it lists TIED to the program's text (the seventh form; the later family's looks); each row that meets fmt, with fmt's text TOLD by the authors' own Lean function (tested against real Go, not proved from fmt's source: count such statements apart). THE CARD IS WHAT COUNTS. Prove the row's statement (the work); the ties are given (YtlnokggbejfocaaDoorTie.lean); close each card by the builder's one call (the guide's Derived/Test/ToyasCard.lean, 'card_holds'). Laid BY PROGRAM, IN A SANDBOX (cutbox-door.mjs). By AI agents, Wed Nov 11 2026. No macro, syntax, notation, axiom, sorry.
-/
import Derived.Test.YtlnokggbejfocaaDoorRows
import GoSem.ClaimSeven
namespace Go.Proofs.YtlnokggbejfocaaDoor
namespace Rows

/-- THE TIED CARD OF 'laws.FnBitSize'. -/
def fnBitSizeCard : Claim7 := { stood := { row := fnBitSizeRow, standIns := [], harness := (true, "74f3f30fe8aed0ae45916a26911e6fd80c2d416a78967d8de3925675647eeab4"), looks := true }, kinds := [], alts := [], laidByText := true, laidKinds := [.data, .data, .data, .sentinel, .sentinel], laidTests := true, laidLooks := .later }
def FnBitSizeCardSaid : Prop := Claim7.holds Tryd.pinned (.plain (OpenSpec.ofChange fnBitSizeSpec)) fnBitSizeCard

/-- THE TIED CARD OF 'laws.FnPrefixes'. -/
def fnPrefixesCard : Claim7 := { stood := { row := fnPrefixesRow, standIns := [], harness := (true, "74f3f30fe8aed0ae45916a26911e6fd80c2d416a78967d8de3925675647eeab4"), looks := true }, kinds := [], alts := [], laidByText := true, laidKinds := [.data, .data, .data, .sentinel, .sentinel], laidTests := true, laidLooks := .later }
def FnPrefixesCardSaid : Prop := Claim7.holds Tryd.pinned (.plain (OpenSpec.ofChange fnPrefixesSpec)) fnPrefixesCard

/-- THE TIED CARD OF 'laws.FnRefused'. -/
def fnRefusedCard : Claim7 := { stood := { row := fnRefusedRow, standIns := [], harness := (true, "74f3f30fe8aed0ae45916a26911e6fd80c2d416a78967d8de3925675647eeab4"), looks := true }, kinds := [], alts := [], laidByText := true, laidKinds := [.data, .data, .data, .sentinel, .sentinel], laidTests := true, laidLooks := .later }
def FnRefusedCardSaid : Prop := Claim7.holds Tryd.pinned (.plain (OpenSpec.ofChange fnRefusedSpec)) fnRefusedCard

/-- THE TIED CARD OF 'laws.FnUnsigned'. -/
def fnUnsignedCard : Claim7 := { stood := { row := fnUnsignedRow, standIns := [], harness := (true, "74f3f30fe8aed0ae45916a26911e6fd80c2d416a78967d8de3925675647eeab4"), looks := true }, kinds := [], alts := [], laidByText := true, laidKinds := [.data, .data, .data, .sentinel, .sentinel], laidTests := true, laidLooks := .later }
def FnUnsignedCardSaid : Prop := Claim7.holds Tryd.pinned (.plain (OpenSpec.ofChange fnUnsignedSpec)) fnUnsignedCard

/-- THE TIED CARD OF 'laws.FnZeros'. -/
def fnZerosCard : Claim7 := { stood := { row := fnZerosRow, standIns := [], harness := (true, "74f3f30fe8aed0ae45916a26911e6fd80c2d416a78967d8de3925675647eeab4"), looks := true }, kinds := [], alts := [], laidByText := true, laidKinds := [.data, .data, .data, .sentinel, .sentinel], laidTests := true, laidLooks := .later }
def FnZerosCardSaid : Prop := Claim7.holds Tryd.pinned (.plain (OpenSpec.ofChange fnZerosSpec)) fnZerosCard

/-- THE TIED CARD OF 'laws.FnAtoi'. -/
def fnAtoiCard : Claim7 := { stood := { row := fnAtoiRow, standIns := [], harness := (true, "74f3f30fe8aed0ae45916a26911e6fd80c2d416a78967d8de3925675647eeab4"), looks := true }, kinds := [], alts := [], laidByText := true, laidKinds := [.data, .data, .data, .sentinel, .sentinel], laidTests := true, laidLooks := .later }
def FnAtoiCardSaid : Prop := Claim7.holds Tryd.pinned (.plain (OpenSpec.ofChange fnAtoiSpec)) fnAtoiCard

/-- THE TIED CARD OF 'laws.FnDecimal'. -/
def fnDecimalCard : Claim7 := { stood := { row := fnDecimalRow, standIns := [], harness := (true, "74f3f30fe8aed0ae45916a26911e6fd80c2d416a78967d8de3925675647eeab4"), looks := true }, kinds := [], alts := [], laidByText := true, laidKinds := [.data, .data, .data, .sentinel, .sentinel], laidTests := true, laidLooks := .later }
def FnDecimalCardSaid : Prop := Claim7.holds Tryd.pinned (.plain (OpenSpec.ofChange fnDecimalSpec)) fnDecimalCard

/-- THE SECOND FORM's CARD OF 'laws.FnBitSize'. -/
def fnBitSizeUptoCard : Claim7 := { stood := { row := fnBitSizeUptoRow, standIns := [], harness := (true, "74f3f30fe8aed0ae45916a26911e6fd80c2d416a78967d8de3925675647eeab4"), looks := true }, kinds := [], alts := [], laidByText := true, laidKinds := [.data, .data, .data, .sentinel, .sentinel], laidTests := true, laidLooks := .later }
def FnBitSizeUptoCardSaid : Prop := Claim7.holds Tryd.pinned (.plain (OpenSpec.upto fnBitSizeSpec)) fnBitSizeUptoCard

/-- THE SECOND FORM's CARD OF 'laws.FnPrefixes'. -/
def fnPrefixesUptoCard : Claim7 := { stood := { row := fnPrefixesUptoRow, standIns := [], harness := (true, "74f3f30fe8aed0ae45916a26911e6fd80c2d416a78967d8de3925675647eeab4"), looks := true }, kinds := [], alts := [], laidByText := true, laidKinds := [.data, .data, .data, .sentinel, .sentinel], laidTests := true, laidLooks := .later }
def FnPrefixesUptoCardSaid : Prop := Claim7.holds Tryd.pinned (.plain (OpenSpec.upto fnPrefixesSpec)) fnPrefixesUptoCard

/-- THE SECOND FORM's CARD OF 'laws.FnRefused'. -/
def fnRefusedUptoCard : Claim7 := { stood := { row := fnRefusedUptoRow, standIns := [], harness := (true, "74f3f30fe8aed0ae45916a26911e6fd80c2d416a78967d8de3925675647eeab4"), looks := true }, kinds := [], alts := [], laidByText := true, laidKinds := [.data, .data, .data, .sentinel, .sentinel], laidTests := true, laidLooks := .later }
def FnRefusedUptoCardSaid : Prop := Claim7.holds Tryd.pinned (.plain (OpenSpec.upto fnRefusedSpec)) fnRefusedUptoCard

/-- THE SECOND FORM's CARD OF 'laws.FnUnsigned'. -/
def fnUnsignedUptoCard : Claim7 := { stood := { row := fnUnsignedUptoRow, standIns := [], harness := (true, "74f3f30fe8aed0ae45916a26911e6fd80c2d416a78967d8de3925675647eeab4"), looks := true }, kinds := [], alts := [], laidByText := true, laidKinds := [.data, .data, .data, .sentinel, .sentinel], laidTests := true, laidLooks := .later }
def FnUnsignedUptoCardSaid : Prop := Claim7.holds Tryd.pinned (.plain (OpenSpec.upto fnUnsignedSpec)) fnUnsignedUptoCard

/-- THE SECOND FORM's CARD OF 'laws.FnZeros'. -/
def fnZerosUptoCard : Claim7 := { stood := { row := fnZerosUptoRow, standIns := [], harness := (true, "74f3f30fe8aed0ae45916a26911e6fd80c2d416a78967d8de3925675647eeab4"), looks := true }, kinds := [], alts := [], laidByText := true, laidKinds := [.data, .data, .data, .sentinel, .sentinel], laidTests := true, laidLooks := .later }
def FnZerosUptoCardSaid : Prop := Claim7.holds Tryd.pinned (.plain (OpenSpec.upto fnZerosSpec)) fnZerosUptoCard

/-- THE SECOND FORM's CARD OF 'laws.FnAtoi'. -/
def fnAtoiUptoCard : Claim7 := { stood := { row := fnAtoiUptoRow, standIns := [], harness := (true, "74f3f30fe8aed0ae45916a26911e6fd80c2d416a78967d8de3925675647eeab4"), looks := true }, kinds := [], alts := [], laidByText := true, laidKinds := [.data, .data, .data, .sentinel, .sentinel], laidTests := true, laidLooks := .later }
def FnAtoiUptoCardSaid : Prop := Claim7.holds Tryd.pinned (.plain (OpenSpec.upto fnAtoiSpec)) fnAtoiUptoCard

/-- THE SECOND FORM's CARD OF 'laws.FnDecimal'. -/
def fnDecimalUptoCard : Claim7 := { stood := { row := fnDecimalUptoRow, standIns := [], harness := (true, "74f3f30fe8aed0ae45916a26911e6fd80c2d416a78967d8de3925675647eeab4"), looks := true }, kinds := [], alts := [], laidByText := true, laidKinds := [.data, .data, .data, .sentinel, .sentinel], laidTests := true, laidLooks := .later }
def FnDecimalUptoCardSaid : Prop := Claim7.holds Tryd.pinned (.plain (OpenSpec.upto fnDecimalSpec)) fnDecimalUptoCard
end Rows
end Go.Proofs.YtlnokggbejfocaaDoor
