/-
  DERIVED. GIVEN WITH THE SEED: THE CARDS: each row of YtgdaneaigeddbaaDoorRows.lean that lists a variable, with what it lists TIED to the program's text (the seventh form; the later family's looks); each row that meets fmt, with fmt's text TOLD by the authors' own Lean function (tested against real Go, not proved from fmt's source: count such statements apart). THE CARD IS WHAT COUNTS. Prove the row's statement (the work); the ties are given (YtgdaneaigeddbaaDoorTie.lean); close each card by the builder's one call (the guide's Derived/Test/ToyasCard.lean, 'card_holds'). Laid BY PROGRAM, IN A SANDBOX (cutbox-door.mjs). By AI agents, Wed Nov 11 2026. No macro, syntax, notation, axiom, sorry.
-/
import Derived.Test.YtgdaneaigeddbaaDoorRows
import GoSem.ClaimSeven
namespace Go.Proofs.YtgdaneaigeddbaaDoor
namespace Rows

/-- THE TIED CARD OF 'laws.FnBases'. -/
def fnBasesCard : Claim7 := { stood := { row := fnBasesRow, standIns := [], harness := (true, "ea865de2e85aa56fccde355996317db3decafd26062c298c6b26529e0f0b4053"), looks := false }, kinds := [], alts := [], laidByText := true, laidKinds := [.data, .data, .data], laidTests := true, laidLooks := .later }
def FnBasesCardSaid : Prop := Claim7.holds Tryd.pinned (.plain (OpenSpec.ofChange fnBasesSpec)) fnBasesCard

/-- THE TIED CARD OF 'laws.FnFormatUint'. -/
def fnFormatUintCard : Claim7 := { stood := { row := fnFormatUintRow, standIns := [], harness := (true, "ea865de2e85aa56fccde355996317db3decafd26062c298c6b26529e0f0b4053"), looks := false }, kinds := [], alts := [], laidByText := true, laidKinds := [.data, .data, .data], laidTests := true, laidLooks := .later }
def FnFormatUintCardSaid : Prop := Claim7.holds Tryd.pinned (.plain (OpenSpec.ofChange fnFormatUintSpec)) fnFormatUintCard

/-- THE TIED CARD OF 'laws.FnOrder'. -/
def fnOrderCard : Claim7 := { stood := { row := fnOrderRow, standIns := [], harness := (true, "ea865de2e85aa56fccde355996317db3decafd26062c298c6b26529e0f0b4053"), looks := false }, kinds := [], alts := [], laidByText := true, laidKinds := [.data, .data, .data], laidTests := true, laidLooks := .later }
def FnOrderCardSaid : Prop := Claim7.holds Tryd.pinned (.plain (OpenSpec.ofChange fnOrderSpec)) fnOrderCard

/-- THE TIED CARD OF 'laws.FnAppendUint'. -/
def fnAppendUintCard : Claim7 := { stood := { row := fnAppendUintRow, standIns := [], harness := (true, "ea865de2e85aa56fccde355996317db3decafd26062c298c6b26529e0f0b4053"), looks := false }, kinds := [], alts := [], laidByText := true, laidKinds := [.data, .data, .data], laidTests := true, laidLooks := .later }
def FnAppendUintCardSaid : Prop := Claim7.holds Tryd.pinned (.plain (OpenSpec.ofChange fnAppendUintSpec)) fnAppendUintCard

/-- THE TIED CARD OF 'laws.FnFormatInt'. -/
def fnFormatIntCard : Claim7 := { stood := { row := fnFormatIntRow, standIns := [], harness := (true, "ea865de2e85aa56fccde355996317db3decafd26062c298c6b26529e0f0b4053"), looks := false }, kinds := [], alts := [], laidByText := true, laidKinds := [.data, .data, .data], laidTests := true, laidLooks := .later }
def FnFormatIntCardSaid : Prop := Claim7.holds Tryd.pinned (.plain (OpenSpec.ofChange fnFormatIntSpec)) fnFormatIntCard

/-- THE TIED CARD OF 'laws.FnItoa'. -/
def fnItoaCard : Claim7 := { stood := { row := fnItoaRow, standIns := [], harness := (true, "ea865de2e85aa56fccde355996317db3decafd26062c298c6b26529e0f0b4053"), looks := false }, kinds := [], alts := [], laidByText := true, laidKinds := [.data, .data, .data], laidTests := true, laidLooks := .later }
def FnItoaCardSaid : Prop := Claim7.holds Tryd.pinned (.plain (OpenSpec.ofChange fnItoaSpec)) fnItoaCard

/-- THE TIED CARD OF 'laws.FnAppendInt'. -/
def fnAppendIntCard : Claim7 := { stood := { row := fnAppendIntRow, standIns := [], harness := (true, "ea865de2e85aa56fccde355996317db3decafd26062c298c6b26529e0f0b4053"), looks := false }, kinds := [], alts := [], laidByText := true, laidKinds := [.data, .data, .data], laidTests := true, laidLooks := .later }
def FnAppendIntCardSaid : Prop := Claim7.holds Tryd.pinned (.plain (OpenSpec.ofChange fnAppendIntSpec)) fnAppendIntCard

/-- THE SECOND FORM's CARD OF 'laws.FnBases'. -/
def fnBasesUptoCard : Claim7 := { stood := { row := fnBasesUptoRow, standIns := [], harness := (true, "ea865de2e85aa56fccde355996317db3decafd26062c298c6b26529e0f0b4053"), looks := false }, kinds := [], alts := [], laidByText := true, laidKinds := [.data, .data, .data], laidTests := true, laidLooks := .later }
def FnBasesUptoCardSaid : Prop := Claim7.holds Tryd.pinned (.plain (OpenSpec.upto fnBasesSpec)) fnBasesUptoCard

/-- THE SECOND FORM's CARD OF 'laws.FnFormatUint'. -/
def fnFormatUintUptoCard : Claim7 := { stood := { row := fnFormatUintUptoRow, standIns := [], harness := (true, "ea865de2e85aa56fccde355996317db3decafd26062c298c6b26529e0f0b4053"), looks := false }, kinds := [], alts := [], laidByText := true, laidKinds := [.data, .data, .data], laidTests := true, laidLooks := .later }
def FnFormatUintUptoCardSaid : Prop := Claim7.holds Tryd.pinned (.plain (OpenSpec.upto fnFormatUintSpec)) fnFormatUintUptoCard

/-- THE SECOND FORM's CARD OF 'laws.FnOrder'. -/
def fnOrderUptoCard : Claim7 := { stood := { row := fnOrderUptoRow, standIns := [], harness := (true, "ea865de2e85aa56fccde355996317db3decafd26062c298c6b26529e0f0b4053"), looks := false }, kinds := [], alts := [], laidByText := true, laidKinds := [.data, .data, .data], laidTests := true, laidLooks := .later }
def FnOrderUptoCardSaid : Prop := Claim7.holds Tryd.pinned (.plain (OpenSpec.upto fnOrderSpec)) fnOrderUptoCard

/-- THE SECOND FORM's CARD OF 'laws.FnAppendUint'. -/
def fnAppendUintUptoCard : Claim7 := { stood := { row := fnAppendUintUptoRow, standIns := [], harness := (true, "ea865de2e85aa56fccde355996317db3decafd26062c298c6b26529e0f0b4053"), looks := false }, kinds := [], alts := [], laidByText := true, laidKinds := [.data, .data, .data], laidTests := true, laidLooks := .later }
def FnAppendUintUptoCardSaid : Prop := Claim7.holds Tryd.pinned (.plain (OpenSpec.upto fnAppendUintSpec)) fnAppendUintUptoCard

/-- THE SECOND FORM's CARD OF 'laws.FnFormatInt'. -/
def fnFormatIntUptoCard : Claim7 := { stood := { row := fnFormatIntUptoRow, standIns := [], harness := (true, "ea865de2e85aa56fccde355996317db3decafd26062c298c6b26529e0f0b4053"), looks := false }, kinds := [], alts := [], laidByText := true, laidKinds := [.data, .data, .data], laidTests := true, laidLooks := .later }
def FnFormatIntUptoCardSaid : Prop := Claim7.holds Tryd.pinned (.plain (OpenSpec.upto fnFormatIntSpec)) fnFormatIntUptoCard

/-- THE SECOND FORM's CARD OF 'laws.FnItoa'. -/
def fnItoaUptoCard : Claim7 := { stood := { row := fnItoaUptoRow, standIns := [], harness := (true, "ea865de2e85aa56fccde355996317db3decafd26062c298c6b26529e0f0b4053"), looks := false }, kinds := [], alts := [], laidByText := true, laidKinds := [.data, .data, .data], laidTests := true, laidLooks := .later }
def FnItoaUptoCardSaid : Prop := Claim7.holds Tryd.pinned (.plain (OpenSpec.upto fnItoaSpec)) fnItoaUptoCard

/-- THE SECOND FORM's CARD OF 'laws.FnAppendInt'. -/
def fnAppendIntUptoCard : Claim7 := { stood := { row := fnAppendIntUptoRow, standIns := [], harness := (true, "ea865de2e85aa56fccde355996317db3decafd26062c298c6b26529e0f0b4053"), looks := false }, kinds := [], alts := [], laidByText := true, laidKinds := [.data, .data, .data], laidTests := true, laidLooks := .later }
def FnAppendIntUptoCardSaid : Prop := Claim7.holds Tryd.pinned (.plain (OpenSpec.upto fnAppendIntSpec)) fnAppendIntUptoCard
end Rows
end Go.Proofs.YtgdaneaigeddbaaDoor
