/-
  DERIVED. GIVEN WITH THE SEED: THE CARDS: each row of YtmkgcoddpmcfpaaDoorRows.lean that lists a variable, with what it lists TIED to the program's text (the seventh form; the later family's looks); each row that meets fmt, with fmt's text TOLD by the authors' own Lean function (tested against real Go, not proved from fmt's source: count such statements apart). THE CARD IS WHAT COUNTS. Prove the row's statement (the work); the ties are given (YtmkgcoddpmcfpaaDoorTie.lean); close each card by the builder's one call (the guide's Derived/Test/ToyasCard.lean, 'card_holds'). Laid BY PROGRAM, IN A SANDBOX (cutbox-door.mjs). By AI agents, Wed Nov 11 2026. No macro, syntax, notation, axiom, sorry.
-/
import Derived.Test.YtmkgcoddpmcfpaaDoorRows
import GoSem.ClaimSeven
namespace Go.Proofs.YtmkgcoddpmcfpaaDoor
namespace Rows

/-- THE TIED CARD OF 'laws.FnUnwrapped'. -/
def fnUnwrappedCard : Claim7 := { stood := { row := fnUnwrappedRow, standIns := [], harness := (true, "89752b81c850224cf34035cba0adcd2bcf80f3e32dfc0c9609de7387cd148832"), looks := true }, kinds := [], alts := [], laidByText := true, laidKinds := [.sentinel, .sentinel], laidTests := true, laidLooks := .later }
def FnUnwrappedCardSaid : Prop := Claim7.holds Tryd.pinned (.plain (OpenSpec.ofChange fnUnwrappedSpec)) fnUnwrappedCard

/-- THE TIED CARD OF 'laws.FnIsPrint'. -/
def fnIsPrintCard : Claim7 := { stood := { row := fnIsPrintRow, standIns := [], harness := (true, "89752b81c850224cf34035cba0adcd2bcf80f3e32dfc0c9609de7387cd148832"), looks := true }, kinds := [], alts := [], laidByText := true, laidKinds := [.pinned, .pinned, .pinned, .pinned], laidTests := true, laidLooks := .later }
def FnIsPrintCardSaid : Prop := Claim7.holds Tryd.pinned (.plain (OpenSpec.ofChange fnIsPrintSpec)) fnIsPrintCard

/-- THE TIED CARD OF 'laws.FnIsGraphic'. -/
def fnIsGraphicCard : Claim7 := { stood := { row := fnIsGraphicRow, standIns := [], harness := (true, "89752b81c850224cf34035cba0adcd2bcf80f3e32dfc0c9609de7387cd148832"), looks := true }, kinds := [], alts := [], laidByText := true, laidKinds := [.pinned, .pinned, .pinned, .pinned, .pinned], laidTests := true, laidLooks := .later }
def FnIsGraphicCardSaid : Prop := Claim7.holds Tryd.pinned (.plain (OpenSpec.ofChange fnIsGraphicSpec)) fnIsGraphicCard

/-- THE SECOND FORM's CARD OF 'laws.FnUnwrapped'. -/
def fnUnwrappedUptoCard : Claim7 := { stood := { row := fnUnwrappedUptoRow, standIns := [], harness := (true, "89752b81c850224cf34035cba0adcd2bcf80f3e32dfc0c9609de7387cd148832"), looks := true }, kinds := [], alts := [], laidByText := true, laidKinds := [.sentinel, .sentinel], laidTests := true, laidLooks := .later }
def FnUnwrappedUptoCardSaid : Prop := Claim7.holds Tryd.pinned (.plain (OpenSpec.upto fnUnwrappedSpec)) fnUnwrappedUptoCard

/-- THE SECOND FORM's CARD OF 'laws.FnIsPrint'. -/
def fnIsPrintUptoCard : Claim7 := { stood := { row := fnIsPrintUptoRow, standIns := [], harness := (true, "89752b81c850224cf34035cba0adcd2bcf80f3e32dfc0c9609de7387cd148832"), looks := true }, kinds := [], alts := [], laidByText := true, laidKinds := [.pinned, .pinned, .pinned, .pinned], laidTests := true, laidLooks := .later }
def FnIsPrintUptoCardSaid : Prop := Claim7.holds Tryd.pinned (.plain (OpenSpec.upto fnIsPrintSpec)) fnIsPrintUptoCard

/-- THE SECOND FORM's CARD OF 'laws.FnIsGraphic'. -/
def fnIsGraphicUptoCard : Claim7 := { stood := { row := fnIsGraphicUptoRow, standIns := [], harness := (true, "89752b81c850224cf34035cba0adcd2bcf80f3e32dfc0c9609de7387cd148832"), looks := true }, kinds := [], alts := [], laidByText := true, laidKinds := [.pinned, .pinned, .pinned, .pinned, .pinned], laidTests := true, laidLooks := .later }
def FnIsGraphicUptoCardSaid : Prop := Claim7.holds Tryd.pinned (.plain (OpenSpec.upto fnIsGraphicSpec)) fnIsGraphicUptoCard
end Rows
end Go.Proofs.YtmkgcoddpmcfpaaDoor
