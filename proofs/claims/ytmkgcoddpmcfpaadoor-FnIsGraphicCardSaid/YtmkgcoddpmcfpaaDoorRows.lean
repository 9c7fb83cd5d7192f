/-
  NARROWER THAN 'FOR EVERY INPUT', by the rows' own cells (each row's printed sentence says how): FnUnwrapped: laid · FnIsPrint: laid · FnIsGraphic: laid.
  DERIVED. THE GIVEN ROWS OF THIS SEAT. 3 by the template 'for every input the law returns true; each argument reads behind the call as it read before'; 0 by the template 'total and deterministic' (their statements: YtmkgcoddpmcfpaaDoorTotals.lean).
  GIVEN WITH THE SEED: the statements are not yours to turn. If you find one false, say at which input.
  Laid BY PROGRAM, IN A SANDBOX (cutbox-rows.mjs): the forced cells as the released guide's own fill.sh prints them over the translation 0f6bbc14a87e1d8d… (all of the seat's roots in one cut). By AI agents, Wed Nov 11 2026. No macro, syntax, notation, axiom, sorry.
-/
import Derived.Test.YtmkgcoddpmcfpaaDoorChecked
import GoSem.PinnedTables
import GoSem.Claim
import GoSem.ClaimJoined
import GoSem.ClaimMapViews
import Derived.JoinedTies
import Derived.KernelRfl
namespace Go.Proofs.YtmkgcoddpmcfpaaDoor
/- THE CELL 'sum', in the pinned program and in every row, IS THE sha256 OF THE DUMP (.gsa) THAT YtmkgcoddpmcfpaaDoorProg.lean LOADS. Nothing in Lean hashes anything: it is a label: what it is worth is what the hold of that sum in a sandbox is worth. -/
noncomputable def Tryd.pinned : Pinned := { name := "ytmkgcoddpmcfpaadoor", sum := "0f6bbc14a87e1d8dd3940228d71a451a7ea515767eee341fb1a1f7a975fabf5f", checked := Tryd.checked }
namespace Rows
def none {H : Type} : Left H := { results := [], args := [] }

/- WHAT THE LISTED PACKAGE-LEVEL VARIABLES READ AS WHEN THE CALL BEGINS. Each datum BY PROGRAM (the guide's laid-datum.mjs) off the statement by which the dump's own 'gosem.cut.vars' lays the variable. In a bare row this is a premise. The card (YtmkgcoddpmcfpaaDoorCards.lean) ties it to the program's text. -/
def laid_strconv_ErrRange {H : Type} : DataW H := .iface "*errors.errorString" (.ptr (.agg [.lit (.string [118, 97, 108, 117, 101, 32, 111, 117, 116, 32, 111, 102, 32, 114, 97, 110, 103, 101])]))
def laid_strconv_ErrSyntax {H : Type} : DataW H := .iface "*errors.errorString" (.ptr (.agg [.lit (.string [105, 110, 118, 97, 108, 105, 100, 32, 115, 121, 110, 116, 97, 120])]))
/-- One of Go's own tables, pinned by name: the form's constant. -/
def laid_strconv_isNotPrint16 : DataW Unit := Go.Pinned.isNotPrint16
/-- One of Go's own tables, pinned by name: the form's constant. -/
def laid_strconv_isNotPrint32 : DataW Unit := Go.Pinned.isNotPrint32
/-- One of Go's own tables, pinned by name: the form's constant. -/
def laid_strconv_isPrint16 : DataW Unit := Go.Pinned.isPrint16
/-- One of Go's own tables, pinned by name: the form's constant. -/
def laid_strconv_isPrint32 : DataW Unit := Go.Pinned.isPrint32
/-- One of Go's own tables, pinned by name: the form's constant. -/
def laid_strconv_isGraphic : DataW Unit := Go.Pinned.isGraphic

/-- 'laws.FnUnwrapped': WHATEVER THE INPUT: true; the input reads as it did. -/
def fnUnwrappedSpec : ChangeSpec := { name := "fnUnwrapped", fn := fun _ => fun
  | [d1, d2, d3] => { results := [.lit (.bool true)], args := [d1, d2, d3] }
  | _ => none }
def fnUnwrappedRow : OpenClaim := { program := "ytmkgcoddpmcfpaadoor", sum := "0f6bbc14a87e1d8dd3940228d71a451a7ea515767eee341fb1a1f7a975fabf5f", func := "loop.example/lib-g03226/laws.FnUnwrapped", spec := "fnUnwrapped", named := ["strconv.ErrRange", "strconv.ErrSyntax"], apart := false, laid := [("strconv.ErrRange", laid_strconv_ErrRange), ("strconv.ErrSyntax", laid_strconv_ErrSyntax)] }
def FnUnwrappedSaid : Prop := fnUnwrappedRow.holds Tryd.pinned (OpenSpec.ofChange fnUnwrappedSpec)

/-- ITS FALSE NEIGHBOUR: 'it returns false'. Refute it at one input. -/
def fnUnwrappedWrong : ChangeSpec := { name := "fnUnwrapped", fn := fun _ => fun
  | [d1, d2, d3] => { results := [.lit (.bool false)], args := [d1, d2, d3] }
  | _ => none }
def FnUnwrappedWrongFalsely : Prop := fnUnwrappedRow.holds Tryd.pinned (OpenSpec.ofChange fnUnwrappedWrong)

/-- 'laws.FnIsPrint': WHATEVER THE INPUT: true; the input reads as it did. -/
def fnIsPrintSpec : ChangeSpec := { name := "fnIsPrint", fn := fun _ => fun
  | [d] => { results := [.lit (.bool true)], args := [d] }
  | _ => none }
def fnIsPrintRow : OpenClaim := { program := "ytmkgcoddpmcfpaadoor", sum := "0f6bbc14a87e1d8dd3940228d71a451a7ea515767eee341fb1a1f7a975fabf5f", func := "loop.example/lib-g03226/laws.FnIsPrint", spec := "fnIsPrint", named := ["strconv.isPrint16", "strconv.isNotPrint16", "strconv.isPrint32", "strconv.isNotPrint32"], apart := false, laid := [("strconv.isNotPrint16", laid_strconv_isNotPrint16), ("strconv.isNotPrint32", laid_strconv_isNotPrint32), ("strconv.isPrint16", laid_strconv_isPrint16), ("strconv.isPrint32", laid_strconv_isPrint32)] }
def FnIsPrintSaid : Prop := fnIsPrintRow.holds Tryd.pinned (OpenSpec.ofChange fnIsPrintSpec)

/-- ITS FALSE NEIGHBOUR: 'it returns false'. Refute it at one input. -/
def fnIsPrintWrong : ChangeSpec := { name := "fnIsPrint", fn := fun _ => fun
  | [d] => { results := [.lit (.bool false)], args := [d] }
  | _ => none }
def FnIsPrintWrongFalsely : Prop := fnIsPrintRow.holds Tryd.pinned (OpenSpec.ofChange fnIsPrintWrong)

/-- 'laws.FnIsGraphic': WHATEVER THE INPUT: true; the input reads as it did. -/
def fnIsGraphicSpec : ChangeSpec := { name := "fnIsGraphic", fn := fun _ => fun
  | [d] => { results := [.lit (.bool true)], args := [d] }
  | _ => none }
def fnIsGraphicRow : OpenClaim := { program := "ytmkgcoddpmcfpaadoor", sum := "0f6bbc14a87e1d8dd3940228d71a451a7ea515767eee341fb1a1f7a975fabf5f", func := "loop.example/lib-g03226/laws.FnIsGraphic", spec := "fnIsGraphic", named := ["strconv.isPrint16", "strconv.isNotPrint16", "strconv.isPrint32", "strconv.isNotPrint32", "strconv.isGraphic"], apart := false, laid := [("strconv.isGraphic", laid_strconv_isGraphic), ("strconv.isNotPrint16", laid_strconv_isNotPrint16), ("strconv.isNotPrint32", laid_strconv_isNotPrint32), ("strconv.isPrint16", laid_strconv_isPrint16), ("strconv.isPrint32", laid_strconv_isPrint32)] }
def FnIsGraphicSaid : Prop := fnIsGraphicRow.holds Tryd.pinned (OpenSpec.ofChange fnIsGraphicSpec)

/-- ITS FALSE NEIGHBOUR: 'it returns false'. Refute it at one input. -/
def fnIsGraphicWrong : ChangeSpec := { name := "fnIsGraphic", fn := fun _ => fun
  | [d] => { results := [.lit (.bool false)], args := [d] }
  | _ => none }
def FnIsGraphicWrongFalsely : Prop := fnIsGraphicRow.holds Tryd.pinned (OpenSpec.ofChange fnIsGraphicWrong)

/- THE SECOND FORM. 'bulk': how many values and letters a reading holds, each counted each time it is reached (what is shared counts as often as it is met; a slice's spare places count too). A statement '..UptoSaid' is the law's where the arguments, and the package variables that the reading takes, are together of bulk at most 1048576: NARROWER than '..Said'. Prove '..Said' where nothing that the law and all that it calls make is longer than what came in: it says more and counts as full. Else prove '..UptoSaid'. A law counts once. -/
mutual
def uptoBulk {H : Type} : DataW H → Nat
  | .lit (.string bytes) => bytes.length + 1
  | .lit _ => 1
  | .nil => 1
  | .ptr d => uptoBulk d + 1
  | .slice elems spare => uptoBulkAll elems + uptoBulkAll spare + 1
  | .agg parts => uptoBulkAll parts + 1
  | .iface _ d => uptoBulk d + 1
  | .map entries => uptoBulkEntries entries + 1
  | .held _ => 1
def uptoBulkAll {H : Type} : List (DataW H) → Nat
  | [] => 0
  | d :: r => uptoBulk d + uptoBulkAll r
def uptoBulkEntries {H : Type} : List (Lit × DataW H) → Nat
  | [] => 0
  | x :: r => uptoBulkEntry x + uptoBulkEntries r
def uptoBulkEntry {H : Type} : Lit × DataW H → Nat
  | (.string bytes, d) => bytes.length + uptoBulk d + 1
  | (_, d) => uptoBulk d + 1
 end
def uptoSmall : (H : Type) → List (DataW H) → Bool := fun _ ds => decide (uptoBulkAll ds ≤ 1048576)
def OpenSpec.upto (s : _root_.Go.ChangeSpec) : _root_.Go.OpenSpec := { _root_.Go.OpenSpec.ofChange s with cond := some uptoSmall }

/-- 'laws.FnUnwrapped', WHERE WHAT IT READS IS OF BULK AT MOST 1048576: true; the input reads as it did. -/
def fnUnwrappedUptoRow : OpenClaim := { program := "ytmkgcoddpmcfpaadoor", sum := "0f6bbc14a87e1d8dd3940228d71a451a7ea515767eee341fb1a1f7a975fabf5f", func := "loop.example/lib-g03226/laws.FnUnwrapped", spec := "fnUnwrapped", named := ["strconv.ErrRange", "strconv.ErrSyntax"], apart := false, laid := [("strconv.ErrRange", laid_strconv_ErrRange), ("strconv.ErrSyntax", laid_strconv_ErrSyntax)], narrowed := true }
def FnUnwrappedUptoSaid : Prop := fnUnwrappedUptoRow.holds Tryd.pinned (OpenSpec.upto fnUnwrappedSpec)

/-- 'laws.FnIsPrint', WHERE WHAT IT READS IS OF BULK AT MOST 1048576: true; the input reads as it did. -/
def fnIsPrintUptoRow : OpenClaim := { program := "ytmkgcoddpmcfpaadoor", sum := "0f6bbc14a87e1d8dd3940228d71a451a7ea515767eee341fb1a1f7a975fabf5f", func := "loop.example/lib-g03226/laws.FnIsPrint", spec := "fnIsPrint", named := ["strconv.isPrint16", "strconv.isNotPrint16", "strconv.isPrint32", "strconv.isNotPrint32"], apart := false, laid := [("strconv.isNotPrint16", laid_strconv_isNotPrint16), ("strconv.isNotPrint32", laid_strconv_isNotPrint32), ("strconv.isPrint16", laid_strconv_isPrint16), ("strconv.isPrint32", laid_strconv_isPrint32)], narrowed := true }
def FnIsPrintUptoSaid : Prop := fnIsPrintUptoRow.holds Tryd.pinned (OpenSpec.upto fnIsPrintSpec)

/-- 'laws.FnIsGraphic', WHERE WHAT IT READS IS OF BULK AT MOST 1048576: true; the input reads as it did. -/
def fnIsGraphicUptoRow : OpenClaim := { program := "ytmkgcoddpmcfpaadoor", sum := "0f6bbc14a87e1d8dd3940228d71a451a7ea515767eee341fb1a1f7a975fabf5f", func := "loop.example/lib-g03226/laws.FnIsGraphic", spec := "fnIsGraphic", named := ["strconv.isPrint16", "strconv.isNotPrint16", "strconv.isPrint32", "strconv.isNotPrint32", "strconv.isGraphic"], apart := false, laid := [("strconv.isGraphic", laid_strconv_isGraphic), ("strconv.isNotPrint16", laid_strconv_isNotPrint16), ("strconv.isNotPrint32", laid_strconv_isNotPrint32), ("strconv.isPrint16", laid_strconv_isPrint16), ("strconv.isPrint32", laid_strconv_isPrint32)], narrowed := true }
def FnIsGraphicUptoSaid : Prop := fnIsGraphicUptoRow.holds Tryd.pinned (OpenSpec.upto fnIsGraphicSpec)

end Rows
end Go.Proofs.YtmkgcoddpmcfpaaDoor
