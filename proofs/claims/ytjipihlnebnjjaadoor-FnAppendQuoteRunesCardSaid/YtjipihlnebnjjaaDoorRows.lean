/-
  NARROWER THAN 'FOR EVERY INPUT', by the rows' own cells (each row's printed sentence says how): FnQuoteRune: laid · FnQuoteRuneToASCII: laid · FnQuoteRuneToGraphic: laid · FnReplaced: laid · FnAppendQuoteRunes: laid · FnQuote: laid · FnQuoteToASCII: laid · FnQuoteToGraphic: laid · FnAppendQuotes: laid · FnErrorText: laid · FnListed: laid · FnOneLine: laid.
  DERIVED. THE GIVEN ROWS OF THIS SEAT. 12 by the template 'for every input the law returns true; each argument reads behind the call as it read before'; 0 by the template 'total and deterministic' (their statements: YtjipihlnebnjjaaDoorTotals.lean).
  GIVEN WITH THE SEED: the statements are not yours to turn. If you find one false, say at which input.
  Laid BY PROGRAM, IN A SANDBOX (cutbox-rows.mjs): the forced cells as the released guide's own fill.sh prints them over the translation a19564ec86c7f5ea… (all of the seat's roots in one cut). By AI agents, Wed Nov 11 2026. No macro, syntax, notation, axiom, sorry.
-/
import Derived.Test.YtjipihlnebnjjaaDoorChecked
import GoSem.PinnedTables
import GoSem.Claim
import GoSem.ClaimJoined
import GoSem.ClaimMapViews
import Derived.JoinedTies
import Derived.KernelRfl
namespace Go.Proofs.YtjipihlnebnjjaaDoor
/- THE CELL 'sum', in the pinned program and in every row, IS THE sha256 OF THE DUMP (.gsa) THAT YtjipihlnebnjjaaDoorProg.lean LOADS. Nothing in Lean hashes anything: it is a label: what it is worth is what the hold of that sum in a sandbox is worth. -/
noncomputable def Tryd.pinned : Pinned := { name := "ytjipihlnebnjjaadoor", sum := "a19564ec86c7f5ea972c4b3721240f71e0ea7addc856b7dcab54227541b00251", checked := Tryd.checked }
namespace Rows
def none {H : Type} : Left H := { results := [], args := [] }

/- WHAT THE LISTED PACKAGE-LEVEL VARIABLES READ AS WHEN THE CALL BEGINS. Each datum BY PROGRAM (the guide's laid-datum.mjs) off the statement by which the dump's own 'gosem.cut.vars' lays the variable. In a bare row this is a premise. The card (YtjipihlnebnjjaaDoorCards.lean) ties it to the program's text. -/
/-- One of Go's own tables, pinned by name: the form's constant. -/
def laid_strconv_isGraphic : DataW Unit := Go.Pinned.isGraphic
/-- One of Go's own tables, pinned by name: the form's constant. -/
def laid_strconv_isNotPrint16 : DataW Unit := Go.Pinned.isNotPrint16
/-- One of Go's own tables, pinned by name: the form's constant. -/
def laid_strconv_isNotPrint32 : DataW Unit := Go.Pinned.isNotPrint32
/-- One of Go's own tables, pinned by name: the form's constant. -/
def laid_strconv_isPrint16 : DataW Unit := Go.Pinned.isPrint16
/-- One of Go's own tables, pinned by name: the form's constant. -/
def laid_strconv_isPrint32 : DataW Unit := Go.Pinned.isPrint32
def laid_unicode_utf8_acceptRanges {H : Type} : DataW H := .agg [.agg [.lit (.int .u8 128), .lit (.int .u8 191)], .agg [.lit (.int .u8 160), .lit (.int .u8 191)], .agg [.lit (.int .u8 128), .lit (.int .u8 159)], .agg [.lit (.int .u8 144), .lit (.int .u8 191)], .agg [.lit (.int .u8 128), .lit (.int .u8 143)], .agg [.lit (.int .u8 0), .lit (.int .u8 0)], .agg [.lit (.int .u8 0), .lit (.int .u8 0)], .agg [.lit (.int .u8 0), .lit (.int .u8 0)], .agg [.lit (.int .u8 0), .lit (.int .u8 0)], .agg [.lit (.int .u8 0), .lit (.int .u8 0)], .agg [.lit (.int .u8 0), .lit (.int .u8 0)], .agg [.lit (.int .u8 0), .lit (.int .u8 0)], .agg [.lit (.int .u8 0), .lit (.int .u8 0)], .agg [.lit (.int .u8 0), .lit (.int .u8 0)], .agg [.lit (.int .u8 0), .lit (.int .u8 0)], .agg [.lit (.int .u8 0), .lit (.int .u8 0)]]
/-- One of Go's own tables, pinned by name: the form's constant. -/
def laid_unicode_utf8_first : DataW Unit := Go.Pinned.utf8First
def laid_strconv_ErrRange {H : Type} : DataW H := .iface "*errors.errorString" (.ptr (.agg [.lit (.string [118, 97, 108, 117, 101, 32, 111, 117, 116, 32, 111, 102, 32, 114, 97, 110, 103, 101])]))
def laid_strconv_ErrSyntax {H : Type} : DataW H := .iface "*errors.errorString" (.ptr (.agg [.lit (.string [105, 110, 118, 97, 108, 105, 100, 32, 115, 121, 110, 116, 97, 120])]))

/-- 'laws.FnQuoteRune': WHATEVER THE INPUT: true; the input reads as it did. -/
def fnQuoteRuneSpec : ChangeSpec := { name := "fnQuoteRune", fn := fun _ => fun
  | [d] => { results := [.lit (.bool true)], args := [d] }
  | _ => none }
def fnQuoteRuneRow : OpenClaim := { program := "ytjipihlnebnjjaadoor", sum := "a19564ec86c7f5ea972c4b3721240f71e0ea7addc856b7dcab54227541b00251", func := "loop.example/lib-g03226/laws.FnQuoteRune", spec := "fnQuoteRune", named := ["strconv.isPrint16", "strconv.isNotPrint16", "strconv.isPrint32", "strconv.isNotPrint32", "strconv.isGraphic"], apart := false, laid := [("strconv.isGraphic", laid_strconv_isGraphic), ("strconv.isNotPrint16", laid_strconv_isNotPrint16), ("strconv.isNotPrint32", laid_strconv_isNotPrint32), ("strconv.isPrint16", laid_strconv_isPrint16), ("strconv.isPrint32", laid_strconv_isPrint32)] }
def FnQuoteRuneSaid : Prop := fnQuoteRuneRow.holds Tryd.pinned (OpenSpec.ofChange fnQuoteRuneSpec)

/-- ITS FALSE NEIGHBOUR: 'it returns false'. Refute it at one input. -/
def fnQuoteRuneWrong : ChangeSpec := { name := "fnQuoteRune", fn := fun _ => fun
  | [d] => { results := [.lit (.bool false)], args := [d] }
  | _ => none }
def FnQuoteRuneWrongFalsely : Prop := fnQuoteRuneRow.holds Tryd.pinned (OpenSpec.ofChange fnQuoteRuneWrong)

/-- 'laws.FnQuoteRuneToASCII': WHATEVER THE INPUT: true; the input reads as it did. -/
def fnQuoteRuneToASCIISpec : ChangeSpec := { name := "fnQuoteRuneToASCII", fn := fun _ => fun
  | [d] => { results := [.lit (.bool true)], args := [d] }
  | _ => none }
def fnQuoteRuneToASCIIRow : OpenClaim := { program := "ytjipihlnebnjjaadoor", sum := "a19564ec86c7f5ea972c4b3721240f71e0ea7addc856b7dcab54227541b00251", func := "loop.example/lib-g03226/laws.FnQuoteRuneToASCII", spec := "fnQuoteRuneToASCII", named := ["strconv.isPrint16", "strconv.isNotPrint16", "strconv.isPrint32", "strconv.isNotPrint32", "strconv.isGraphic"], apart := false, laid := [("strconv.isGraphic", laid_strconv_isGraphic), ("strconv.isNotPrint16", laid_strconv_isNotPrint16), ("strconv.isNotPrint32", laid_strconv_isNotPrint32), ("strconv.isPrint16", laid_strconv_isPrint16), ("strconv.isPrint32", laid_strconv_isPrint32)] }
def FnQuoteRuneToASCIISaid : Prop := fnQuoteRuneToASCIIRow.holds Tryd.pinned (OpenSpec.ofChange fnQuoteRuneToASCIISpec)

/-- ITS FALSE NEIGHBOUR: 'it returns false'. Refute it at one input. -/
def fnQuoteRuneToASCIIWrong : ChangeSpec := { name := "fnQuoteRuneToASCII", fn := fun _ => fun
  | [d] => { results := [.lit (.bool false)], args := [d] }
  | _ => none }
def FnQuoteRuneToASCIIWrongFalsely : Prop := fnQuoteRuneToASCIIRow.holds Tryd.pinned (OpenSpec.ofChange fnQuoteRuneToASCIIWrong)

/-- 'laws.FnQuoteRuneToGraphic': WHATEVER THE INPUT: true; the input reads as it did. -/
def fnQuoteRuneToGraphicSpec : ChangeSpec := { name := "fnQuoteRuneToGraphic", fn := fun _ => fun
  | [d] => { results := [.lit (.bool true)], args := [d] }
  | _ => none }
def fnQuoteRuneToGraphicRow : OpenClaim := { program := "ytjipihlnebnjjaadoor", sum := "a19564ec86c7f5ea972c4b3721240f71e0ea7addc856b7dcab54227541b00251", func := "loop.example/lib-g03226/laws.FnQuoteRuneToGraphic", spec := "fnQuoteRuneToGraphic", named := ["strconv.isPrint16", "strconv.isNotPrint16", "strconv.isPrint32", "strconv.isNotPrint32", "strconv.isGraphic"], apart := false, laid := [("strconv.isGraphic", laid_strconv_isGraphic), ("strconv.isNotPrint16", laid_strconv_isNotPrint16), ("strconv.isNotPrint32", laid_strconv_isNotPrint32), ("strconv.isPrint16", laid_strconv_isPrint16), ("strconv.isPrint32", laid_strconv_isPrint32)] }
def FnQuoteRuneToGraphicSaid : Prop := fnQuoteRuneToGraphicRow.holds Tryd.pinned (OpenSpec.ofChange fnQuoteRuneToGraphicSpec)

/-- ITS FALSE NEIGHBOUR: 'it returns false'. Refute it at one input. -/
def fnQuoteRuneToGraphicWrong : ChangeSpec := { name := "fnQuoteRuneToGraphic", fn := fun _ => fun
  | [d] => { results := [.lit (.bool false)], args := [d] }
  | _ => none }
def FnQuoteRuneToGraphicWrongFalsely : Prop := fnQuoteRuneToGraphicRow.holds Tryd.pinned (OpenSpec.ofChange fnQuoteRuneToGraphicWrong)

/-- 'laws.FnReplaced': WHATEVER THE INPUT: true; the input reads as it did. -/
def fnReplacedSpec : ChangeSpec := { name := "fnReplaced", fn := fun _ => fun
  | [d] => { results := [.lit (.bool true)], args := [d] }
  | _ => none }
def fnReplacedRow : OpenClaim := { program := "ytjipihlnebnjjaadoor", sum := "a19564ec86c7f5ea972c4b3721240f71e0ea7addc856b7dcab54227541b00251", func := "loop.example/lib-g03226/laws.FnReplaced", spec := "fnReplaced", named := ["strconv.isPrint16", "strconv.isNotPrint16", "strconv.isPrint32", "strconv.isNotPrint32", "strconv.isGraphic"], apart := false, laid := [("strconv.isGraphic", laid_strconv_isGraphic), ("strconv.isNotPrint16", laid_strconv_isNotPrint16), ("strconv.isNotPrint32", laid_strconv_isNotPrint32), ("strconv.isPrint16", laid_strconv_isPrint16), ("strconv.isPrint32", laid_strconv_isPrint32)] }
def FnReplacedSaid : Prop := fnReplacedRow.holds Tryd.pinned (OpenSpec.ofChange fnReplacedSpec)

/-- ITS FALSE NEIGHBOUR: 'it returns false'. Refute it at one input. -/
def fnReplacedWrong : ChangeSpec := { name := "fnReplaced", fn := fun _ => fun
  | [d] => { results := [.lit (.bool false)], args := [d] }
  | _ => none }
def FnReplacedWrongFalsely : Prop := fnReplacedRow.holds Tryd.pinned (OpenSpec.ofChange fnReplacedWrong)

/-- 'laws.FnAppendQuoteRunes': WHATEVER THE INPUT: true; the input reads as it did. -/
def fnAppendQuoteRunesSpec : ChangeSpec := { name := "fnAppendQuoteRunes", fn := fun _ => fun
  | [d1, d2] => { results := [.lit (.bool true)], args := [d1, d2] }
  | _ => none }
def fnAppendQuoteRunesRow : OpenClaim := { program := "ytjipihlnebnjjaadoor", sum := "a19564ec86c7f5ea972c4b3721240f71e0ea7addc856b7dcab54227541b00251", func := "loop.example/lib-g03226/laws.FnAppendQuoteRunes", spec := "fnAppendQuoteRunes", named := ["strconv.isPrint16", "strconv.isNotPrint16", "strconv.isPrint32", "strconv.isNotPrint32", "strconv.isGraphic"], apart := false, laid := [("strconv.isGraphic", laid_strconv_isGraphic), ("strconv.isNotPrint16", laid_strconv_isNotPrint16), ("strconv.isNotPrint32", laid_strconv_isNotPrint32), ("strconv.isPrint16", laid_strconv_isPrint16), ("strconv.isPrint32", laid_strconv_isPrint32)] }
def FnAppendQuoteRunesSaid : Prop := fnAppendQuoteRunesRow.holds Tryd.pinned (OpenSpec.ofChange fnAppendQuoteRunesSpec)

/-- ITS FALSE NEIGHBOUR: 'it returns false'. Refute it at one input. -/
def fnAppendQuoteRunesWrong : ChangeSpec := { name := "fnAppendQuoteRunes", fn := fun _ => fun
  | [d1, d2] => { results := [.lit (.bool false)], args := [d1, d2] }
  | _ => none }
def FnAppendQuoteRunesWrongFalsely : Prop := fnAppendQuoteRunesRow.holds Tryd.pinned (OpenSpec.ofChange fnAppendQuoteRunesWrong)

/-- 'laws.FnQuote': WHATEVER THE INPUT: true; the input reads as it did. -/
def fnQuoteSpec : ChangeSpec := { name := "fnQuote", fn := fun _ => fun
  | [d] => { results := [.lit (.bool true)], args := [d] }
  | _ => none }
def fnQuoteRow : OpenClaim := { program := "ytjipihlnebnjjaadoor", sum := "a19564ec86c7f5ea972c4b3721240f71e0ea7addc856b7dcab54227541b00251", func := "loop.example/lib-g03226/laws.FnQuote", spec := "fnQuote", named := ["unicode/utf8.first", "unicode/utf8.acceptRanges", "strconv.isPrint16", "strconv.isNotPrint16", "strconv.isPrint32", "strconv.isNotPrint32", "strconv.isGraphic"], apart := false, laid := [("unicode/utf8.acceptRanges", laid_unicode_utf8_acceptRanges), ("strconv.isGraphic", laid_strconv_isGraphic), ("strconv.isNotPrint16", laid_strconv_isNotPrint16), ("strconv.isNotPrint32", laid_strconv_isNotPrint32), ("strconv.isPrint16", laid_strconv_isPrint16), ("strconv.isPrint32", laid_strconv_isPrint32), ("unicode/utf8.first", laid_unicode_utf8_first)] }
def FnQuoteSaid : Prop := fnQuoteRow.holds Tryd.pinned (OpenSpec.ofChange fnQuoteSpec)

/-- ITS FALSE NEIGHBOUR: 'it returns false'. Refute it at one input. -/
def fnQuoteWrong : ChangeSpec := { name := "fnQuote", fn := fun _ => fun
  | [d] => { results := [.lit (.bool false)], args := [d] }
  | _ => none }
def FnQuoteWrongFalsely : Prop := fnQuoteRow.holds Tryd.pinned (OpenSpec.ofChange fnQuoteWrong)

/-- 'laws.FnQuoteToASCII': WHATEVER THE INPUT: true; the input reads as it did. -/
def fnQuoteToASCIISpec : ChangeSpec := { name := "fnQuoteToASCII", fn := fun _ => fun
  | [d] => { results := [.lit (.bool true)], args := [d] }
  | _ => none }
def fnQuoteToASCIIRow : OpenClaim := { program := "ytjipihlnebnjjaadoor", sum := "a19564ec86c7f5ea972c4b3721240f71e0ea7addc856b7dcab54227541b00251", func := "loop.example/lib-g03226/laws.FnQuoteToASCII", spec := "fnQuoteToASCII", named := ["unicode/utf8.first", "unicode/utf8.acceptRanges", "strconv.isPrint16", "strconv.isNotPrint16", "strconv.isPrint32", "strconv.isNotPrint32", "strconv.isGraphic"], apart := false, laid := [("unicode/utf8.acceptRanges", laid_unicode_utf8_acceptRanges), ("strconv.isGraphic", laid_strconv_isGraphic), ("strconv.isNotPrint16", laid_strconv_isNotPrint16), ("strconv.isNotPrint32", laid_strconv_isNotPrint32), ("strconv.isPrint16", laid_strconv_isPrint16), ("strconv.isPrint32", laid_strconv_isPrint32), ("unicode/utf8.first", laid_unicode_utf8_first)] }
def FnQuoteToASCIISaid : Prop := fnQuoteToASCIIRow.holds Tryd.pinned (OpenSpec.ofChange fnQuoteToASCIISpec)

/-- ITS FALSE NEIGHBOUR: 'it returns false'. Refute it at one input. -/
def fnQuoteToASCIIWrong : ChangeSpec := { name := "fnQuoteToASCII", fn := fun _ => fun
  | [d] => { results := [.lit (.bool false)], args := [d] }
  | _ => none }
def FnQuoteToASCIIWrongFalsely : Prop := fnQuoteToASCIIRow.holds Tryd.pinned (OpenSpec.ofChange fnQuoteToASCIIWrong)

/-- 'laws.FnQuoteToGraphic': WHATEVER THE INPUT: true; the input reads as it did. -/
def fnQuoteToGraphicSpec : ChangeSpec := { name := "fnQuoteToGraphic", fn := fun _ => fun
  | [d] => { results := [.lit (.bool true)], args := [d] }
  | _ => none }
def fnQuoteToGraphicRow : OpenClaim := { program := "ytjipihlnebnjjaadoor", sum := "a19564ec86c7f5ea972c4b3721240f71e0ea7addc856b7dcab54227541b00251", func := "loop.example/lib-g03226/laws.FnQuoteToGraphic", spec := "fnQuoteToGraphic", named := ["unicode/utf8.first", "unicode/utf8.acceptRanges", "strconv.isPrint16", "strconv.isNotPrint16", "strconv.isPrint32", "strconv.isNotPrint32", "strconv.isGraphic"], apart := false, laid := [("unicode/utf8.acceptRanges", laid_unicode_utf8_acceptRanges), ("strconv.isGraphic", laid_strconv_isGraphic), ("strconv.isNotPrint16", laid_strconv_isNotPrint16), ("strconv.isNotPrint32", laid_strconv_isNotPrint32), ("strconv.isPrint16", laid_strconv_isPrint16), ("strconv.isPrint32", laid_strconv_isPrint32), ("unicode/utf8.first", laid_unicode_utf8_first)] }
def FnQuoteToGraphicSaid : Prop := fnQuoteToGraphicRow.holds Tryd.pinned (OpenSpec.ofChange fnQuoteToGraphicSpec)

/-- ITS FALSE NEIGHBOUR: 'it returns false'. Refute it at one input. -/
def fnQuoteToGraphicWrong : ChangeSpec := { name := "fnQuoteToGraphic", fn := fun _ => fun
  | [d] => { results := [.lit (.bool false)], args := [d] }
  | _ => none }
def FnQuoteToGraphicWrongFalsely : Prop := fnQuoteToGraphicRow.holds Tryd.pinned (OpenSpec.ofChange fnQuoteToGraphicWrong)

/-- 'laws.FnAppendQuotes': WHATEVER THE INPUT: true; the input reads as it did. -/
def fnAppendQuotesSpec : ChangeSpec := { name := "fnAppendQuotes", fn := fun _ => fun
  | [d1, d2] => { results := [.lit (.bool true)], args := [d1, d2] }
  | _ => none }
def fnAppendQuotesRow : OpenClaim := { program := "ytjipihlnebnjjaadoor", sum := "a19564ec86c7f5ea972c4b3721240f71e0ea7addc856b7dcab54227541b00251", func := "loop.example/lib-g03226/laws.FnAppendQuotes", spec := "fnAppendQuotes", named := ["strconv.isPrint16", "strconv.isNotPrint16", "strconv.isPrint32", "strconv.isNotPrint32", "strconv.isGraphic", "unicode/utf8.first", "unicode/utf8.acceptRanges"], apart := false, laid := [("unicode/utf8.acceptRanges", laid_unicode_utf8_acceptRanges), ("strconv.isGraphic", laid_strconv_isGraphic), ("strconv.isNotPrint16", laid_strconv_isNotPrint16), ("strconv.isNotPrint32", laid_strconv_isNotPrint32), ("strconv.isPrint16", laid_strconv_isPrint16), ("strconv.isPrint32", laid_strconv_isPrint32), ("unicode/utf8.first", laid_unicode_utf8_first)] }
def FnAppendQuotesSaid : Prop := fnAppendQuotesRow.holds Tryd.pinned (OpenSpec.ofChange fnAppendQuotesSpec)

/-- ITS FALSE NEIGHBOUR: 'it returns false'. Refute it at one input. -/
def fnAppendQuotesWrong : ChangeSpec := { name := "fnAppendQuotes", fn := fun _ => fun
  | [d1, d2] => { results := [.lit (.bool false)], args := [d1, d2] }
  | _ => none }
def FnAppendQuotesWrongFalsely : Prop := fnAppendQuotesRow.holds Tryd.pinned (OpenSpec.ofChange fnAppendQuotesWrong)

/-- 'laws.FnErrorText': WHATEVER THE INPUT: true; the input reads as it did. -/
def fnErrorTextSpec : ChangeSpec := { name := "fnErrorText", fn := fun _ => fun
  | [d1, d2, d3] => { results := [.lit (.bool true)], args := [d1, d2, d3] }
  | _ => none }
def fnErrorTextRow : OpenClaim := { program := "ytjipihlnebnjjaadoor", sum := "a19564ec86c7f5ea972c4b3721240f71e0ea7addc856b7dcab54227541b00251", func := "loop.example/lib-g03226/laws.FnErrorText", spec := "fnErrorText", unfollowed := true, recurses := true, named := ["strconv.ErrRange", "strconv.ErrSyntax", "unicode/utf8.first", "unicode/utf8.acceptRanges", "strconv.isPrint16", "strconv.isNotPrint16", "strconv.isPrint32", "strconv.isNotPrint32", "strconv.isGraphic"], apart := false, laid := [("unicode/utf8.acceptRanges", laid_unicode_utf8_acceptRanges), ("strconv.ErrRange", laid_strconv_ErrRange), ("strconv.ErrSyntax", laid_strconv_ErrSyntax), ("strconv.isGraphic", laid_strconv_isGraphic), ("strconv.isNotPrint16", laid_strconv_isNotPrint16), ("strconv.isNotPrint32", laid_strconv_isNotPrint32), ("strconv.isPrint16", laid_strconv_isPrint16), ("strconv.isPrint32", laid_strconv_isPrint32), ("unicode/utf8.first", laid_unicode_utf8_first)] }
def FnErrorTextSaid : Prop := fnErrorTextRow.holds Tryd.pinned (OpenSpec.ofChange fnErrorTextSpec)

/-- ITS FALSE NEIGHBOUR: 'it returns false'. Refute it at one input. -/
def fnErrorTextWrong : ChangeSpec := { name := "fnErrorText", fn := fun _ => fun
  | [d1, d2, d3] => { results := [.lit (.bool false)], args := [d1, d2, d3] }
  | _ => none }
def FnErrorTextWrongFalsely : Prop := fnErrorTextRow.holds Tryd.pinned (OpenSpec.ofChange fnErrorTextWrong)

/-- 'laws.FnListed': WHATEVER THE INPUT: true; the input reads as it did. -/
def fnListedSpec : ChangeSpec := { name := "fnListed", fn := fun _ => fun
  | [d] => { results := [.lit (.bool true)], args := [d] }
  | _ => none }
def fnListedRow : OpenClaim := { program := "ytjipihlnebnjjaadoor", sum := "a19564ec86c7f5ea972c4b3721240f71e0ea7addc856b7dcab54227541b00251", func := "loop.example/lib-g03226/laws.FnListed", spec := "fnListed", named := ["unicode/utf8.first", "unicode/utf8.acceptRanges", "strconv.isPrint16", "strconv.isNotPrint16", "strconv.isPrint32", "strconv.isNotPrint32", "strconv.isGraphic"], apart := false, laid := [("unicode/utf8.acceptRanges", laid_unicode_utf8_acceptRanges), ("strconv.isGraphic", laid_strconv_isGraphic), ("strconv.isNotPrint16", laid_strconv_isNotPrint16), ("strconv.isNotPrint32", laid_strconv_isNotPrint32), ("strconv.isPrint16", laid_strconv_isPrint16), ("strconv.isPrint32", laid_strconv_isPrint32), ("unicode/utf8.first", laid_unicode_utf8_first)] }
def FnListedSaid : Prop := fnListedRow.holds Tryd.pinned (OpenSpec.ofChange fnListedSpec)

/-- ITS FALSE NEIGHBOUR: 'it returns false'. Refute it at one input. -/
def fnListedWrong : ChangeSpec := { name := "fnListed", fn := fun _ => fun
  | [d] => { results := [.lit (.bool false)], args := [d] }
  | _ => none }
def FnListedWrongFalsely : Prop := fnListedRow.holds Tryd.pinned (OpenSpec.ofChange fnListedWrong)

/-- 'laws.FnOneLine': WHATEVER THE INPUT: true; the input reads as it did. -/
def fnOneLineSpec : ChangeSpec := { name := "fnOneLine", fn := fun _ => fun
  | [d] => { results := [.lit (.bool true)], args := [d] }
  | _ => none }
def fnOneLineRow : OpenClaim := { program := "ytjipihlnebnjjaadoor", sum := "a19564ec86c7f5ea972c4b3721240f71e0ea7addc856b7dcab54227541b00251", func := "loop.example/lib-g03226/laws.FnOneLine", spec := "fnOneLine", named := ["unicode/utf8.first", "unicode/utf8.acceptRanges", "strconv.isPrint16", "strconv.isNotPrint16", "strconv.isPrint32", "strconv.isNotPrint32", "strconv.isGraphic"], apart := false, laid := [("unicode/utf8.acceptRanges", laid_unicode_utf8_acceptRanges), ("strconv.isGraphic", laid_strconv_isGraphic), ("strconv.isNotPrint16", laid_strconv_isNotPrint16), ("strconv.isNotPrint32", laid_strconv_isNotPrint32), ("strconv.isPrint16", laid_strconv_isPrint16), ("strconv.isPrint32", laid_strconv_isPrint32), ("unicode/utf8.first", laid_unicode_utf8_first)] }
def FnOneLineSaid : Prop := fnOneLineRow.holds Tryd.pinned (OpenSpec.ofChange fnOneLineSpec)

/-- ITS FALSE NEIGHBOUR: 'it returns false'. Refute it at one input. -/
def fnOneLineWrong : ChangeSpec := { name := "fnOneLine", fn := fun _ => fun
  | [d] => { results := [.lit (.bool false)], args := [d] }
  | _ => none }
def FnOneLineWrongFalsely : Prop := fnOneLineRow.holds Tryd.pinned (OpenSpec.ofChange fnOneLineWrong)

/- THE SECOND FORM. 'bulk': how many values and letters a reading holds, each counted each time it is reached (what is shared counts as often as it is met; a slice's spare places count too). A statement '..UptoSaid' is the law's where the arguments, and the package variables that the reading takes, are together of bulk at most 1048576: NARROWER than '..Said'. Prove '..Said' where nothing that the law and all that it calls make is longer than what came in: it says more and counts as full. Else prove '..UptoSaid'. A law counts once. -/
mutual
def uptoBulk {H : Type} : DataW H → Nat
  | .lit (.string bytes) => bytes.length + 1
  | .lit _ => 1
  | .nil => 1
  | .ptr d => uptoBulk d + 1
  | .slice elems spare => uptoBulkAll elems + uptoBulkAll spare + 1
  | .agg parts => uptoBulkAll parts + 1
  | .iface _ d => uptoBulk d + 1
  | .map entries => uptoBulkEntries entries + 1
  | .held _ => 1
def uptoBulkAll {H : Type} : List (DataW H) → Nat
  | [] => 0
  | d :: r => uptoBulk d + uptoBulkAll r
def uptoBulkEntries {H : Type} : List (Lit × DataW H) → Nat
  | [] => 0
  | x :: r => uptoBulkEntry x + uptoBulkEntries r
def uptoBulkEntry {H : Type} : Lit × DataW H → Nat
  | (.string bytes, d) => bytes.length + uptoBulk d + 1
  | (_, d) => uptoBulk d + 1
 end
def uptoSmall : (H : Type) → List (DataW H) → Bool := fun _ ds => decide (uptoBulkAll ds ≤ 1048576)
def OpenSpec.upto (s : _root_.Go.ChangeSpec) : _root_.Go.OpenSpec := { _root_.Go.OpenSpec.ofChange s with cond := some uptoSmall }

/-- 'laws.FnQuoteRune', WHERE WHAT IT READS IS OF BULK AT MOST 1048576: true; the input reads as it did. -/
def fnQuoteRuneUptoRow : OpenClaim := { program := "ytjipihlnebnjjaadoor", sum := "a19564ec86c7f5ea972c4b3721240f71e0ea7addc856b7dcab54227541b00251", func := "loop.example/lib-g03226/laws.FnQuoteRune", spec := "fnQuoteRune", named := ["strconv.isPrint16", "strconv.isNotPrint16", "strconv.isPrint32", "strconv.isNotPrint32", "strconv.isGraphic"], apart := false, laid := [("strconv.isGraphic", laid_strconv_isGraphic), ("strconv.isNotPrint16", laid_strconv_isNotPrint16), ("strconv.isNotPrint32", laid_strconv_isNotPrint32), ("strconv.isPrint16", laid_strconv_isPrint16), ("strconv.isPrint32", laid_strconv_isPrint32)], narrowed := true }
def FnQuoteRuneUptoSaid : Prop := fnQuoteRuneUptoRow.holds Tryd.pinned (OpenSpec.upto fnQuoteRuneSpec)

/-- 'laws.FnQuoteRuneToASCII', WHERE WHAT IT READS IS OF BULK AT MOST 1048576: true; the input reads as it did. -/
def fnQuoteRuneToASCIIUptoRow : OpenClaim := { program := "ytjipihlnebnjjaadoor", sum := "a19564ec86c7f5ea972c4b3721240f71e0ea7addc856b7dcab54227541b00251", func := "loop.example/lib-g03226/laws.FnQuoteRuneToASCII", spec := "fnQuoteRuneToASCII", named := ["strconv.isPrint16", "strconv.isNotPrint16", "strconv.isPrint32", "strconv.isNotPrint32", "strconv.isGraphic"], apart := false, laid := [("strconv.isGraphic", laid_strconv_isGraphic), ("strconv.isNotPrint16", laid_strconv_isNotPrint16), ("strconv.isNotPrint32", laid_strconv_isNotPrint32), ("strconv.isPrint16", laid_strconv_isPrint16), ("strconv.isPrint32", laid_strconv_isPrint32)], narrowed := true }
def FnQuoteRuneToASCIIUptoSaid : Prop := fnQuoteRuneToASCIIUptoRow.holds Tryd.pinned (OpenSpec.upto fnQuoteRuneToASCIISpec)

/-- 'laws.FnQuoteRuneToGraphic', WHERE WHAT IT READS IS OF BULK AT MOST 1048576: true; the input reads as it did. -/
def fnQuoteRuneToGraphicUptoRow : OpenClaim := { program := "ytjipihlnebnjjaadoor", sum := "a19564ec86c7f5ea972c4b3721240f71e0ea7addc856b7dcab54227541b00251", func := "loop.example/lib-g03226/laws.FnQuoteRuneToGraphic", spec := "fnQuoteRuneToGraphic", named := ["strconv.isPrint16", "strconv.isNotPrint16", "strconv.isPrint32", "strconv.isNotPrint32", "strconv.isGraphic"], apart := false, laid := [("strconv.isGraphic", laid_strconv_isGraphic), ("strconv.isNotPrint16", laid_strconv_isNotPrint16), ("strconv.isNotPrint32", laid_strconv_isNotPrint32), ("strconv.isPrint16", laid_strconv_isPrint16), ("strconv.isPrint32", laid_strconv_isPrint32)], narrowed := true }
def FnQuoteRuneToGraphicUptoSaid : Prop := fnQuoteRuneToGraphicUptoRow.holds Tryd.pinned (OpenSpec.upto fnQuoteRuneToGraphicSpec)

/-- 'laws.FnReplaced', WHERE WHAT IT READS IS OF BULK AT MOST 1048576: true; the input reads as it did. -/
def fnReplacedUptoRow : OpenClaim := { program := "ytjipihlnebnjjaadoor", sum := "a19564ec86c7f5ea972c4b3721240f71e0ea7addc856b7dcab54227541b00251", func := "loop.example/lib-g03226/laws.FnReplaced", spec := "fnReplaced", named := ["strconv.isPrint16", "strconv.isNotPrint16", "strconv.isPrint32", "strconv.isNotPrint32", "strconv.isGraphic"], apart := false, laid := [("strconv.isGraphic", laid_strconv_isGraphic), ("strconv.isNotPrint16", laid_strconv_isNotPrint16), ("strconv.isNotPrint32", laid_strconv_isNotPrint32), ("strconv.isPrint16", laid_strconv_isPrint16), ("strconv.isPrint32", laid_strconv_isPrint32)], narrowed := true }
def FnReplacedUptoSaid : Prop := fnReplacedUptoRow.holds Tryd.pinned (OpenSpec.upto fnReplacedSpec)

/-- 'laws.FnAppendQuoteRunes', WHERE WHAT IT READS IS OF BULK AT MOST 1048576: true; the input reads as it did. -/
def fnAppendQuoteRunesUptoRow : OpenClaim := { program := "ytjipihlnebnjjaadoor", sum := "a19564ec86c7f5ea972c4b3721240f71e0ea7addc856b7dcab54227541b00251", func := "loop.example/lib-g03226/laws.FnAppendQuoteRunes", spec := "fnAppendQuoteRunes", named := ["strconv.isPrint16", "strconv.isNotPrint16", "strconv.isPrint32", "strconv.isNotPrint32", "strconv.isGraphic"], apart := false, laid := [("strconv.isGraphic", laid_strconv_isGraphic), ("strconv.isNotPrint16", laid_strconv_isNotPrint16), ("strconv.isNotPrint32", laid_strconv_isNotPrint32), ("strconv.isPrint16", laid_strconv_isPrint16), ("strconv.isPrint32", laid_strconv_isPrint32)], narrowed := true }
def FnAppendQuoteRunesUptoSaid : Prop := fnAppendQuoteRunesUptoRow.holds Tryd.pinned (OpenSpec.upto fnAppendQuoteRunesSpec)

/-- 'laws.FnQuote', WHERE WHAT IT READS IS OF BULK AT MOST 1048576: true; the input reads as it did. -/
def fnQuoteUptoRow : OpenClaim := { program := "ytjipihlnebnjjaadoor", sum := "a19564ec86c7f5ea972c4b3721240f71e0ea7addc856b7dcab54227541b00251", func := "loop.example/lib-g03226/laws.FnQuote", spec := "fnQuote", named := ["unicode/utf8.first", "unicode/utf8.acceptRanges", "strconv.isPrint16", "strconv.isNotPrint16", "strconv.isPrint32", "strconv.isNotPrint32", "strconv.isGraphic"], apart := false, laid := [("unicode/utf8.acceptRanges", laid_unicode_utf8_acceptRanges), ("strconv.isGraphic", laid_strconv_isGraphic), ("strconv.isNotPrint16", laid_strconv_isNotPrint16), ("strconv.isNotPrint32", laid_strconv_isNotPrint32), ("strconv.isPrint16", laid_strconv_isPrint16), ("strconv.isPrint32", laid_strconv_isPrint32), ("unicode/utf8.first", laid_unicode_utf8_first)], narrowed := true }
def FnQuoteUptoSaid : Prop := fnQuoteUptoRow.holds Tryd.pinned (OpenSpec.upto fnQuoteSpec)

/-- 'laws.FnQuoteToASCII', WHERE WHAT IT READS IS OF BULK AT MOST 1048576: true; the input reads as it did. -/
def fnQuoteToASCIIUptoRow : OpenClaim := { program := "ytjipihlnebnjjaadoor", sum := "a19564ec86c7f5ea972c4b3721240f71e0ea7addc856b7dcab54227541b00251", func := "loop.example/lib-g03226/laws.FnQuoteToASCII", spec := "fnQuoteToASCII", named := ["unicode/utf8.first", "unicode/utf8.acceptRanges", "strconv.isPrint16", "strconv.isNotPrint16", "strconv.isPrint32", "strconv.isNotPrint32", "strconv.isGraphic"], apart := false, laid := [("unicode/utf8.acceptRanges", laid_unicode_utf8_acceptRanges), ("strconv.isGraphic", laid_strconv_isGraphic), ("strconv.isNotPrint16", laid_strconv_isNotPrint16), ("strconv.isNotPrint32", laid_strconv_isNotPrint32), ("strconv.isPrint16", laid_strconv_isPrint16), ("strconv.isPrint32", laid_strconv_isPrint32), ("unicode/utf8.first", laid_unicode_utf8_first)], narrowed := true }
def FnQuoteToASCIIUptoSaid : Prop := fnQuoteToASCIIUptoRow.holds Tryd.pinned (OpenSpec.upto fnQuoteToASCIISpec)

/-- 'laws.FnQuoteToGraphic', WHERE WHAT IT READS IS OF BULK AT MOST 1048576: true; the input reads as it did. -/
def fnQuoteToGraphicUptoRow : OpenClaim := { program := "ytjipihlnebnjjaadoor", sum := "a19564ec86c7f5ea972c4b3721240f71e0ea7addc856b7dcab54227541b00251", func := "loop.example/lib-g03226/laws.FnQuoteToGraphic", spec := "fnQuoteToGraphic", named := ["unicode/utf8.first", "unicode/utf8.acceptRanges", "strconv.isPrint16", "strconv.isNotPrint16", "strconv.isPrint32", "strconv.isNotPrint32", "strconv.isGraphic"], apart := false, laid := [("unicode/utf8.acceptRanges", laid_unicode_utf8_acceptRanges), ("strconv.isGraphic", laid_strconv_isGraphic), ("strconv.isNotPrint16", laid_strconv_isNotPrint16), ("strconv.isNotPrint32", laid_strconv_isNotPrint32), ("strconv.isPrint16", laid_strconv_isPrint16), ("strconv.isPrint32", laid_strconv_isPrint32), ("unicode/utf8.first", laid_unicode_utf8_first)], narrowed := true }
def FnQuoteToGraphicUptoSaid : Prop := fnQuoteToGraphicUptoRow.holds Tryd.pinned (OpenSpec.upto fnQuoteToGraphicSpec)

/-- 'laws.FnAppendQuotes', WHERE WHAT IT READS IS OF BULK AT MOST 1048576: true; the input reads as it did. -/
def fnAppendQuotesUptoRow : OpenClaim := { program := "ytjipihlnebnjjaadoor", sum := "a19564ec86c7f5ea972c4b3721240f71e0ea7addc856b7dcab54227541b00251", func := "loop.example/lib-g03226/laws.FnAppendQuotes", spec := "fnAppendQuotes", named := ["strconv.isPrint16", "strconv.isNotPrint16", "strconv.isPrint32", "strconv.isNotPrint32", "strconv.isGraphic", "unicode/utf8.first", "unicode/utf8.acceptRanges"], apart := false, laid := [("unicode/utf8.acceptRanges", laid_unicode_utf8_acceptRanges), ("strconv.isGraphic", laid_strconv_isGraphic), ("strconv.isNotPrint16", laid_strconv_isNotPrint16), ("strconv.isNotPrint32", laid_strconv_isNotPrint32), ("strconv.isPrint16", laid_strconv_isPrint16), ("strconv.isPrint32", laid_strconv_isPrint32), ("unicode/utf8.first", laid_unicode_utf8_first)], narrowed := true }
def FnAppendQuotesUptoSaid : Prop := fnAppendQuotesUptoRow.holds Tryd.pinned (OpenSpec.upto fnAppendQuotesSpec)

/-- 'laws.FnErrorText', WHERE WHAT IT READS IS OF BULK AT MOST 1048576: true; the input reads as it did. -/
def fnErrorTextUptoRow : OpenClaim := { program := "ytjipihlnebnjjaadoor", sum := "a19564ec86c7f5ea972c4b3721240f71e0ea7addc856b7dcab54227541b00251", func := "loop.example/lib-g03226/laws.FnErrorText", spec := "fnErrorText", unfollowed := true, recurses := true, named := ["strconv.ErrRange", "strconv.ErrSyntax", "unicode/utf8.first", "unicode/utf8.acceptRanges", "strconv.isPrint16", "strconv.isNotPrint16", "strconv.isPrint32", "strconv.isNotPrint32", "strconv.isGraphic"], apart := false, laid := [("unicode/utf8.acceptRanges", laid_unicode_utf8_acceptRanges), ("strconv.ErrRange", laid_strconv_ErrRange), ("strconv.ErrSyntax", laid_strconv_ErrSyntax), ("strconv.isGraphic", laid_strconv_isGraphic), ("strconv.isNotPrint16", laid_strconv_isNotPrint16), ("strconv.isNotPrint32", laid_strconv_isNotPrint32), ("strconv.isPrint16", laid_strconv_isPrint16), ("strconv.isPrint32", laid_strconv_isPrint32), ("unicode/utf8.first", laid_unicode_utf8_first)], narrowed := true }
def FnErrorTextUptoSaid : Prop := fnErrorTextUptoRow.holds Tryd.pinned (OpenSpec.upto fnErrorTextSpec)

/-- 'laws.FnListed', WHERE WHAT IT READS IS OF BULK AT MOST 1048576: true; the input reads as it did. -/
def fnListedUptoRow : OpenClaim := { program := "ytjipihlnebnjjaadoor", sum := "a19564ec86c7f5ea972c4b3721240f71e0ea7addc856b7dcab54227541b00251", func := "loop.example/lib-g03226/laws.FnListed", spec := "fnListed", named := ["unicode/utf8.first", "unicode/utf8.acceptRanges", "strconv.isPrint16", "strconv.isNotPrint16", "strconv.isPrint32", "strconv.isNotPrint32", "strconv.isGraphic"], apart := false, laid := [("unicode/utf8.acceptRanges", laid_unicode_utf8_acceptRanges), ("strconv.isGraphic", laid_strconv_isGraphic), ("strconv.isNotPrint16", laid_strconv_isNotPrint16), ("strconv.isNotPrint32", laid_strconv_isNotPrint32), ("strconv.isPrint16", laid_strconv_isPrint16), ("strconv.isPrint32", laid_strconv_isPrint32), ("unicode/utf8.first", laid_unicode_utf8_first)], narrowed := true }
def FnListedUptoSaid : Prop := fnListedUptoRow.holds Tryd.pinned (OpenSpec.upto fnListedSpec)

/-- 'laws.FnOneLine', WHERE WHAT IT READS IS OF BULK AT MOST 1048576: true; the input reads as it did. -/
def fnOneLineUptoRow : OpenClaim := { program := "ytjipihlnebnjjaadoor", sum := "a19564ec86c7f5ea972c4b3721240f71e0ea7addc856b7dcab54227541b00251", func := "loop.example/lib-g03226/laws.FnOneLine", spec := "fnOneLine", named := ["unicode/utf8.first", "unicode/utf8.acceptRanges", "strconv.isPrint16", "strconv.isNotPrint16", "strconv.isPrint32", "strconv.isNotPrint32", "strconv.isGraphic"], apart := false, laid := [("unicode/utf8.acceptRanges", laid_unicode_utf8_acceptRanges), ("strconv.isGraphic", laid_strconv_isGraphic), ("strconv.isNotPrint16", laid_strconv_isNotPrint16), ("strconv.isNotPrint32", laid_strconv_isNotPrint32), ("strconv.isPrint16", laid_strconv_isPrint16), ("strconv.isPrint32", laid_strconv_isPrint32), ("unicode/utf8.first", laid_unicode_utf8_first)], narrowed := true }
def FnOneLineUptoSaid : Prop := fnOneLineUptoRow.holds Tryd.pinned (OpenSpec.upto fnOneLineSpec)

end Rows
end Go.Proofs.YtjipihlnebnjjaaDoor
