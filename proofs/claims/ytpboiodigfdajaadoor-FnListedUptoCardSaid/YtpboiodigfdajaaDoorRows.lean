/-
  NARROWER THAN 'FOR EVERY INPUT', by the rows' own cells (each row's printed sentence says how): FnQuote: laid · FnQuoteToASCII: laid · FnQuoteToGraphic: laid · FnAppendQuotes: laid · FnErrorText: laid · FnListed: laid · FnOneLine: laid · FnPlain: laid · FnQuoteApart: laid · FnQuoteLength: laid · FnQuoteParts: laid · FnQuoteOne: laid.
  DERIVED. THE GIVEN ROWS OF THIS SEAT. 12 by the template 'for every input the law returns true; each argument reads behind the call as it read before'; 0 by the template 'total and deterministic' (their statements: YtpboiodigfdajaaDoorTotals.lean).
  GIVEN WITH THE SEED: the statements are not yours to turn. If you find one false, say at which input.
  Laid BY PROGRAM, IN A SANDBOX (cutbox-rows.mjs): the forced cells as the released guide's own fill.sh prints them over the translation 6368e11853065d32… (all of the seat's roots in one cut). By AI agents, Wed Nov 11 2026. No macro, syntax, notation, axiom, sorry.
-/
import Derived.Test.YtpboiodigfdajaaDoorChecked
import GoSem.PinnedTables
import GoSem.Claim
import GoSem.ClaimJoined
import GoSem.ClaimMapViews
import Derived.JoinedTies
import Derived.KernelRfl
namespace Go.Proofs.YtpboiodigfdajaaDoor
/- THE CELL 'sum', in the pinned program and in every row, IS THE sha256 OF THE DUMP (.gsa) THAT YtpboiodigfdajaaDoorProg.lean LOADS. Nothing in Lean hashes anything: it is a label: what it is worth is what the hold of that sum in a sandbox is worth. -/
noncomputable def Tryd.pinned : Pinned := { name := "ytpboiodigfdajaadoor", sum := "6368e11853065d32f89223fef7bba069b7e915d7dd5f4db4822accbd32747d74", checked := Tryd.checked }
namespace Rows
def none {H : Type} : Left H := { results := [], args := [] }

/- WHAT THE LISTED PACKAGE-LEVEL VARIABLES READ AS WHEN THE CALL BEGINS. Each datum BY PROGRAM (the guide's laid-datum.mjs) off the statement by which the dump's own 'gosem.cut.vars' lays the variable. In a bare row this is a premise. The card (YtpboiodigfdajaaDoorCards.lean) ties it to the program's text. -/
def laid_unicode_utf8_acceptRanges {H : Type} : DataW H := .agg [.agg [.lit (.int .u8 128), .lit (.int .u8 191)], .agg [.lit (.int .u8 160), .lit (.int .u8 191)], .agg [.lit (.int .u8 128), .lit (.int .u8 159)], .agg [.lit (.int .u8 144), .lit (.int .u8 191)], .agg [.lit (.int .u8 128), .lit (.int .u8 143)], .agg [.lit (.int .u8 0), .lit (.int .u8 0)], .agg [.lit (.int .u8 0), .lit (.int .u8 0)], .agg [.lit (.int .u8 0), .lit (.int .u8 0)], .agg [.lit (.int .u8 0), .lit (.int .u8 0)], .agg [.lit (.int .u8 0), .lit (.int .u8 0)], .agg [.lit (.int .u8 0), .lit (.int .u8 0)], .agg [.lit (.int .u8 0), .lit (.int .u8 0)], .agg [.lit (.int .u8 0), .lit (.int .u8 0)], .agg [.lit (.int .u8 0), .lit (.int .u8 0)], .agg [.lit (.int .u8 0), .lit (.int .u8 0)], .agg [.lit (.int .u8 0), .lit (.int .u8 0)]]
/-- One of Go's own tables, pinned by name: the form's constant. -/
def laid_strconv_isGraphic : DataW Unit := Go.Pinned.isGraphic
/-- One of Go's own tables, pinned by name: the form's constant. -/
def laid_strconv_isNotPrint16 : DataW Unit := Go.Pinned.isNotPrint16
/-- One of Go's own tables, pinned by name: the form's constant. -/
def laid_strconv_isNotPrint32 : DataW Unit := Go.Pinned.isNotPrint32
/-- One of Go's own tables, pinned by name: the form's constant. -/
def laid_strconv_isPrint16 : DataW Unit := Go.Pinned.isPrint16
/-- One of Go's own tables, pinned by name: the form's constant. -/
def laid_strconv_isPrint32 : DataW Unit := Go.Pinned.isPrint32
/-- One of Go's own tables, pinned by name: the form's constant. -/
def laid_unicode_utf8_first : DataW Unit := Go.Pinned.utf8First
def laid_strconv_ErrRange {H : Type} : DataW H := .iface "*errors.errorString" (.ptr (.agg [.lit (.string [118, 97, 108, 117, 101, 32, 111, 117, 116, 32, 111, 102, 32, 114, 97, 110, 103, 101])]))
def laid_strconv_ErrSyntax {H : Type} : DataW H := .iface "*errors.errorString" (.ptr (.agg [.lit (.string [105, 110, 118, 97, 108, 105, 100, 32, 115, 121, 110, 116, 97, 120])]))

/-- 'laws.FnQuote': WHATEVER THE INPUT: true; the input reads as it did. -/
def fnQuoteSpec : ChangeSpec := { name := "fnQuote", fn := fun _ => fun
  | [d] => { results := [.lit (.bool true)], args := [d] }
  | _ => none }
def fnQuoteRow : OpenClaim := { program := "ytpboiodigfdajaadoor", sum := "6368e11853065d32f89223fef7bba069b7e915d7dd5f4db4822accbd32747d74", func := "loop.example/lib-g03226/laws.FnQuote", spec := "fnQuote", named := ["unicode/utf8.first", "unicode/utf8.acceptRanges", "strconv.isPrint16", "strconv.isNotPrint16", "strconv.isPrint32", "strconv.isNotPrint32", "strconv.isGraphic"], apart := false, laid := [("unicode/utf8.acceptRanges", laid_unicode_utf8_acceptRanges), ("strconv.isGraphic", laid_strconv_isGraphic), ("strconv.isNotPrint16", laid_strconv_isNotPrint16), ("strconv.isNotPrint32", laid_strconv_isNotPrint32), ("strconv.isPrint16", laid_strconv_isPrint16), ("strconv.isPrint32", laid_strconv_isPrint32), ("unicode/utf8.first", laid_unicode_utf8_first)] }
def FnQuoteSaid : Prop := fnQuoteRow.holds Tryd.pinned (OpenSpec.ofChange fnQuoteSpec)

/-- ITS FALSE NEIGHBOUR: 'it returns false'. Refute it at one input. -/
def fnQuoteWrong : ChangeSpec := { name := "fnQuote", fn := fun _ => fun
  | [d] => { results := [.lit (.bool false)], args := [d] }
  | _ => none }
def FnQuoteWrongFalsely : Prop := fnQuoteRow.holds Tryd.pinned (OpenSpec.ofChange fnQuoteWrong)

/-- 'laws.FnQuoteToASCII': WHATEVER THE INPUT: true; the input reads as it did. -/
def fnQuoteToASCIISpec : ChangeSpec := { name := "fnQuoteToASCII", fn := fun _ => fun
  | [d] => { results := [.lit (.bool true)], args := [d] }
  | _ => none }
def fnQuoteToASCIIRow : OpenClaim := { program := "ytpboiodigfdajaadoor", sum := "6368e11853065d32f89223fef7bba069b7e915d7dd5f4db4822accbd32747d74", func := "loop.example/lib-g03226/laws.FnQuoteToASCII", spec := "fnQuoteToASCII", named := ["unicode/utf8.first", "unicode/utf8.acceptRanges", "strconv.isPrint16", "strconv.isNotPrint16", "strconv.isPrint32", "strconv.isNotPrint32", "strconv.isGraphic"], apart := false, laid := [("unicode/utf8.acceptRanges", laid_unicode_utf8_acceptRanges), ("strconv.isGraphic", laid_strconv_isGraphic), ("strconv.isNotPrint16", laid_strconv_isNotPrint16), ("strconv.isNotPrint32", laid_strconv_isNotPrint32), ("strconv.isPrint16", laid_strconv_isPrint16), ("strconv.isPrint32", laid_strconv_isPrint32), ("unicode/utf8.first", laid_unicode_utf8_first)] }
def FnQuoteToASCIISaid : Prop := fnQuoteToASCIIRow.holds Tryd.pinned (OpenSpec.ofChange fnQuoteToASCIISpec)

/-- ITS FALSE NEIGHBOUR: 'it returns false'. Refute it at one input. -/
def fnQuoteToASCIIWrong : ChangeSpec := { name := "fnQuoteToASCII", fn := fun _ => fun
  | [d] => { results := [.lit (.bool false)], args := [d] }
  | _ => none }
def FnQuoteToASCIIWrongFalsely : Prop := fnQuoteToASCIIRow.holds Tryd.pinned (OpenSpec.ofChange fnQuoteToASCIIWrong)

/-- 'laws.FnQuoteToGraphic': WHATEVER THE INPUT: true; the input reads as it did. -/
def fnQuoteToGraphicSpec : ChangeSpec := { name := "fnQuoteToGraphic", fn := fun _ => fun
  | [d] => { results := [.lit (.bool true)], args := [d] }
  | _ => none }
def fnQuoteToGraphicRow : OpenClaim := { program := "ytpboiodigfdajaadoor", sum := "6368e11853065d32f89223fef7bba069b7e915d7dd5f4db4822accbd32747d74", func := "loop.example/lib-g03226/laws.FnQuoteToGraphic", spec := "fnQuoteToGraphic", named := ["unicode/utf8.first", "unicode/utf8.acceptRanges", "strconv.isPrint16", "strconv.isNotPrint16", "strconv.isPrint32", "strconv.isNotPrint32", "strconv.isGraphic"], apart := false, laid := [("unicode/utf8.acceptRanges", laid_unicode_utf8_acceptRanges), ("strconv.isGraphic", laid_strconv_isGraphic), ("strconv.isNotPrint16", laid_strconv_isNotPrint16), ("strconv.isNotPrint32", laid_strconv_isNotPrint32), ("strconv.isPrint16", laid_strconv_isPrint16), ("strconv.isPrint32", laid_strconv_isPrint32), ("unicode/utf8.first", laid_unicode_utf8_first)] }
def FnQuoteToGraphicSaid : Prop := fnQuoteToGraphicRow.holds Tryd.pinned (OpenSpec.ofChange fnQuoteToGraphicSpec)

/-- ITS FALSE NEIGHBOUR: 'it returns false'. Refute it at one input. -/
def fnQuoteToGraphicWrong : ChangeSpec := { name := "fnQuoteToGraphic", fn := fun _ => fun
  | [d] => { results := [.lit (.bool false)], args := [d] }
  | _ => none }
def FnQuoteToGraphicWrongFalsely : Prop := fnQuoteToGraphicRow.holds Tryd.pinned (OpenSpec.ofChange fnQuoteToGraphicWrong)

/-- 'laws.FnAppendQuotes': WHATEVER THE INPUT: true; the input reads as it did. -/
def fnAppendQuotesSpec : ChangeSpec := { name := "fnAppendQuotes", fn := fun _ => fun
  | [d1, d2] => { results := [.lit (.bool true)], args := [d1, d2] }
  | _ => none }
def fnAppendQuotesRow : OpenClaim := { program := "ytpboiodigfdajaadoor", sum := "6368e11853065d32f89223fef7bba069b7e915d7dd5f4db4822accbd32747d74", func := "loop.example/lib-g03226/laws.FnAppendQuotes", spec := "fnAppendQuotes", named := ["strconv.isPrint16", "strconv.isNotPrint16", "strconv.isPrint32", "strconv.isNotPrint32", "strconv.isGraphic", "unicode/utf8.first", "unicode/utf8.acceptRanges"], apart := false, laid := [("unicode/utf8.acceptRanges", laid_unicode_utf8_acceptRanges), ("strconv.isGraphic", laid_strconv_isGraphic), ("strconv.isNotPrint16", laid_strconv_isNotPrint16), ("strconv.isNotPrint32", laid_strconv_isNotPrint32), ("strconv.isPrint16", laid_strconv_isPrint16), ("strconv.isPrint32", laid_strconv_isPrint32), ("unicode/utf8.first", laid_unicode_utf8_first)] }
def FnAppendQuotesSaid : Prop := fnAppendQuotesRow.holds Tryd.pinned (OpenSpec.ofChange fnAppendQuotesSpec)

/-- ITS FALSE NEIGHBOUR: 'it returns false'. Refute it at one input. -/
def fnAppendQuotesWrong : ChangeSpec := { name := "fnAppendQuotes", fn := fun _ => fun
  | [d1, d2] => { results := [.lit (.bool false)], args := [d1, d2] }
  | _ => none }
def FnAppendQuotesWrongFalsely : Prop := fnAppendQuotesRow.holds Tryd.pinned (OpenSpec.ofChange fnAppendQuotesWrong)

/-- 'laws.FnErrorText': WHATEVER THE INPUT: true; the input reads as it did. -/
def fnErrorTextSpec : ChangeSpec := { name := "fnErrorText", fn := fun _ => fun
  | [d1, d2, d3] => { results := [.lit (.bool true)], args := [d1, d2, d3] }
  | _ => none }
def fnErrorTextRow : OpenClaim := { program := "ytpboiodigfdajaadoor", sum := "6368e11853065d32f89223fef7bba069b7e915d7dd5f4db4822accbd32747d74", func := "loop.example/lib-g03226/laws.FnErrorText", spec := "fnErrorText", unfollowed := true, recurses := true, named := ["strconv.ErrRange", "strconv.ErrSyntax", "unicode/utf8.first", "unicode/utf8.acceptRanges", "strconv.isPrint16", "strconv.isNotPrint16", "strconv.isPrint32", "strconv.isNotPrint32", "strconv.isGraphic"], apart := false, laid := [("unicode/utf8.acceptRanges", laid_unicode_utf8_acceptRanges), ("strconv.ErrRange", laid_strconv_ErrRange), ("strconv.ErrSyntax", laid_strconv_ErrSyntax), ("strconv.isGraphic", laid_strconv_isGraphic), ("strconv.isNotPrint16", laid_strconv_isNotPrint16), ("strconv.isNotPrint32", laid_strconv_isNotPrint32), ("strconv.isPrint16", laid_strconv_isPrint16), ("strconv.isPrint32", laid_strconv_isPrint32), ("unicode/utf8.first", laid_unicode_utf8_first)] }
def FnErrorTextSaid : Prop := fnErrorTextRow.holds Tryd.pinned (OpenSpec.ofChange fnErrorTextSpec)

/-- ITS FALSE NEIGHBOUR: 'it returns false'. Refute it at one input. -/
def fnErrorTextWrong : ChangeSpec := { name := "fnErrorText", fn := fun _ => fun
  | [d1, d2, d3] => { results := [.lit (.bool false)], args := [d1, d2, d3] }
  | _ => none }
def FnErrorTextWrongFalsely : Prop := fnErrorTextRow.holds Tryd.pinned (OpenSpec.ofChange fnErrorTextWrong)

/-- 'laws.FnListed': WHATEVER THE INPUT: true; the input reads as it did. -/
def fnListedSpec : ChangeSpec := { name := "fnListed", fn := fun _ => fun
  | [d] => { results := [.lit (.bool true)], args := [d] }
  | _ => none }
def fnListedRow : OpenClaim := { program := "ytpboiodigfdajaadoor", sum := "6368e11853065d32f89223fef7bba069b7e915d7dd5f4db4822accbd32747d74", func := "loop.example/lib-g03226/laws.FnListed", spec := "fnListed", named := ["unicode/utf8.first", "unicode/utf8.acceptRanges", "strconv.isPrint16", "strconv.isNotPrint16", "strconv.isPrint32", "strconv.isNotPrint32", "strconv.isGraphic"], apart := false, laid := [("unicode/utf8.acceptRanges", laid_unicode_utf8_acceptRanges), ("strconv.isGraphic", laid_strconv_isGraphic), ("strconv.isNotPrint16", laid_strconv_isNotPrint16), ("strconv.isNotPrint32", laid_strconv_isNotPrint32), ("strconv.isPrint16", laid_strconv_isPrint16), ("strconv.isPrint32", laid_strconv_isPrint32), ("unicode/utf8.first", laid_unicode_utf8_first)] }
def FnListedSaid : Prop := fnListedRow.holds Tryd.pinned (OpenSpec.ofChange fnListedSpec)

/-- ITS FALSE NEIGHBOUR: 'it returns false'. Refute it at one input. -/
def fnListedWrong : ChangeSpec := { name := "fnListed", fn := fun _ => fun
  | [d] => { results := [.lit (.bool false)], args := [d] }
  | _ => none }
def FnListedWrongFalsely : Prop := fnListedRow.holds Tryd.pinned (OpenSpec.ofChange fnListedWrong)

/-- 'laws.FnOneLine': WHATEVER THE INPUT: true; the input reads as it did. -/
def fnOneLineSpec : ChangeSpec := { name := "fnOneLine", fn := fun _ => fun
  | [d] => { results := [.lit (.bool true)], args := [d] }
  | _ => none }
def fnOneLineRow : OpenClaim := { program := "ytpboiodigfdajaadoor", sum := "6368e11853065d32f89223fef7bba069b7e915d7dd5f4db4822accbd32747d74", func := "loop.example/lib-g03226/laws.FnOneLine", spec := "fnOneLine", named := ["unicode/utf8.first", "unicode/utf8.acceptRanges", "strconv.isPrint16", "strconv.isNotPrint16", "strconv.isPrint32", "strconv.isNotPrint32", "strconv.isGraphic"], apart := false, laid := [("unicode/utf8.acceptRanges", laid_unicode_utf8_acceptRanges), ("strconv.isGraphic", laid_strconv_isGraphic), ("strconv.isNotPrint16", laid_strconv_isNotPrint16), ("strconv.isNotPrint32", laid_strconv_isNotPrint32), ("strconv.isPrint16", laid_strconv_isPrint16), ("strconv.isPrint32", laid_strconv_isPrint32), ("unicode/utf8.first", laid_unicode_utf8_first)] }
def FnOneLineSaid : Prop := fnOneLineRow.holds Tryd.pinned (OpenSpec.ofChange fnOneLineSpec)

/-- ITS FALSE NEIGHBOUR: 'it returns false'. Refute it at one input. -/
def fnOneLineWrong : ChangeSpec := { name := "fnOneLine", fn := fun _ => fun
  | [d] => { results := [.lit (.bool false)], args := [d] }
  | _ => none }
def FnOneLineWrongFalsely : Prop := fnOneLineRow.holds Tryd.pinned (OpenSpec.ofChange fnOneLineWrong)

/-- 'laws.FnPlain': WHATEVER THE INPUT: true; the input reads as it did. -/
def fnPlainSpec : ChangeSpec := { name := "fnPlain", fn := fun _ => fun
  | [d] => { results := [.lit (.bool true)], args := [d] }
  | _ => none }
def fnPlainRow : OpenClaim := { program := "ytpboiodigfdajaadoor", sum := "6368e11853065d32f89223fef7bba069b7e915d7dd5f4db4822accbd32747d74", func := "loop.example/lib-g03226/laws.FnPlain", spec := "fnPlain", named := ["unicode/utf8.first", "unicode/utf8.acceptRanges", "strconv.isPrint16", "strconv.isNotPrint16", "strconv.isPrint32", "strconv.isNotPrint32", "strconv.isGraphic"], apart := false, laid := [("unicode/utf8.acceptRanges", laid_unicode_utf8_acceptRanges), ("strconv.isGraphic", laid_strconv_isGraphic), ("strconv.isNotPrint16", laid_strconv_isNotPrint16), ("strconv.isNotPrint32", laid_strconv_isNotPrint32), ("strconv.isPrint16", laid_strconv_isPrint16), ("strconv.isPrint32", laid_strconv_isPrint32), ("unicode/utf8.first", laid_unicode_utf8_first)] }
def FnPlainSaid : Prop := fnPlainRow.holds Tryd.pinned (OpenSpec.ofChange fnPlainSpec)

/-- ITS FALSE NEIGHBOUR: 'it returns false'. Refute it at one input. -/
def fnPlainWrong : ChangeSpec := { name := "fnPlain", fn := fun _ => fun
  | [d] => { results := [.lit (.bool false)], args := [d] }
  | _ => none }
def FnPlainWrongFalsely : Prop := fnPlainRow.holds Tryd.pinned (OpenSpec.ofChange fnPlainWrong)

/-- 'laws.FnQuoteApart': WHATEVER THE INPUT: true; the input reads as it did. -/
def fnQuoteApartSpec : ChangeSpec := { name := "fnQuoteApart", fn := fun _ => fun
  | [d1, d2] => { results := [.lit (.bool true)], args := [d1, d2] }
  | _ => none }
def fnQuoteApartRow : OpenClaim := { program := "ytpboiodigfdajaadoor", sum := "6368e11853065d32f89223fef7bba069b7e915d7dd5f4db4822accbd32747d74", func := "loop.example/lib-g03226/laws.FnQuoteApart", spec := "fnQuoteApart", named := ["unicode/utf8.first", "unicode/utf8.acceptRanges", "strconv.isPrint16", "strconv.isNotPrint16", "strconv.isPrint32", "strconv.isNotPrint32", "strconv.isGraphic"], apart := false, laid := [("unicode/utf8.acceptRanges", laid_unicode_utf8_acceptRanges), ("strconv.isGraphic", laid_strconv_isGraphic), ("strconv.isNotPrint16", laid_strconv_isNotPrint16), ("strconv.isNotPrint32", laid_strconv_isNotPrint32), ("strconv.isPrint16", laid_strconv_isPrint16), ("strconv.isPrint32", laid_strconv_isPrint32), ("unicode/utf8.first", laid_unicode_utf8_first)] }
def FnQuoteApartSaid : Prop := fnQuoteApartRow.holds Tryd.pinned (OpenSpec.ofChange fnQuoteApartSpec)

/-- ITS FALSE NEIGHBOUR: 'it returns false'. Refute it at one input. -/
def fnQuoteApartWrong : ChangeSpec := { name := "fnQuoteApart", fn := fun _ => fun
  | [d1, d2] => { results := [.lit (.bool false)], args := [d1, d2] }
  | _ => none }
def FnQuoteApartWrongFalsely : Prop := fnQuoteApartRow.holds Tryd.pinned (OpenSpec.ofChange fnQuoteApartWrong)

/-- 'laws.FnQuoteLength': WHATEVER THE INPUT: true; the input reads as it did. -/
def fnQuoteLengthSpec : ChangeSpec := { name := "fnQuoteLength", fn := fun _ => fun
  | [d] => { results := [.lit (.bool true)], args := [d] }
  | _ => none }
def fnQuoteLengthRow : OpenClaim := { program := "ytpboiodigfdajaadoor", sum := "6368e11853065d32f89223fef7bba069b7e915d7dd5f4db4822accbd32747d74", func := "loop.example/lib-g03226/laws.FnQuoteLength", spec := "fnQuoteLength", named := ["unicode/utf8.first", "unicode/utf8.acceptRanges", "strconv.isPrint16", "strconv.isNotPrint16", "strconv.isPrint32", "strconv.isNotPrint32", "strconv.isGraphic"], apart := false, laid := [("unicode/utf8.acceptRanges", laid_unicode_utf8_acceptRanges), ("strconv.isGraphic", laid_strconv_isGraphic), ("strconv.isNotPrint16", laid_strconv_isNotPrint16), ("strconv.isNotPrint32", laid_strconv_isNotPrint32), ("strconv.isPrint16", laid_strconv_isPrint16), ("strconv.isPrint32", laid_strconv_isPrint32), ("unicode/utf8.first", laid_unicode_utf8_first)] }
def FnQuoteLengthSaid : Prop := fnQuoteLengthRow.holds Tryd.pinned (OpenSpec.ofChange fnQuoteLengthSpec)

/-- ITS FALSE NEIGHBOUR: 'it returns false'. Refute it at one input. -/
def fnQuoteLengthWrong : ChangeSpec := { name := "fnQuoteLength", fn := fun _ => fun
  | [d] => { results := [.lit (.bool false)], args := [d] }
  | _ => none }
def FnQuoteLengthWrongFalsely : Prop := fnQuoteLengthRow.holds Tryd.pinned (OpenSpec.ofChange fnQuoteLengthWrong)

/-- 'laws.FnQuoteParts': WHATEVER THE INPUT: true; the input reads as it did. -/
def fnQuotePartsSpec : ChangeSpec := { name := "fnQuoteParts", fn := fun _ => fun
  | [d1, d2] => { results := [.lit (.bool true)], args := [d1, d2] }
  | _ => none }
def fnQuotePartsRow : OpenClaim := { program := "ytpboiodigfdajaadoor", sum := "6368e11853065d32f89223fef7bba069b7e915d7dd5f4db4822accbd32747d74", func := "loop.example/lib-g03226/laws.FnQuoteParts", spec := "fnQuoteParts", named := ["unicode/utf8.first", "unicode/utf8.acceptRanges", "strconv.isPrint16", "strconv.isNotPrint16", "strconv.isPrint32", "strconv.isNotPrint32", "strconv.isGraphic"], apart := false, laid := [("unicode/utf8.acceptRanges", laid_unicode_utf8_acceptRanges), ("strconv.isGraphic", laid_strconv_isGraphic), ("strconv.isNotPrint16", laid_strconv_isNotPrint16), ("strconv.isNotPrint32", laid_strconv_isNotPrint32), ("strconv.isPrint16", laid_strconv_isPrint16), ("strconv.isPrint32", laid_strconv_isPrint32), ("unicode/utf8.first", laid_unicode_utf8_first)] }
def FnQuotePartsSaid : Prop := fnQuotePartsRow.holds Tryd.pinned (OpenSpec.ofChange fnQuotePartsSpec)

/-- ITS FALSE NEIGHBOUR: 'it returns false'. Refute it at one input. -/
def fnQuotePartsWrong : ChangeSpec := { name := "fnQuoteParts", fn := fun _ => fun
  | [d1, d2] => { results := [.lit (.bool false)], args := [d1, d2] }
  | _ => none }
def FnQuotePartsWrongFalsely : Prop := fnQuotePartsRow.holds Tryd.pinned (OpenSpec.ofChange fnQuotePartsWrong)

/-- 'laws.FnQuoteOne': WHATEVER THE INPUT: true; the input reads as it did. -/
def fnQuoteOneSpec : ChangeSpec := { name := "fnQuoteOne", fn := fun _ => fun
  | [d] => { results := [.lit (.bool true)], args := [d] }
  | _ => none }
def fnQuoteOneRow : OpenClaim := { program := "ytpboiodigfdajaadoor", sum := "6368e11853065d32f89223fef7bba069b7e915d7dd5f4db4822accbd32747d74", func := "loop.example/lib-g03226/laws.FnQuoteOne", spec := "fnQuoteOne", named := ["strconv.isPrint16", "strconv.isNotPrint16", "strconv.isPrint32", "strconv.isNotPrint32", "strconv.isGraphic", "unicode/utf8.first", "unicode/utf8.acceptRanges"], apart := false, laid := [("unicode/utf8.acceptRanges", laid_unicode_utf8_acceptRanges), ("strconv.isGraphic", laid_strconv_isGraphic), ("strconv.isNotPrint16", laid_strconv_isNotPrint16), ("strconv.isNotPrint32", laid_strconv_isNotPrint32), ("strconv.isPrint16", laid_strconv_isPrint16), ("strconv.isPrint32", laid_strconv_isPrint32), ("unicode/utf8.first", laid_unicode_utf8_first)] }
def FnQuoteOneSaid : Prop := fnQuoteOneRow.holds Tryd.pinned (OpenSpec.ofChange fnQuoteOneSpec)

/-- ITS FALSE NEIGHBOUR: 'it returns false'. Refute it at one input. -/
def fnQuoteOneWrong : ChangeSpec := { name := "fnQuoteOne", fn := fun _ => fun
  | [d] => { results := [.lit (.bool false)], args := [d] }
  | _ => none }
def FnQuoteOneWrongFalsely : Prop := fnQuoteOneRow.holds Tryd.pinned (OpenSpec.ofChange fnQuoteOneWrong)

/- THE SECOND FORM. 'bulk': how many values and letters a reading holds, each counted each time it is reached (what is shared counts as often as it is met; a slice's spare places count too). A statement '..UptoSaid' is the law's where the arguments, and the package variables that the reading takes, are together of bulk at most 1048576: NARROWER than '..Said'. Prove '..Said' where nothing that the law and all that it calls make is longer than what came in: it says more and counts as full. Else prove '..UptoSaid'. A law counts once. -/
mutual
def uptoBulk {H : Type} : DataW H → Nat
  | .lit (.string bytes) => bytes.length + 1
  | .lit _ => 1
  | .nil => 1
  | .ptr d => uptoBulk d + 1
  | .slice elems spare => uptoBulkAll elems + uptoBulkAll spare + 1
  | .agg parts => uptoBulkAll parts + 1
  | .iface _ d => uptoBulk d + 1
  | .map entries => uptoBulkEntries entries + 1
  | .held _ => 1
def uptoBulkAll {H : Type} : List (DataW H) → Nat
  | [] => 0
  | d :: r => uptoBulk d + uptoBulkAll r
def uptoBulkEntries {H : Type} : List (Lit × DataW H) → Nat
  | [] => 0
  | x :: r => uptoBulkEntry x + uptoBulkEntries r
def uptoBulkEntry {H : Type} : Lit × DataW H → Nat
  | (.string bytes, d) => bytes.length + uptoBulk d + 1
  | (_, d) => uptoBulk d + 1
 end
def uptoSmall : (H : Type) → List (DataW H) → Bool := fun _ ds => decide (uptoBulkAll ds ≤ 1048576)
def OpenSpec.upto (s : _root_.Go.ChangeSpec) : _root_.Go.OpenSpec := { _root_.Go.OpenSpec.ofChange s with cond := some uptoSmall }

/-- 'laws.FnQuote', WHERE WHAT IT READS IS OF BULK AT MOST 1048576: true; the input reads as it did. -/
def fnQuoteUptoRow : OpenClaim := { program := "ytpboiodigfdajaadoor", sum := "6368e11853065d32f89223fef7bba069b7e915d7dd5f4db4822accbd32747d74", func := "loop.example/lib-g03226/laws.FnQuote", spec := "fnQuote", named := ["unicode/utf8.first", "unicode/utf8.acceptRanges", "strconv.isPrint16", "strconv.isNotPrint16", "strconv.isPrint32", "strconv.isNotPrint32", "strconv.isGraphic"], apart := false, laid := [("unicode/utf8.acceptRanges", laid_unicode_utf8_acceptRanges), ("strconv.isGraphic", laid_strconv_isGraphic), ("strconv.isNotPrint16", laid_strconv_isNotPrint16), ("strconv.isNotPrint32", laid_strconv_isNotPrint32), ("strconv.isPrint16", laid_strconv_isPrint16), ("strconv.isPrint32", laid_strconv_isPrint32), ("unicode/utf8.first", laid_unicode_utf8_first)], narrowed := true }
def FnQuoteUptoSaid : Prop := fnQuoteUptoRow.holds Tryd.pinned (OpenSpec.upto fnQuoteSpec)

/-- 'laws.FnQuoteToASCII', WHERE WHAT IT READS IS OF BULK AT MOST 1048576: true; the input reads as it did. -/
def fnQuoteToASCIIUptoRow : OpenClaim := { program := "ytpboiodigfdajaadoor", sum := "6368e11853065d32f89223fef7bba069b7e915d7dd5f4db4822accbd32747d74", func := "loop.example/lib-g03226/laws.FnQuoteToASCII", spec := "fnQuoteToASCII", named := ["unicode/utf8.first", "unicode/utf8.acceptRanges", "strconv.isPrint16", "strconv.isNotPrint16", "strconv.isPrint32", "strconv.isNotPrint32", "strconv.isGraphic"], apart := false, laid := [("unicode/utf8.acceptRanges", laid_unicode_utf8_acceptRanges), ("strconv.isGraphic", laid_strconv_isGraphic), ("strconv.isNotPrint16", laid_strconv_isNotPrint16), ("strconv.isNotPrint32", laid_strconv_isNotPrint32), ("strconv.isPrint16", laid_strconv_isPrint16), ("strconv.isPrint32", laid_strconv_isPrint32), ("unicode/utf8.first", laid_unicode_utf8_first)], narrowed := true }
def FnQuoteToASCIIUptoSaid : Prop := fnQuoteToASCIIUptoRow.holds Tryd.pinned (OpenSpec.upto fnQuoteToASCIISpec)

/-- 'laws.FnQuoteToGraphic', WHERE WHAT IT READS IS OF BULK AT MOST 1048576: true; the input reads as it did. -/
def fnQuoteToGraphicUptoRow : OpenClaim := { program := "ytpboiodigfdajaadoor", sum := "6368e11853065d32f89223fef7bba069b7e915d7dd5f4db4822accbd32747d74", func := "loop.example/lib-g03226/laws.FnQuoteToGraphic", spec := "fnQuoteToGraphic", named := ["unicode/utf8.first", "unicode/utf8.acceptRanges", "strconv.isPrint16", "strconv.isNotPrint16", "strconv.isPrint32", "strconv.isNotPrint32", "strconv.isGraphic"], apart := false, laid := [("unicode/utf8.acceptRanges", laid_unicode_utf8_acceptRanges), ("strconv.isGraphic", laid_strconv_isGraphic), ("strconv.isNotPrint16", laid_strconv_isNotPrint16), ("strconv.isNotPrint32", laid_strconv_isNotPrint32), ("strconv.isPrint16", laid_strconv_isPrint16), ("strconv.isPrint32", laid_strconv_isPrint32), ("unicode/utf8.first", laid_unicode_utf8_first)], narrowed := true }
def FnQuoteToGraphicUptoSaid : Prop := fnQuoteToGraphicUptoRow.holds Tryd.pinned (OpenSpec.upto fnQuoteToGraphicSpec)

/-- 'laws.FnAppendQuotes', WHERE WHAT IT READS IS OF BULK AT MOST 1048576: true; the input reads as it did. -/
def fnAppendQuotesUptoRow : OpenClaim := { program := "ytpboiodigfdajaadoor", sum := "6368e11853065d32f89223fef7bba069b7e915d7dd5f4db4822accbd32747d74", func := "loop.example/lib-g03226/laws.FnAppendQuotes", spec := "fnAppendQuotes", named := ["strconv.isPrint16", "strconv.isNotPrint16", "strconv.isPrint32", "strconv.isNotPrint32", "strconv.isGraphic", "unicode/utf8.first", "unicode/utf8.acceptRanges"], apart := false, laid := [("unicode/utf8.acceptRanges", laid_unicode_utf8_acceptRanges), ("strconv.isGraphic", laid_strconv_isGraphic), ("strconv.isNotPrint16", laid_strconv_isNotPrint16), ("strconv.isNotPrint32", laid_strconv_isNotPrint32), ("strconv.isPrint16", laid_strconv_isPrint16), ("strconv.isPrint32", laid_strconv_isPrint32), ("unicode/utf8.first", laid_unicode_utf8_first)], narrowed := true }
def FnAppendQuotesUptoSaid : Prop := fnAppendQuotesUptoRow.holds Tryd.pinned (OpenSpec.upto fnAppendQuotesSpec)

/-- 'laws.FnErrorText', WHERE WHAT IT READS IS OF BULK AT MOST 1048576: true; the input reads as it did. -/
def fnErrorTextUptoRow : OpenClaim := { program := "ytpboiodigfdajaadoor", sum := "6368e11853065d32f89223fef7bba069b7e915d7dd5f4db4822accbd32747d74", func := "loop.example/lib-g03226/laws.FnErrorText", spec := "fnErrorText", unfollowed := true, recurses := true, named := ["strconv.ErrRange", "strconv.ErrSyntax", "unicode/utf8.first", "unicode/utf8.acceptRanges", "strconv.isPrint16", "strconv.isNotPrint16", "strconv.isPrint32", "strconv.isNotPrint32", "strconv.isGraphic"], apart := false, laid := [("unicode/utf8.acceptRanges", laid_unicode_utf8_acceptRanges), ("strconv.ErrRange", laid_strconv_ErrRange), ("strconv.ErrSyntax", laid_strconv_ErrSyntax), ("strconv.isGraphic", laid_strconv_isGraphic), ("strconv.isNotPrint16", laid_strconv_isNotPrint16), ("strconv.isNotPrint32", laid_strconv_isNotPrint32), ("strconv.isPrint16", laid_strconv_isPrint16), ("strconv.isPrint32", laid_strconv_isPrint32), ("unicode/utf8.first", laid_unicode_utf8_first)], narrowed := true }
def FnErrorTextUptoSaid : Prop := fnErrorTextUptoRow.holds Tryd.pinned (OpenSpec.upto fnErrorTextSpec)

/-- 'laws.FnListed', WHERE WHAT IT READS IS OF BULK AT MOST 1048576: true; the input reads as it did. -/
def fnListedUptoRow : OpenClaim := { program := "ytpboiodigfdajaadoor", sum := "6368e11853065d32f89223fef7bba069b7e915d7dd5f4db4822accbd32747d74", func := "loop.example/lib-g03226/laws.FnListed", spec := "fnListed", named := ["unicode/utf8.first", "unicode/utf8.acceptRanges", "strconv.isPrint16", "strconv.isNotPrint16", "strconv.isPrint32", "strconv.isNotPrint32", "strconv.isGraphic"], apart := false, laid := [("unicode/utf8.acceptRanges", laid_unicode_utf8_acceptRanges), ("strconv.isGraphic", laid_strconv_isGraphic), ("strconv.isNotPrint16", laid_strconv_isNotPrint16), ("strconv.isNotPrint32", laid_strconv_isNotPrint32), ("strconv.isPrint16", laid_strconv_isPrint16), ("strconv.isPrint32", laid_strconv_isPrint32), ("unicode/utf8.first", laid_unicode_utf8_first)], narrowed := true }
def FnListedUptoSaid : Prop := fnListedUptoRow.holds Tryd.pinned (OpenSpec.upto fnListedSpec)

/-- 'laws.FnOneLine', WHERE WHAT IT READS IS OF BULK AT MOST 1048576: true; the input reads as it did. -/
def fnOneLineUptoRow : OpenClaim := { program := "ytpboiodigfdajaadoor", sum := "6368e11853065d32f89223fef7bba069b7e915d7dd5f4db4822accbd32747d74", func := "loop.example/lib-g03226/laws.FnOneLine", spec := "fnOneLine", named := ["unicode/utf8.first", "unicode/utf8.acceptRanges", "strconv.isPrint16", "strconv.isNotPrint16", "strconv.isPrint32", "strconv.isNotPrint32", "strconv.isGraphic"], apart := false, laid := [("unicode/utf8.acceptRanges", laid_unicode_utf8_acceptRanges), ("strconv.isGraphic", laid_strconv_isGraphic), ("strconv.isNotPrint16", laid_strconv_isNotPrint16), ("strconv.isNotPrint32", laid_strconv_isNotPrint32), ("strconv.isPrint16", laid_strconv_isPrint16), ("strconv.isPrint32", laid_strconv_isPrint32), ("unicode/utf8.first", laid_unicode_utf8_first)], narrowed := true }
def FnOneLineUptoSaid : Prop := fnOneLineUptoRow.holds Tryd.pinned (OpenSpec.upto fnOneLineSpec)

/-- 'laws.FnPlain', WHERE WHAT IT READS IS OF BULK AT MOST 1048576: true; the input reads as it did. -/
def fnPlainUptoRow : OpenClaim := { program := "ytpboiodigfdajaadoor", sum := "6368e11853065d32f89223fef7bba069b7e915d7dd5f4db4822accbd32747d74", func := "loop.example/lib-g03226/laws.FnPlain", spec := "fnPlain", named := ["unicode/utf8.first", "unicode/utf8.acceptRanges", "strconv.isPrint16", "strconv.isNotPrint16", "strconv.isPrint32", "strconv.isNotPrint32", "strconv.isGraphic"], apart := false, laid := [("unicode/utf8.acceptRanges", laid_unicode_utf8_acceptRanges), ("strconv.isGraphic", laid_strconv_isGraphic), ("strconv.isNotPrint16", laid_strconv_isNotPrint16), ("strconv.isNotPrint32", laid_strconv_isNotPrint32), ("strconv.isPrint16", laid_strconv_isPrint16), ("strconv.isPrint32", laid_strconv_isPrint32), ("unicode/utf8.first", laid_unicode_utf8_first)], narrowed := true }
def FnPlainUptoSaid : Prop := fnPlainUptoRow.holds Tryd.pinned (OpenSpec.upto fnPlainSpec)

/-- 'laws.FnQuoteApart', WHERE WHAT IT READS IS OF BULK AT MOST 1048576: true; the input reads as it did. -/
def fnQuoteApartUptoRow : OpenClaim := { program := "ytpboiodigfdajaadoor", sum := "6368e11853065d32f89223fef7bba069b7e915d7dd5f4db4822accbd32747d74", func := "loop.example/lib-g03226/laws.FnQuoteApart", spec := "fnQuoteApart", named := ["unicode/utf8.first", "unicode/utf8.acceptRanges", "strconv.isPrint16", "strconv.isNotPrint16", "strconv.isPrint32", "strconv.isNotPrint32", "strconv.isGraphic"], apart := false, laid := [("unicode/utf8.acceptRanges", laid_unicode_utf8_acceptRanges), ("strconv.isGraphic", laid_strconv_isGraphic), ("strconv.isNotPrint16", laid_strconv_isNotPrint16), ("strconv.isNotPrint32", laid_strconv_isNotPrint32), ("strconv.isPrint16", laid_strconv_isPrint16), ("strconv.isPrint32", laid_strconv_isPrint32), ("unicode/utf8.first", laid_unicode_utf8_first)], narrowed := true }
def FnQuoteApartUptoSaid : Prop := fnQuoteApartUptoRow.holds Tryd.pinned (OpenSpec.upto fnQuoteApartSpec)

/-- 'laws.FnQuoteLength', WHERE WHAT IT READS IS OF BULK AT MOST 1048576: true; the input reads as it did. -/
def fnQuoteLengthUptoRow : OpenClaim := { program := "ytpboiodigfdajaadoor", sum := "6368e11853065d32f89223fef7bba069b7e915d7dd5f4db4822accbd32747d74", func := "loop.example/lib-g03226/laws.FnQuoteLength", spec := "fnQuoteLength", named := ["unicode/utf8.first", "unicode/utf8.acceptRanges", "strconv.isPrint16", "strconv.isNotPrint16", "strconv.isPrint32", "strconv.isNotPrint32", "strconv.isGraphic"], apart := false, laid := [("unicode/utf8.acceptRanges", laid_unicode_utf8_acceptRanges), ("strconv.isGraphic", laid_strconv_isGraphic), ("strconv.isNotPrint16", laid_strconv_isNotPrint16), ("strconv.isNotPrint32", laid_strconv_isNotPrint32), ("strconv.isPrint16", laid_strconv_isPrint16), ("strconv.isPrint32", laid_strconv_isPrint32), ("unicode/utf8.first", laid_unicode_utf8_first)], narrowed := true }
def FnQuoteLengthUptoSaid : Prop := fnQuoteLengthUptoRow.holds Tryd.pinned (OpenSpec.upto fnQuoteLengthSpec)

/-- 'laws.FnQuoteParts', WHERE WHAT IT READS IS OF BULK AT MOST 1048576: true; the input reads as it did. -/
def fnQuotePartsUptoRow : OpenClaim := { program := "ytpboiodigfdajaadoor", sum := "6368e11853065d32f89223fef7bba069b7e915d7dd5f4db4822accbd32747d74", func := "loop.example/lib-g03226/laws.FnQuoteParts", spec := "fnQuoteParts", named := ["unicode/utf8.first", "unicode/utf8.acceptRanges", "strconv.isPrint16", "strconv.isNotPrint16", "strconv.isPrint32", "strconv.isNotPrint32", "strconv.isGraphic"], apart := false, laid := [("unicode/utf8.acceptRanges", laid_unicode_utf8_acceptRanges), ("strconv.isGraphic", laid_strconv_isGraphic), ("strconv.isNotPrint16", laid_strconv_isNotPrint16), ("strconv.isNotPrint32", laid_strconv_isNotPrint32), ("strconv.isPrint16", laid_strconv_isPrint16), ("strconv.isPrint32", laid_strconv_isPrint32), ("unicode/utf8.first", laid_unicode_utf8_first)], narrowed := true }
def FnQuotePartsUptoSaid : Prop := fnQuotePartsUptoRow.holds Tryd.pinned (OpenSpec.upto fnQuotePartsSpec)

/-- 'laws.FnQuoteOne', WHERE WHAT IT READS IS OF BULK AT MOST 1048576: true; the input reads as it did. -/
def fnQuoteOneUptoRow : OpenClaim := { program := "ytpboiodigfdajaadoor", sum := "6368e11853065d32f89223fef7bba069b7e915d7dd5f4db4822accbd32747d74", func := "loop.example/lib-g03226/laws.FnQuoteOne", spec := "fnQuoteOne", named := ["strconv.isPrint16", "strconv.isNotPrint16", "strconv.isPrint32", "strconv.isNotPrint32", "strconv.isGraphic", "unicode/utf8.first", "unicode/utf8.acceptRanges"], apart := false, laid := [("unicode/utf8.acceptRanges", laid_unicode_utf8_acceptRanges), ("strconv.isGraphic", laid_strconv_isGraphic), ("strconv.isNotPrint16", laid_strconv_isNotPrint16), ("strconv.isNotPrint32", laid_strconv_isNotPrint32), ("strconv.isPrint16", laid_strconv_isPrint16), ("strconv.isPrint32", laid_strconv_isPrint32), ("unicode/utf8.first", laid_unicode_utf8_first)], narrowed := true }
def FnQuoteOneUptoSaid : Prop := fnQuoteOneUptoRow.holds Tryd.pinned (OpenSpec.upto fnQuoteOneSpec)

end Rows
end Go.Proofs.YtpboiodigfdajaaDoor
