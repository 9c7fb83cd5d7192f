/-
  NARROWER THAN 'FOR EVERY INPUT', by the rows' own cells (each row's printed sentence says how): FnBoolError: laid · FnParseBool: laid · FnBools: laid · FnCapitals: laid · FnParseUint: laid · FnUnderscores: laid · FnDigit: laid · FnRoundUint: laid · FnBits: laid · FnParseInt: laid · FnCanonical: laid · FnRoundInt: laid.
  DERIVED. THE GIVEN ROWS OF THIS SEAT. 12 by the template 'for every input the law returns true; each argument reads behind the call as it read before'; 0 by the template 'total and deterministic' (their statements: YtjjocdhgjbhnhaaDoorTotals.lean).
  GIVEN WITH THE SEED: the statements are not yours to turn. If you find one false, say at which input.
  Laid BY PROGRAM, IN A SANDBOX (cutbox-rows.mjs): the forced cells as the released guide's own fill.sh prints them over the translation 2e6aa0d8d399497b… (all of the seat's roots in one cut). By AI agents, Wed Nov 11 2026. No macro, syntax, notation, axiom, sorry.
-/
import Derived.Test.YtjjocdhgjbhnhaaDoorChecked
import GoSem.Claim
import GoSem.ClaimJoined
import GoSem.ClaimMapViews
import Derived.JoinedTies
import Derived.KernelRfl
namespace Go.Proofs.YtjjocdhgjbhnhaaDoor
/- THE CELL 'sum', in the pinned program and in every row, IS THE sha256 OF THE DUMP (.gsa) THAT YtjjocdhgjbhnhaaDoorProg.lean LOADS. Nothing in Lean hashes anything: it is a label: what it is worth is what the hold of that sum in a sandbox is worth. -/
noncomputable def Tryd.pinned : Pinned := { name := "ytjjocdhgjbhnhaadoor", sum := "2e6aa0d8d399497bdfbcb436d357aa746dfdaa50fec5e9dc5b8cccf9b816f2e7", checked := Tryd.checked }
namespace Rows
def none {H : Type} : Left H := { results := [], args := [] }

/- WHAT THE LISTED PACKAGE-LEVEL VARIABLES READ AS WHEN THE CALL BEGINS. Each datum BY PROGRAM (the guide's laid-datum.mjs) off the statement by which the dump's own 'gosem.cut.vars' lays the variable. In a bare row this is a premise. The card (YtjjocdhgjbhnhaaDoorCards.lean) ties it to the program's text. -/
def laid_math_bits_deBruijn32tab {H : Type} : DataW H := .agg [.lit (.int .u8 0), .lit (.int .u8 1), .lit (.int .u8 28), .lit (.int .u8 2), .lit (.int .u8 29), .lit (.int .u8 14), .lit (.int .u8 24), .lit (.int .u8 3), .lit (.int .u8 30), .lit (.int .u8 22), .lit (.int .u8 20), .lit (.int .u8 15), .lit (.int .u8 25), .lit (.int .u8 17), .lit (.int .u8 4), .lit (.int .u8 8), .lit (.int .u8 31), .lit (.int .u8 27), .lit (.int .u8 13), .lit (.int .u8 23), .lit (.int .u8 21), .lit (.int .u8 19), .lit (.int .u8 16), .lit (.int .u8 7), .lit (.int .u8 26), .lit (.int .u8 12), .lit (.int .u8 18), .lit (.int .u8 6), .lit (.int .u8 11), .lit (.int .u8 5), .lit (.int .u8 10), .lit (.int .u8 9)]
def laid_math_bits_deBruijn64tab {H : Type} : DataW H := .agg [.lit (.int .u8 0), .lit (.int .u8 1), .lit (.int .u8 56), .lit (.int .u8 2), .lit (.int .u8 57), .lit (.int .u8 49), .lit (.int .u8 28), .lit (.int .u8 3), .lit (.int .u8 61), .lit (.int .u8 58), .lit (.int .u8 42), .lit (.int .u8 50), .lit (.int .u8 38), .lit (.int .u8 29), .lit (.int .u8 17), .lit (.int .u8 4), .lit (.int .u8 62), .lit (.int .u8 47), .lit (.int .u8 59), .lit (.int .u8 36), .lit (.int .u8 45), .lit (.int .u8 43), .lit (.int .u8 51), .lit (.int .u8 22), .lit (.int .u8 53), .lit (.int .u8 39), .lit (.int .u8 33), .lit (.int .u8 30), .lit (.int .u8 24), .lit (.int .u8 18), .lit (.int .u8 12), .lit (.int .u8 5), .lit (.int .u8 63), .lit (.int .u8 55), .lit (.int .u8 48), .lit (.int .u8 27), .lit (.int .u8 60), .lit (.int .u8 41), .lit (.int .u8 37), .lit (.int .u8 16), .lit (.int .u8 46), .lit (.int .u8 35), .lit (.int .u8 44), .lit (.int .u8 21), .lit (.int .u8 52), .lit (.int .u8 32), .lit (.int .u8 23), .lit (.int .u8 11), .lit (.int .u8 54), .lit (.int .u8 26), .lit (.int .u8 40), .lit (.int .u8 15), .lit (.int .u8 34), .lit (.int .u8 20), .lit (.int .u8 31), .lit (.int .u8 10), .lit (.int .u8 25), .lit (.int .u8 14), .lit (.int .u8 19), .lit (.int .u8 9), .lit (.int .u8 13), .lit (.int .u8 8), .lit (.int .u8 7), .lit (.int .u8 6)]
def laid_internal_strconv_uint64pow10 {H : Type} : DataW H := .agg [.lit (.int .u64 1), .lit (.int .u64 10), .lit (.int .u64 100), .lit (.int .u64 1000), .lit (.int .u64 10000), .lit (.int .u64 100000), .lit (.int .u64 1000000), .lit (.int .u64 10000000), .lit (.int .u64 100000000), .lit (.int .u64 1000000000), .lit (.int .u64 10000000000), .lit (.int .u64 100000000000), .lit (.int .u64 1000000000000), .lit (.int .u64 10000000000000), .lit (.int .u64 100000000000000), .lit (.int .u64 1000000000000000), .lit (.int .u64 10000000000000000), .lit (.int .u64 100000000000000000), .lit (.int .u64 1000000000000000000), .lit (.int .u64 10000000000000000000)]
def laid_strconv_ErrRange {H : Type} : DataW H := .iface "*errors.errorString" (.ptr (.agg [.lit (.string [118, 97, 108, 117, 101, 32, 111, 117, 116, 32, 111, 102, 32, 114, 97, 110, 103, 101])]))
def laid_strconv_ErrSyntax {H : Type} : DataW H := .iface "*errors.errorString" (.ptr (.agg [.lit (.string [105, 110, 118, 97, 108, 105, 100, 32, 115, 121, 110, 116, 97, 120])]))

/-- 'laws.FnBoolError': WHATEVER THE INPUT: true; the input reads as it did. -/
def fnBoolErrorSpec : ChangeSpec := { name := "fnBoolError", fn := fun _ => fun
  | [d] => { results := [.lit (.bool true)], args := [d] }
  | _ => none }
def fnBoolErrorRow : OpenClaim := { program := "ytjjocdhgjbhnhaadoor", sum := "2e6aa0d8d399497bdfbcb436d357aa746dfdaa50fec5e9dc5b8cccf9b816f2e7", func := "loop.example/lib-g03226/laws.FnBoolError", spec := "fnBoolError", named := ["strconv.ErrSyntax", "strconv.ErrRange", "internal/strconv.uint64pow10", "math/bits.deBruijn32tab", "math/bits.deBruijn64tab"], apart := false, laid := [("math/bits.deBruijn32tab", laid_math_bits_deBruijn32tab), ("math/bits.deBruijn64tab", laid_math_bits_deBruijn64tab), ("internal/strconv.uint64pow10", laid_internal_strconv_uint64pow10), ("strconv.ErrRange", laid_strconv_ErrRange), ("strconv.ErrSyntax", laid_strconv_ErrSyntax)] }
def FnBoolErrorSaid : Prop := fnBoolErrorRow.holds Tryd.pinned (OpenSpec.ofChange fnBoolErrorSpec)

/-- ITS FALSE NEIGHBOUR: 'it returns false'. Refute it at one input. -/
def fnBoolErrorWrong : ChangeSpec := { name := "fnBoolError", fn := fun _ => fun
  | [d] => { results := [.lit (.bool false)], args := [d] }
  | _ => none }
def FnBoolErrorWrongFalsely : Prop := fnBoolErrorRow.holds Tryd.pinned (OpenSpec.ofChange fnBoolErrorWrong)

/-- 'laws.FnParseBool': WHATEVER THE INPUT: true; the input reads as it did. -/
def fnParseBoolSpec : ChangeSpec := { name := "fnParseBool", fn := fun _ => fun
  | [d] => { results := [.lit (.bool true)], args := [d] }
  | _ => none }
def fnParseBoolRow : OpenClaim := { program := "ytjjocdhgjbhnhaadoor", sum := "2e6aa0d8d399497bdfbcb436d357aa746dfdaa50fec5e9dc5b8cccf9b816f2e7", func := "loop.example/lib-g03226/laws.FnParseBool", spec := "fnParseBool", named := ["strconv.ErrSyntax", "strconv.ErrRange", "internal/strconv.uint64pow10", "math/bits.deBruijn32tab", "math/bits.deBruijn64tab"], apart := false, laid := [("math/bits.deBruijn32tab", laid_math_bits_deBruijn32tab), ("math/bits.deBruijn64tab", laid_math_bits_deBruijn64tab), ("internal/strconv.uint64pow10", laid_internal_strconv_uint64pow10), ("strconv.ErrRange", laid_strconv_ErrRange), ("strconv.ErrSyntax", laid_strconv_ErrSyntax)] }
def FnParseBoolSaid : Prop := fnParseBoolRow.holds Tryd.pinned (OpenSpec.ofChange fnParseBoolSpec)

/-- ITS FALSE NEIGHBOUR: 'it returns false'. Refute it at one input. -/
def fnParseBoolWrong : ChangeSpec := { name := "fnParseBool", fn := fun _ => fun
  | [d] => { results := [.lit (.bool false)], args := [d] }
  | _ => none }
def FnParseBoolWrongFalsely : Prop := fnParseBoolRow.holds Tryd.pinned (OpenSpec.ofChange fnParseBoolWrong)

/-- 'laws.FnBools': WHATEVER THE INPUT: true; the input reads as it did. -/
def fnBoolsSpec : ChangeSpec := { name := "fnBools", fn := fun _ => fun
  | [d1, d2] => { results := [.lit (.bool true)], args := [d1, d2] }
  | _ => none }
def fnBoolsRow : OpenClaim := { program := "ytjjocdhgjbhnhaadoor", sum := "2e6aa0d8d399497bdfbcb436d357aa746dfdaa50fec5e9dc5b8cccf9b816f2e7", func := "loop.example/lib-g03226/laws.FnBools", spec := "fnBools", named := ["strconv.ErrSyntax", "strconv.ErrRange", "internal/strconv.uint64pow10", "math/bits.deBruijn32tab", "math/bits.deBruijn64tab"], apart := false, laid := [("math/bits.deBruijn32tab", laid_math_bits_deBruijn32tab), ("math/bits.deBruijn64tab", laid_math_bits_deBruijn64tab), ("internal/strconv.uint64pow10", laid_internal_strconv_uint64pow10), ("strconv.ErrRange", laid_strconv_ErrRange), ("strconv.ErrSyntax", laid_strconv_ErrSyntax)] }
def FnBoolsSaid : Prop := fnBoolsRow.holds Tryd.pinned (OpenSpec.ofChange fnBoolsSpec)

/-- ITS FALSE NEIGHBOUR: 'it returns false'. Refute it at one input. -/
def fnBoolsWrong : ChangeSpec := { name := "fnBools", fn := fun _ => fun
  | [d1, d2] => { results := [.lit (.bool false)], args := [d1, d2] }
  | _ => none }
def FnBoolsWrongFalsely : Prop := fnBoolsRow.holds Tryd.pinned (OpenSpec.ofChange fnBoolsWrong)

/-- 'laws.FnCapitals': WHATEVER THE INPUT: true; the input reads as it did. -/
def fnCapitalsSpec : ChangeSpec := { name := "fnCapitals", fn := fun _ => fun
  | [d1, d2] => { results := [.lit (.bool true)], args := [d1, d2] }
  | _ => none }
def fnCapitalsRow : OpenClaim := { program := "ytjjocdhgjbhnhaadoor", sum := "2e6aa0d8d399497bdfbcb436d357aa746dfdaa50fec5e9dc5b8cccf9b816f2e7", func := "loop.example/lib-g03226/laws.FnCapitals", spec := "fnCapitals", named := ["strconv.ErrSyntax", "strconv.ErrRange", "internal/strconv.uint64pow10", "math/bits.deBruijn32tab", "math/bits.deBruijn64tab"], apart := false, laid := [("math/bits.deBruijn32tab", laid_math_bits_deBruijn32tab), ("math/bits.deBruijn64tab", laid_math_bits_deBruijn64tab), ("internal/strconv.uint64pow10", laid_internal_strconv_uint64pow10), ("strconv.ErrRange", laid_strconv_ErrRange), ("strconv.ErrSyntax", laid_strconv_ErrSyntax)] }
def FnCapitalsSaid : Prop := fnCapitalsRow.holds Tryd.pinned (OpenSpec.ofChange fnCapitalsSpec)

/-- ITS FALSE NEIGHBOUR: 'it returns false'. Refute it at one input. -/
def fnCapitalsWrong : ChangeSpec := { name := "fnCapitals", fn := fun _ => fun
  | [d1, d2] => { results := [.lit (.bool false)], args := [d1, d2] }
  | _ => none }
def FnCapitalsWrongFalsely : Prop := fnCapitalsRow.holds Tryd.pinned (OpenSpec.ofChange fnCapitalsWrong)

/-- 'laws.FnParseUint': WHATEVER THE INPUT: true; the input reads as it did. -/
def fnParseUintSpec : ChangeSpec := { name := "fnParseUint", fn := fun _ => fun
  | [d1, d2, d3] => { results := [.lit (.bool true)], args := [d1, d2, d3] }
  | _ => none }
def fnParseUintRow : OpenClaim := { program := "ytjjocdhgjbhnhaadoor", sum := "2e6aa0d8d399497bdfbcb436d357aa746dfdaa50fec5e9dc5b8cccf9b816f2e7", func := "loop.example/lib-g03226/laws.FnParseUint", spec := "fnParseUint", named := ["strconv.ErrSyntax", "strconv.ErrRange", "internal/strconv.uint64pow10", "math/bits.deBruijn32tab", "math/bits.deBruijn64tab"], apart := false, laid := [("math/bits.deBruijn32tab", laid_math_bits_deBruijn32tab), ("math/bits.deBruijn64tab", laid_math_bits_deBruijn64tab), ("internal/strconv.uint64pow10", laid_internal_strconv_uint64pow10), ("strconv.ErrRange", laid_strconv_ErrRange), ("strconv.ErrSyntax", laid_strconv_ErrSyntax)] }
def FnParseUintSaid : Prop := fnParseUintRow.holds Tryd.pinned (OpenSpec.ofChange fnParseUintSpec)

/-- ITS FALSE NEIGHBOUR: 'it returns false'. Refute it at one input. -/
def fnParseUintWrong : ChangeSpec := { name := "fnParseUint", fn := fun _ => fun
  | [d1, d2, d3] => { results := [.lit (.bool false)], args := [d1, d2, d3] }
  | _ => none }
def FnParseUintWrongFalsely : Prop := fnParseUintRow.holds Tryd.pinned (OpenSpec.ofChange fnParseUintWrong)

/-- 'laws.FnUnderscores': WHATEVER THE INPUT: true; the input reads as it did. -/
def fnUnderscoresSpec : ChangeSpec := { name := "fnUnderscores", fn := fun _ => fun
  | [d1, d2] => { results := [.lit (.bool true)], args := [d1, d2] }
  | _ => none }
def fnUnderscoresRow : OpenClaim := { program := "ytjjocdhgjbhnhaadoor", sum := "2e6aa0d8d399497bdfbcb436d357aa746dfdaa50fec5e9dc5b8cccf9b816f2e7", func := "loop.example/lib-g03226/laws.FnUnderscores", spec := "fnUnderscores", named := ["strconv.ErrSyntax", "strconv.ErrRange", "internal/strconv.uint64pow10", "math/bits.deBruijn32tab", "math/bits.deBruijn64tab"], apart := false, laid := [("math/bits.deBruijn32tab", laid_math_bits_deBruijn32tab), ("math/bits.deBruijn64tab", laid_math_bits_deBruijn64tab), ("internal/strconv.uint64pow10", laid_internal_strconv_uint64pow10), ("strconv.ErrRange", laid_strconv_ErrRange), ("strconv.ErrSyntax", laid_strconv_ErrSyntax)] }
def FnUnderscoresSaid : Prop := fnUnderscoresRow.holds Tryd.pinned (OpenSpec.ofChange fnUnderscoresSpec)

/-- ITS FALSE NEIGHBOUR: 'it returns false'. Refute it at one input. -/
def fnUnderscoresWrong : ChangeSpec := { name := "fnUnderscores", fn := fun _ => fun
  | [d1, d2] => { results := [.lit (.bool false)], args := [d1, d2] }
  | _ => none }
def FnUnderscoresWrongFalsely : Prop := fnUnderscoresRow.holds Tryd.pinned (OpenSpec.ofChange fnUnderscoresWrong)

/-- 'laws.FnDigit': WHATEVER THE INPUT: true; the input reads as it did. -/
def fnDigitSpec : ChangeSpec := { name := "fnDigit", fn := fun _ => fun
  | [d1, d2, d3] => { results := [.lit (.bool true)], args := [d1, d2, d3] }
  | _ => none }
def fnDigitRow : OpenClaim := { program := "ytjjocdhgjbhnhaadoor", sum := "2e6aa0d8d399497bdfbcb436d357aa746dfdaa50fec5e9dc5b8cccf9b816f2e7", func := "loop.example/lib-g03226/laws.FnDigit", spec := "fnDigit", named := ["internal/strconv.uint64pow10", "math/bits.deBruijn32tab", "math/bits.deBruijn64tab", "strconv.ErrSyntax", "strconv.ErrRange"], apart := false, laid := [("math/bits.deBruijn32tab", laid_math_bits_deBruijn32tab), ("math/bits.deBruijn64tab", laid_math_bits_deBruijn64tab), ("internal/strconv.uint64pow10", laid_internal_strconv_uint64pow10), ("strconv.ErrRange", laid_strconv_ErrRange), ("strconv.ErrSyntax", laid_strconv_ErrSyntax)] }
def FnDigitSaid : Prop := fnDigitRow.holds Tryd.pinned (OpenSpec.ofChange fnDigitSpec)

/-- ITS FALSE NEIGHBOUR: 'it returns false'. Refute it at one input. -/
def fnDigitWrong : ChangeSpec := { name := "fnDigit", fn := fun _ => fun
  | [d1, d2, d3] => { results := [.lit (.bool false)], args := [d1, d2, d3] }
  | _ => none }
def FnDigitWrongFalsely : Prop := fnDigitRow.holds Tryd.pinned (OpenSpec.ofChange fnDigitWrong)

/-- 'laws.FnRoundUint': WHATEVER THE INPUT: true; the input reads as it did. -/
def fnRoundUintSpec : ChangeSpec := { name := "fnRoundUint", fn := fun _ => fun
  | [d1, d2] => { results := [.lit (.bool true)], args := [d1, d2] }
  | _ => none }
def fnRoundUintRow : OpenClaim := { program := "ytjjocdhgjbhnhaadoor", sum := "2e6aa0d8d399497bdfbcb436d357aa746dfdaa50fec5e9dc5b8cccf9b816f2e7", func := "loop.example/lib-g03226/laws.FnRoundUint", spec := "fnRoundUint", named := ["internal/strconv.uint64pow10", "math/bits.deBruijn32tab", "math/bits.deBruijn64tab", "strconv.ErrSyntax", "strconv.ErrRange"], apart := false, laid := [("math/bits.deBruijn32tab", laid_math_bits_deBruijn32tab), ("math/bits.deBruijn64tab", laid_math_bits_deBruijn64tab), ("internal/strconv.uint64pow10", laid_internal_strconv_uint64pow10), ("strconv.ErrRange", laid_strconv_ErrRange), ("strconv.ErrSyntax", laid_strconv_ErrSyntax)] }
def FnRoundUintSaid : Prop := fnRoundUintRow.holds Tryd.pinned (OpenSpec.ofChange fnRoundUintSpec)

/-- ITS FALSE NEIGHBOUR: 'it returns false'. Refute it at one input. -/
def fnRoundUintWrong : ChangeSpec := { name := "fnRoundUint", fn := fun _ => fun
  | [d1, d2] => { results := [.lit (.bool false)], args := [d1, d2] }
  | _ => none }
def FnRoundUintWrongFalsely : Prop := fnRoundUintRow.holds Tryd.pinned (OpenSpec.ofChange fnRoundUintWrong)

/-- 'laws.FnBits': WHATEVER THE INPUT: true; the input reads as it did. -/
def fnBitsSpec : ChangeSpec := { name := "fnBits", fn := fun _ => fun
  | [d1, d2, d3, d4] => { results := [.lit (.bool true)], args := [d1, d2, d3, d4] }
  | _ => none }
def fnBitsRow : OpenClaim := { program := "ytjjocdhgjbhnhaadoor", sum := "2e6aa0d8d399497bdfbcb436d357aa746dfdaa50fec5e9dc5b8cccf9b816f2e7", func := "loop.example/lib-g03226/laws.FnBits", spec := "fnBits", named := ["strconv.ErrSyntax", "strconv.ErrRange", "internal/strconv.uint64pow10", "math/bits.deBruijn32tab", "math/bits.deBruijn64tab"], apart := false, laid := [("math/bits.deBruijn32tab", laid_math_bits_deBruijn32tab), ("math/bits.deBruijn64tab", laid_math_bits_deBruijn64tab), ("internal/strconv.uint64pow10", laid_internal_strconv_uint64pow10), ("strconv.ErrRange", laid_strconv_ErrRange), ("strconv.ErrSyntax", laid_strconv_ErrSyntax)] }
def FnBitsSaid : Prop := fnBitsRow.holds Tryd.pinned (OpenSpec.ofChange fnBitsSpec)

/-- ITS FALSE NEIGHBOUR: 'it returns false'. Refute it at one input. -/
def fnBitsWrong : ChangeSpec := { name := "fnBits", fn := fun _ => fun
  | [d1, d2, d3, d4] => { results := [.lit (.bool false)], args := [d1, d2, d3, d4] }
  | _ => none }
def FnBitsWrongFalsely : Prop := fnBitsRow.holds Tryd.pinned (OpenSpec.ofChange fnBitsWrong)

/-- 'laws.FnParseInt': WHATEVER THE INPUT: true; the input reads as it did. -/
def fnParseIntSpec : ChangeSpec := { name := "fnParseInt", fn := fun _ => fun
  | [d1, d2, d3] => { results := [.lit (.bool true)], args := [d1, d2, d3] }
  | _ => none }
def fnParseIntRow : OpenClaim := { program := "ytjjocdhgjbhnhaadoor", sum := "2e6aa0d8d399497bdfbcb436d357aa746dfdaa50fec5e9dc5b8cccf9b816f2e7", func := "loop.example/lib-g03226/laws.FnParseInt", spec := "fnParseInt", named := ["strconv.ErrSyntax", "strconv.ErrRange", "internal/strconv.uint64pow10", "math/bits.deBruijn32tab", "math/bits.deBruijn64tab"], apart := false, laid := [("math/bits.deBruijn32tab", laid_math_bits_deBruijn32tab), ("math/bits.deBruijn64tab", laid_math_bits_deBruijn64tab), ("internal/strconv.uint64pow10", laid_internal_strconv_uint64pow10), ("strconv.ErrRange", laid_strconv_ErrRange), ("strconv.ErrSyntax", laid_strconv_ErrSyntax)] }
def FnParseIntSaid : Prop := fnParseIntRow.holds Tryd.pinned (OpenSpec.ofChange fnParseIntSpec)

/-- ITS FALSE NEIGHBOUR: 'it returns false'. Refute it at one input. -/
def fnParseIntWrong : ChangeSpec := { name := "fnParseInt", fn := fun _ => fun
  | [d1, d2, d3] => { results := [.lit (.bool false)], args := [d1, d2, d3] }
  | _ => none }
def FnParseIntWrongFalsely : Prop := fnParseIntRow.holds Tryd.pinned (OpenSpec.ofChange fnParseIntWrong)

/-- 'laws.FnCanonical': WHATEVER THE INPUT: true; the input reads as it did. -/
def fnCanonicalSpec : ChangeSpec := { name := "fnCanonical", fn := fun _ => fun
  | [d1, d2] => { results := [.lit (.bool true)], args := [d1, d2] }
  | _ => none }
def fnCanonicalRow : OpenClaim := { program := "ytjjocdhgjbhnhaadoor", sum := "2e6aa0d8d399497bdfbcb436d357aa746dfdaa50fec5e9dc5b8cccf9b816f2e7", func := "loop.example/lib-g03226/laws.FnCanonical", spec := "fnCanonical", named := ["strconv.ErrSyntax", "strconv.ErrRange", "internal/strconv.uint64pow10", "math/bits.deBruijn32tab", "math/bits.deBruijn64tab"], apart := false, laid := [("math/bits.deBruijn32tab", laid_math_bits_deBruijn32tab), ("math/bits.deBruijn64tab", laid_math_bits_deBruijn64tab), ("internal/strconv.uint64pow10", laid_internal_strconv_uint64pow10), ("strconv.ErrRange", laid_strconv_ErrRange), ("strconv.ErrSyntax", laid_strconv_ErrSyntax)] }
def FnCanonicalSaid : Prop := fnCanonicalRow.holds Tryd.pinned (OpenSpec.ofChange fnCanonicalSpec)

/-- ITS FALSE NEIGHBOUR: 'it returns false'. Refute it at one input. -/
def fnCanonicalWrong : ChangeSpec := { name := "fnCanonical", fn := fun _ => fun
  | [d1, d2] => { results := [.lit (.bool false)], args := [d1, d2] }
  | _ => none }
def FnCanonicalWrongFalsely : Prop := fnCanonicalRow.holds Tryd.pinned (OpenSpec.ofChange fnCanonicalWrong)

/-- 'laws.FnRoundInt': WHATEVER THE INPUT: true; the input reads as it did. -/
def fnRoundIntSpec : ChangeSpec := { name := "fnRoundInt", fn := fun _ => fun
  | [d1, d2] => { results := [.lit (.bool true)], args := [d1, d2] }
  | _ => none }
def fnRoundIntRow : OpenClaim := { program := "ytjjocdhgjbhnhaadoor", sum := "2e6aa0d8d399497bdfbcb436d357aa746dfdaa50fec5e9dc5b8cccf9b816f2e7", func := "loop.example/lib-g03226/laws.FnRoundInt", spec := "fnRoundInt", named := ["internal/strconv.uint64pow10", "math/bits.deBruijn32tab", "math/bits.deBruijn64tab", "strconv.ErrSyntax", "strconv.ErrRange"], apart := false, laid := [("math/bits.deBruijn32tab", laid_math_bits_deBruijn32tab), ("math/bits.deBruijn64tab", laid_math_bits_deBruijn64tab), ("internal/strconv.uint64pow10", laid_internal_strconv_uint64pow10), ("strconv.ErrRange", laid_strconv_ErrRange), ("strconv.ErrSyntax", laid_strconv_ErrSyntax)] }
def FnRoundIntSaid : Prop := fnRoundIntRow.holds Tryd.pinned (OpenSpec.ofChange fnRoundIntSpec)

/-- ITS FALSE NEIGHBOUR: 'it returns false'. Refute it at one input. -/
def fnRoundIntWrong : ChangeSpec := { name := "fnRoundInt", fn := fun _ => fun
  | [d1, d2] => { results := [.lit (.bool false)], args := [d1, d2] }
  | _ => none }
def FnRoundIntWrongFalsely : Prop := fnRoundIntRow.holds Tryd.pinned (OpenSpec.ofChange fnRoundIntWrong)

/- THE SECOND FORM. 'bulk': how many values and letters a reading holds, each counted each time it is reached (what is shared counts as often as it is met; a slice's spare places count too). A statement '..UptoSaid' is the law's where the arguments, and the package variables that the reading takes, are together of bulk at most 1048576: NARROWER than '..Said'. Prove '..Said' where nothing that the law and all that it calls make is longer than what came in: it says more and counts as full. Else prove '..UptoSaid'. A law counts once. -/
mutual
def uptoBulk {H : Type} : DataW H → Nat
  | .lit (.string bytes) => bytes.length + 1
  | .lit _ => 1
  | .nil => 1
  | .ptr d => uptoBulk d + 1
  | .slice elems spare => uptoBulkAll elems + uptoBulkAll spare + 1
  | .agg parts => uptoBulkAll parts + 1
  | .iface _ d => uptoBulk d + 1
  | .map entries => uptoBulkEntries entries + 1
  | .held _ => 1
def uptoBulkAll {H : Type} : List (DataW H) → Nat
  | [] => 0
  | d :: r => uptoBulk d + uptoBulkAll r
def uptoBulkEntries {H : Type} : List (Lit × DataW H) → Nat
  | [] => 0
  | x :: r => uptoBulkEntry x + uptoBulkEntries r
def uptoBulkEntry {H : Type} : Lit × DataW H → Nat
  | (.string bytes, d) => bytes.length + uptoBulk d + 1
  | (_, d) => uptoBulk d + 1
 end
def uptoSmall : (H : Type) → List (DataW H) → Bool := fun _ ds => decide (uptoBulkAll ds ≤ 1048576)
def OpenSpec.upto (s : _root_.Go.ChangeSpec) : _root_.Go.OpenSpec := { _root_.Go.OpenSpec.ofChange s with cond := some uptoSmall }

/-- 'laws.FnBoolError', WHERE WHAT IT READS IS OF BULK AT MOST 1048576: true; the input reads as it did. -/
def fnBoolErrorUptoRow : OpenClaim := { program := "ytjjocdhgjbhnhaadoor", sum := "2e6aa0d8d399497bdfbcb436d357aa746dfdaa50fec5e9dc5b8cccf9b816f2e7", func := "loop.example/lib-g03226/laws.FnBoolError", spec := "fnBoolError", named := ["strconv.ErrSyntax", "strconv.ErrRange", "internal/strconv.uint64pow10", "math/bits.deBruijn32tab", "math/bits.deBruijn64tab"], apart := false, laid := [("math/bits.deBruijn32tab", laid_math_bits_deBruijn32tab), ("math/bits.deBruijn64tab", laid_math_bits_deBruijn64tab), ("internal/strconv.uint64pow10", laid_internal_strconv_uint64pow10), ("strconv.ErrRange", laid_strconv_ErrRange), ("strconv.ErrSyntax", laid_strconv_ErrSyntax)], narrowed := true }
def FnBoolErrorUptoSaid : Prop := fnBoolErrorUptoRow.holds Tryd.pinned (OpenSpec.upto fnBoolErrorSpec)

/-- 'laws.FnParseBool', WHERE WHAT IT READS IS OF BULK AT MOST 1048576: true; the input reads as it did. -/
def fnParseBoolUptoRow : OpenClaim := { program := "ytjjocdhgjbhnhaadoor", sum := "2e6aa0d8d399497bdfbcb436d357aa746dfdaa50fec5e9dc5b8cccf9b816f2e7", func := "loop.example/lib-g03226/laws.FnParseBool", spec := "fnParseBool", named := ["strconv.ErrSyntax", "strconv.ErrRange", "internal/strconv.uint64pow10", "math/bits.deBruijn32tab", "math/bits.deBruijn64tab"], apart := false, laid := [("math/bits.deBruijn32tab", laid_math_bits_deBruijn32tab), ("math/bits.deBruijn64tab", laid_math_bits_deBruijn64tab), ("internal/strconv.uint64pow10", laid_internal_strconv_uint64pow10), ("strconv.ErrRange", laid_strconv_ErrRange), ("strconv.ErrSyntax", laid_strconv_ErrSyntax)], narrowed := true }
def FnParseBoolUptoSaid : Prop := fnParseBoolUptoRow.holds Tryd.pinned (OpenSpec.upto fnParseBoolSpec)

/-- 'laws.FnBools', WHERE WHAT IT READS IS OF BULK AT MOST 1048576: true; the input reads as it did. -/
def fnBoolsUptoRow : OpenClaim := { program := "ytjjocdhgjbhnhaadoor", sum := "2e6aa0d8d399497bdfbcb436d357aa746dfdaa50fec5e9dc5b8cccf9b816f2e7", func := "loop.example/lib-g03226/laws.FnBools", spec := "fnBools", named := ["strconv.ErrSyntax", "strconv.ErrRange", "internal/strconv.uint64pow10", "math/bits.deBruijn32tab", "math/bits.deBruijn64tab"], apart := false, laid := [("math/bits.deBruijn32tab", laid_math_bits_deBruijn32tab), ("math/bits.deBruijn64tab", laid_math_bits_deBruijn64tab), ("internal/strconv.uint64pow10", laid_internal_strconv_uint64pow10), ("strconv.ErrRange", laid_strconv_ErrRange), ("strconv.ErrSyntax", laid_strconv_ErrSyntax)], narrowed := true }
def FnBoolsUptoSaid : Prop := fnBoolsUptoRow.holds Tryd.pinned (OpenSpec.upto fnBoolsSpec)

/-- 'laws.FnCapitals', WHERE WHAT IT READS IS OF BULK AT MOST 1048576: true; the input reads as it did. -/
def fnCapitalsUptoRow : OpenClaim := { program := "ytjjocdhgjbhnhaadoor", sum := "2e6aa0d8d399497bdfbcb436d357aa746dfdaa50fec5e9dc5b8cccf9b816f2e7", func := "loop.example/lib-g03226/laws.FnCapitals", spec := "fnCapitals", named := ["strconv.ErrSyntax", "strconv.ErrRange", "internal/strconv.uint64pow10", "math/bits.deBruijn32tab", "math/bits.deBruijn64tab"], apart := false, laid := [("math/bits.deBruijn32tab", laid_math_bits_deBruijn32tab), ("math/bits.deBruijn64tab", laid_math_bits_deBruijn64tab), ("internal/strconv.uint64pow10", laid_internal_strconv_uint64pow10), ("strconv.ErrRange", laid_strconv_ErrRange), ("strconv.ErrSyntax", laid_strconv_ErrSyntax)], narrowed := true }
def FnCapitalsUptoSaid : Prop := fnCapitalsUptoRow.holds Tryd.pinned (OpenSpec.upto fnCapitalsSpec)

/-- 'laws.FnParseUint', WHERE WHAT IT READS IS OF BULK AT MOST 1048576: true; the input reads as it did. -/
def fnParseUintUptoRow : OpenClaim := { program := "ytjjocdhgjbhnhaadoor", sum := "2e6aa0d8d399497bdfbcb436d357aa746dfdaa50fec5e9dc5b8cccf9b816f2e7", func := "loop.example/lib-g03226/laws.FnParseUint", spec := "fnParseUint", named := ["strconv.ErrSyntax", "strconv.ErrRange", "internal/strconv.uint64pow10", "math/bits.deBruijn32tab", "math/bits.deBruijn64tab"], apart := false, laid := [("math/bits.deBruijn32tab", laid_math_bits_deBruijn32tab), ("math/bits.deBruijn64tab", laid_math_bits_deBruijn64tab), ("internal/strconv.uint64pow10", laid_internal_strconv_uint64pow10), ("strconv.ErrRange", laid_strconv_ErrRange), ("strconv.ErrSyntax", laid_strconv_ErrSyntax)], narrowed := true }
def FnParseUintUptoSaid : Prop := fnParseUintUptoRow.holds Tryd.pinned (OpenSpec.upto fnParseUintSpec)

/-- 'laws.FnUnderscores', WHERE WHAT IT READS IS OF BULK AT MOST 1048576: true; the input reads as it did. -/
def fnUnderscoresUptoRow : OpenClaim := { program := "ytjjocdhgjbhnhaadoor", sum := "2e6aa0d8d399497bdfbcb436d357aa746dfdaa50fec5e9dc5b8cccf9b816f2e7", func := "loop.example/lib-g03226/laws.FnUnderscores", spec := "fnUnderscores", named := ["strconv.ErrSyntax", "strconv.ErrRange", "internal/strconv.uint64pow10", "math/bits.deBruijn32tab", "math/bits.deBruijn64tab"], apart := false, laid := [("math/bits.deBruijn32tab", laid_math_bits_deBruijn32tab), ("math/bits.deBruijn64tab", laid_math_bits_deBruijn64tab), ("internal/strconv.uint64pow10", laid_internal_strconv_uint64pow10), ("strconv.ErrRange", laid_strconv_ErrRange), ("strconv.ErrSyntax", laid_strconv_ErrSyntax)], narrowed := true }
def FnUnderscoresUptoSaid : Prop := fnUnderscoresUptoRow.holds Tryd.pinned (OpenSpec.upto fnUnderscoresSpec)

/-- 'laws.FnDigit', WHERE WHAT IT READS IS OF BULK AT MOST 1048576: true; the input reads as it did. -/
def fnDigitUptoRow : OpenClaim := { program := "ytjjocdhgjbhnhaadoor", sum := "2e6aa0d8d399497bdfbcb436d357aa746dfdaa50fec5e9dc5b8cccf9b816f2e7", func := "loop.example/lib-g03226/laws.FnDigit", spec := "fnDigit", named := ["internal/strconv.uint64pow10", "math/bits.deBruijn32tab", "math/bits.deBruijn64tab", "strconv.ErrSyntax", "strconv.ErrRange"], apart := false, laid := [("math/bits.deBruijn32tab", laid_math_bits_deBruijn32tab), ("math/bits.deBruijn64tab", laid_math_bits_deBruijn64tab), ("internal/strconv.uint64pow10", laid_internal_strconv_uint64pow10), ("strconv.ErrRange", laid_strconv_ErrRange), ("strconv.ErrSyntax", laid_strconv_ErrSyntax)], narrowed := true }
def FnDigitUptoSaid : Prop := fnDigitUptoRow.holds Tryd.pinned (OpenSpec.upto fnDigitSpec)

/-- 'laws.FnRoundUint', WHERE WHAT IT READS IS OF BULK AT MOST 1048576: true; the input reads as it did. -/
def fnRoundUintUptoRow : OpenClaim := { program := "ytjjocdhgjbhnhaadoor", sum := "2e6aa0d8d399497bdfbcb436d357aa746dfdaa50fec5e9dc5b8cccf9b816f2e7", func := "loop.example/lib-g03226/laws.FnRoundUint", spec := "fnRoundUint", named := ["internal/strconv.uint64pow10", "math/bits.deBruijn32tab", "math/bits.deBruijn64tab", "strconv.ErrSyntax", "strconv.ErrRange"], apart := false, laid := [("math/bits.deBruijn32tab", laid_math_bits_deBruijn32tab), ("math/bits.deBruijn64tab", laid_math_bits_deBruijn64tab), ("internal/strconv.uint64pow10", laid_internal_strconv_uint64pow10), ("strconv.ErrRange", laid_strconv_ErrRange), ("strconv.ErrSyntax", laid_strconv_ErrSyntax)], narrowed := true }
def FnRoundUintUptoSaid : Prop := fnRoundUintUptoRow.holds Tryd.pinned (OpenSpec.upto fnRoundUintSpec)

/-- 'laws.FnBits', WHERE WHAT IT READS IS OF BULK AT MOST 1048576: true; the input reads as it did. -/
def fnBitsUptoRow : OpenClaim := { program := "ytjjocdhgjbhnhaadoor", sum := "2e6aa0d8d399497bdfbcb436d357aa746dfdaa50fec5e9dc5b8cccf9b816f2e7", func := "loop.example/lib-g03226/laws.FnBits", spec := "fnBits", named := ["strconv.ErrSyntax", "strconv.ErrRange", "internal/strconv.uint64pow10", "math/bits.deBruijn32tab", "math/bits.deBruijn64tab"], apart := false, laid := [("math/bits.deBruijn32tab", laid_math_bits_deBruijn32tab), ("math/bits.deBruijn64tab", laid_math_bits_deBruijn64tab), ("internal/strconv.uint64pow10", laid_internal_strconv_uint64pow10), ("strconv.ErrRange", laid_strconv_ErrRange), ("strconv.ErrSyntax", laid_strconv_ErrSyntax)], narrowed := true }
def FnBitsUptoSaid : Prop := fnBitsUptoRow.holds Tryd.pinned (OpenSpec.upto fnBitsSpec)

/-- 'laws.FnParseInt', WHERE WHAT IT READS IS OF BULK AT MOST 1048576: true; the input reads as it did. -/
def fnParseIntUptoRow : OpenClaim := { program := "ytjjocdhgjbhnhaadoor", sum := "2e6aa0d8d399497bdfbcb436d357aa746dfdaa50fec5e9dc5b8cccf9b816f2e7", func := "loop.example/lib-g03226/laws.FnParseInt", spec := "fnParseInt", named := ["strconv.ErrSyntax", "strconv.ErrRange", "internal/strconv.uint64pow10", "math/bits.deBruijn32tab", "math/bits.deBruijn64tab"], apart := false, laid := [("math/bits.deBruijn32tab", laid_math_bits_deBruijn32tab), ("math/bits.deBruijn64tab", laid_math_bits_deBruijn64tab), ("internal/strconv.uint64pow10", laid_internal_strconv_uint64pow10), ("strconv.ErrRange", laid_strconv_ErrRange), ("strconv.ErrSyntax", laid_strconv_ErrSyntax)], narrowed := true }
def FnParseIntUptoSaid : Prop := fnParseIntUptoRow.holds Tryd.pinned (OpenSpec.upto fnParseIntSpec)

/-- 'laws.FnCanonical', WHERE WHAT IT READS IS OF BULK AT MOST 1048576: true; the input reads as it did. -/
def fnCanonicalUptoRow : OpenClaim := { program := "ytjjocdhgjbhnhaadoor", sum := "2e6aa0d8d399497bdfbcb436d357aa746dfdaa50fec5e9dc5b8cccf9b816f2e7", func := "loop.example/lib-g03226/laws.FnCanonical", spec := "fnCanonical", named := ["strconv.ErrSyntax", "strconv.ErrRange", "internal/strconv.uint64pow10", "math/bits.deBruijn32tab", "math/bits.deBruijn64tab"], apart := false, laid := [("math/bits.deBruijn32tab", laid_math_bits_deBruijn32tab), ("math/bits.deBruijn64tab", laid_math_bits_deBruijn64tab), ("internal/strconv.uint64pow10", laid_internal_strconv_uint64pow10), ("strconv.ErrRange", laid_strconv_ErrRange), ("strconv.ErrSyntax", laid_strconv_ErrSyntax)], narrowed := true }
def FnCanonicalUptoSaid : Prop := fnCanonicalUptoRow.holds Tryd.pinned (OpenSpec.upto fnCanonicalSpec)

/-- 'laws.FnRoundInt', WHERE WHAT IT READS IS OF BULK AT MOST 1048576: true; the input reads as it did. -/
def fnRoundIntUptoRow : OpenClaim := { program := "ytjjocdhgjbhnhaadoor", sum := "2e6aa0d8d399497bdfbcb436d357aa746dfdaa50fec5e9dc5b8cccf9b816f2e7", func := "loop.example/lib-g03226/laws.FnRoundInt", spec := "fnRoundInt", named := ["internal/strconv.uint64pow10", "math/bits.deBruijn32tab", "math/bits.deBruijn64tab", "strconv.ErrSyntax", "strconv.ErrRange"], apart := false, laid := [("math/bits.deBruijn32tab", laid_math_bits_deBruijn32tab), ("math/bits.deBruijn64tab", laid_math_bits_deBruijn64tab), ("internal/strconv.uint64pow10", laid_internal_strconv_uint64pow10), ("strconv.ErrRange", laid_strconv_ErrRange), ("strconv.ErrSyntax", laid_strconv_ErrSyntax)], narrowed := true }
def FnRoundIntUptoSaid : Prop := fnRoundIntUptoRow.holds Tryd.pinned (OpenSpec.upto fnRoundIntSpec)

end Rows
end Go.Proofs.YtjjocdhgjbhnhaaDoor
