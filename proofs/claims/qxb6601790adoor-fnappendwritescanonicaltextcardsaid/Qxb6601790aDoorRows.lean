/-
  NARROWER THAN 'FOR EVERY INPUT', by the rows' own cells (each row's printed sentence says how): FnAddToMagnitudeIsDecimalSum: laid · FnAddToMagnitudeSubtractingUndoes: laid · FnReadStrDecimalMatchesGrammarAndValue: laid · FnReadStrDecimalCanonicalTextIsFixedPoint: laid · FnReadStrDecimalLeadingZeroChangesNothing: laid · FnAppendWritesCanonicalText: laid · FnAppendTextReadsBackAsSameNumber: laid.
  DERIVED. THE GIVEN ROWS OF THIS SEAT. 7 by the template 'for every input the law returns true; each argument reads behind the call as it read before'; 0 by the template 'total and deterministic' (their statements: Qxb6601790aDoorTotals.lean).
  GIVEN WITH THE SEED: the statements are not yours to turn. If you find one false, say at which input.
  Laid BY PROGRAM, IN A SANDBOX (cutbox-rows.mjs): the forced cells as the released guide's own fill.sh prints them over the translation f08bd03be623a099… (all of the seat's roots in one cut). By AI agents, Wed Nov 11 2026. No macro, syntax, notation, axiom, sorry.
-/
import Derived.Test.Qxb6601790aDoorChecked
import GoSem.PinnedTables
import GoSem.Claim
import GoSem.ClaimJoined
import GoSem.ClaimMapViews
import Derived.JoinedTies
import Derived.KernelRfl
namespace Go.Proofs.Qxb6601790aDoor
/- THE CELL 'sum', in the pinned program and in every row, IS THE sha256 OF THE DUMP (.gsa) THAT Qxb6601790aDoorProg.lean LOADS. Nothing in Lean hashes anything: it is a label: what it is worth is what the hold of that sum in a sandbox is worth. -/
noncomputable def Tryd.pinned : Pinned := { name := "qxb6601790adoor", sum := "f08bd03be623a099b444170097a489d5af0f5372814f904bd7ebaaa67624a75e", checked := Tryd.checked }
namespace Rows
def none {H : Type} : Left H := { results := [], args := [] }

/- WHAT THE LISTED PACKAGE-LEVEL VARIABLES READ AS WHEN THE CALL BEGINS. Each datum BY PROGRAM (the guide's laid-datum.mjs) off the statement by which the dump's own 'gosem.cut.vars' lays the variable. In a bare row this is a premise. The card (Qxb6601790aDoorCards.lean) ties it to the program's text. -/
def laid_math_bits_deBruijn32tab {H : Type} : DataW H := .agg [.lit (.int .u8 0), .lit (.int .u8 1), .lit (.int .u8 28), .lit (.int .u8 2), .lit (.int .u8 29), .lit (.int .u8 14), .lit (.int .u8 24), .lit (.int .u8 3), .lit (.int .u8 30), .lit (.int .u8 22), .lit (.int .u8 20), .lit (.int .u8 15), .lit (.int .u8 25), .lit (.int .u8 17), .lit (.int .u8 4), .lit (.int .u8 8), .lit (.int .u8 31), .lit (.int .u8 27), .lit (.int .u8 13), .lit (.int .u8 23), .lit (.int .u8 21), .lit (.int .u8 19), .lit (.int .u8 16), .lit (.int .u8 7), .lit (.int .u8 26), .lit (.int .u8 12), .lit (.int .u8 18), .lit (.int .u8 6), .lit (.int .u8 11), .lit (.int .u8 5), .lit (.int .u8 10), .lit (.int .u8 9)]
def laid_math_bits_deBruijn64tab {H : Type} : DataW H := .agg [.lit (.int .u8 0), .lit (.int .u8 1), .lit (.int .u8 56), .lit (.int .u8 2), .lit (.int .u8 57), .lit (.int .u8 49), .lit (.int .u8 28), .lit (.int .u8 3), .lit (.int .u8 61), .lit (.int .u8 58), .lit (.int .u8 42), .lit (.int .u8 50), .lit (.int .u8 38), .lit (.int .u8 29), .lit (.int .u8 17), .lit (.int .u8 4), .lit (.int .u8 62), .lit (.int .u8 47), .lit (.int .u8 59), .lit (.int .u8 36), .lit (.int .u8 45), .lit (.int .u8 43), .lit (.int .u8 51), .lit (.int .u8 22), .lit (.int .u8 53), .lit (.int .u8 39), .lit (.int .u8 33), .lit (.int .u8 30), .lit (.int .u8 24), .lit (.int .u8 18), .lit (.int .u8 12), .lit (.int .u8 5), .lit (.int .u8 63), .lit (.int .u8 55), .lit (.int .u8 48), .lit (.int .u8 27), .lit (.int .u8 60), .lit (.int .u8 41), .lit (.int .u8 37), .lit (.int .u8 16), .lit (.int .u8 46), .lit (.int .u8 35), .lit (.int .u8 44), .lit (.int .u8 21), .lit (.int .u8 52), .lit (.int .u8 32), .lit (.int .u8 23), .lit (.int .u8 11), .lit (.int .u8 54), .lit (.int .u8 26), .lit (.int .u8 40), .lit (.int .u8 15), .lit (.int .u8 34), .lit (.int .u8 20), .lit (.int .u8 31), .lit (.int .u8 10), .lit (.int .u8 25), .lit (.int .u8 14), .lit (.int .u8 19), .lit (.int .u8 9), .lit (.int .u8 13), .lit (.int .u8 8), .lit (.int .u8 7), .lit (.int .u8 6)]
def laid_internal_strconv_uint64pow10 {H : Type} : DataW H := .agg [.lit (.int .u64 1), .lit (.int .u64 10), .lit (.int .u64 100), .lit (.int .u64 1000), .lit (.int .u64 10000), .lit (.int .u64 100000), .lit (.int .u64 1000000), .lit (.int .u64 10000000), .lit (.int .u64 100000000), .lit (.int .u64 1000000000), .lit (.int .u64 10000000000), .lit (.int .u64 100000000000), .lit (.int .u64 1000000000000), .lit (.int .u64 10000000000000), .lit (.int .u64 100000000000000), .lit (.int .u64 1000000000000000), .lit (.int .u64 10000000000000000), .lit (.int .u64 100000000000000000), .lit (.int .u64 1000000000000000000), .lit (.int .u64 10000000000000000000)]
def laid_unicode_utf8_acceptRanges {H : Type} : DataW H := .agg [.agg [.lit (.int .u8 128), .lit (.int .u8 191)], .agg [.lit (.int .u8 160), .lit (.int .u8 191)], .agg [.lit (.int .u8 128), .lit (.int .u8 159)], .agg [.lit (.int .u8 144), .lit (.int .u8 191)], .agg [.lit (.int .u8 128), .lit (.int .u8 143)], .agg [.lit (.int .u8 0), .lit (.int .u8 0)], .agg [.lit (.int .u8 0), .lit (.int .u8 0)], .agg [.lit (.int .u8 0), .lit (.int .u8 0)], .agg [.lit (.int .u8 0), .lit (.int .u8 0)], .agg [.lit (.int .u8 0), .lit (.int .u8 0)], .agg [.lit (.int .u8 0), .lit (.int .u8 0)], .agg [.lit (.int .u8 0), .lit (.int .u8 0)], .agg [.lit (.int .u8 0), .lit (.int .u8 0)], .agg [.lit (.int .u8 0), .lit (.int .u8 0)], .agg [.lit (.int .u8 0), .lit (.int .u8 0)], .agg [.lit (.int .u8 0), .lit (.int .u8 0)]]
/-- One of Go's own tables, pinned by name: the form's constant. -/
def laid_unicode_utf8_first : DataW Unit := Go.Pinned.utf8First

/-- 'zzlaws_internal_decimal_b1.FnAddToMagnitudeIsDecimalSum': WHATEVER THE INPUT: true; the input reads as it did. -/
def fnAddToMagnitudeIsDecimalSumSpec : ChangeSpec := { name := "fnAddToMagnitudeIsDecimalSum", fn := fun _ => fun
  | [d1, d2] => { results := [.lit (.bool true)], args := [d1, d2] }
  | _ => none }
def fnAddToMagnitudeIsDecimalSumRow : OpenClaim := { program := "qxb6601790adoor", sum := "f08bd03be623a099b444170097a489d5af0f5372814f904bd7ebaaa67624a75e", func := "example.com/libusher/libusher/zzlaws_internal_decimal_b1.FnAddToMagnitudeIsDecimalSum", spec := "fnAddToMagnitudeIsDecimalSum", inPlace := ["internal/abi.NoEscape", "internal/bytealg.MakeNoZero", "internal/bytealg.IndexByteString", "internal/bytealg.IndexString"], named := ["internal/strconv.uint64pow10", "math/bits.deBruijn32tab", "math/bits.deBruijn64tab", "unicode/utf8.first", "unicode/utf8.acceptRanges", "internal/bytealg.MaxLen"], apart := false, laid := [("math/bits.deBruijn32tab", laid_math_bits_deBruijn32tab), ("math/bits.deBruijn64tab", laid_math_bits_deBruijn64tab), ("internal/strconv.uint64pow10", laid_internal_strconv_uint64pow10), ("unicode/utf8.acceptRanges", laid_unicode_utf8_acceptRanges), ("unicode/utf8.first", laid_unicode_utf8_first)] }
def FnAddToMagnitudeIsDecimalSumSaid : Prop := fnAddToMagnitudeIsDecimalSumRow.holds Tryd.pinned (OpenSpec.ofChange fnAddToMagnitudeIsDecimalSumSpec)

/-- ITS FALSE NEIGHBOUR: 'it returns false'. Refute it at one input. -/
def fnAddToMagnitudeIsDecimalSumWrong : ChangeSpec := { name := "fnAddToMagnitudeIsDecimalSum", fn := fun _ => fun
  | [d1, d2] => { results := [.lit (.bool false)], args := [d1, d2] }
  | _ => none }
def FnAddToMagnitudeIsDecimalSumWrongFalsely : Prop := fnAddToMagnitudeIsDecimalSumRow.holds Tryd.pinned (OpenSpec.ofChange fnAddToMagnitudeIsDecimalSumWrong)

/-- 'zzlaws_internal_decimal_b1.FnAddToMagnitudeSubtractingUndoes': WHATEVER THE INPUT: true; the input reads as it did. -/
def fnAddToMagnitudeSubtractingUndoesSpec : ChangeSpec := { name := "fnAddToMagnitudeSubtractingUndoes", fn := fun _ => fun
  | [d1, d2] => { results := [.lit (.bool true)], args := [d1, d2] }
  | _ => none }
def fnAddToMagnitudeSubtractingUndoesRow : OpenClaim := { program := "qxb6601790adoor", sum := "f08bd03be623a099b444170097a489d5af0f5372814f904bd7ebaaa67624a75e", func := "example.com/libusher/libusher/zzlaws_internal_decimal_b1.FnAddToMagnitudeSubtractingUndoes", spec := "fnAddToMagnitudeSubtractingUndoes", inPlace := ["internal/abi.NoEscape", "internal/bytealg.MakeNoZero", "internal/bytealg.IndexByteString", "internal/bytealg.IndexString"], named := ["internal/strconv.uint64pow10", "math/bits.deBruijn32tab", "math/bits.deBruijn64tab", "unicode/utf8.first", "unicode/utf8.acceptRanges", "internal/bytealg.MaxLen"], apart := false, laid := [("math/bits.deBruijn32tab", laid_math_bits_deBruijn32tab), ("math/bits.deBruijn64tab", laid_math_bits_deBruijn64tab), ("internal/strconv.uint64pow10", laid_internal_strconv_uint64pow10), ("unicode/utf8.acceptRanges", laid_unicode_utf8_acceptRanges), ("unicode/utf8.first", laid_unicode_utf8_first)] }
def FnAddToMagnitudeSubtractingUndoesSaid : Prop := fnAddToMagnitudeSubtractingUndoesRow.holds Tryd.pinned (OpenSpec.ofChange fnAddToMagnitudeSubtractingUndoesSpec)

/-- ITS FALSE NEIGHBOUR: 'it returns false'. Refute it at one input. -/
def fnAddToMagnitudeSubtractingUndoesWrong : ChangeSpec := { name := "fnAddToMagnitudeSubtractingUndoes", fn := fun _ => fun
  | [d1, d2] => { results := [.lit (.bool false)], args := [d1, d2] }
  | _ => none }
def FnAddToMagnitudeSubtractingUndoesWrongFalsely : Prop := fnAddToMagnitudeSubtractingUndoesRow.holds Tryd.pinned (OpenSpec.ofChange fnAddToMagnitudeSubtractingUndoesWrong)

/-- 'zzlaws_internal_decimal_b1.FnReadStrDecimalMatchesGrammarAndValue': WHATEVER THE INPUT: true; the input reads as it did. -/
def fnReadStrDecimalMatchesGrammarAndValueSpec : ChangeSpec := { name := "fnReadStrDecimalMatchesGrammarAndValue", fn := fun _ => fun
  | [d] => { results := [.lit (.bool true)], args := [d] }
  | _ => none }
def fnReadStrDecimalMatchesGrammarAndValueRow : OpenClaim := { program := "qxb6601790adoor", sum := "f08bd03be623a099b444170097a489d5af0f5372814f904bd7ebaaa67624a75e", func := "example.com/libusher/libusher/zzlaws_internal_decimal_b1.FnReadStrDecimalMatchesGrammarAndValue", spec := "fnReadStrDecimalMatchesGrammarAndValue", inPlace := ["internal/bytealg.IndexByteString", "internal/bytealg.IndexString", "internal/abi.NoEscape", "internal/bytealg.MakeNoZero"], named := ["unicode/utf8.first", "unicode/utf8.acceptRanges", "internal/strconv.uint64pow10", "math/bits.deBruijn32tab", "math/bits.deBruijn64tab", "internal/bytealg.MaxLen"], apart := false, laid := [("math/bits.deBruijn32tab", laid_math_bits_deBruijn32tab), ("math/bits.deBruijn64tab", laid_math_bits_deBruijn64tab), ("internal/strconv.uint64pow10", laid_internal_strconv_uint64pow10), ("unicode/utf8.acceptRanges", laid_unicode_utf8_acceptRanges), ("unicode/utf8.first", laid_unicode_utf8_first)] }
def FnReadStrDecimalMatchesGrammarAndValueSaid : Prop := fnReadStrDecimalMatchesGrammarAndValueRow.holds Tryd.pinned (OpenSpec.ofChange fnReadStrDecimalMatchesGrammarAndValueSpec)

/-- ITS FALSE NEIGHBOUR: 'it returns false'. Refute it at one input. -/
def fnReadStrDecimalMatchesGrammarAndValueWrong : ChangeSpec := { name := "fnReadStrDecimalMatchesGrammarAndValue", fn := fun _ => fun
  | [d] => { results := [.lit (.bool false)], args := [d] }
  | _ => none }
def FnReadStrDecimalMatchesGrammarAndValueWrongFalsely : Prop := fnReadStrDecimalMatchesGrammarAndValueRow.holds Tryd.pinned (OpenSpec.ofChange fnReadStrDecimalMatchesGrammarAndValueWrong)

/-- 'zzlaws_internal_decimal_b1.FnReadStrDecimalCanonicalTextIsFixedPoint': WHATEVER THE INPUT: true; the input reads as it did. -/
def fnReadStrDecimalCanonicalTextIsFixedPointSpec : ChangeSpec := { name := "fnReadStrDecimalCanonicalTextIsFixedPoint", fn := fun _ => fun
  | [d] => { results := [.lit (.bool true)], args := [d] }
  | _ => none }
def fnReadStrDecimalCanonicalTextIsFixedPointRow : OpenClaim := { program := "qxb6601790adoor", sum := "f08bd03be623a099b444170097a489d5af0f5372814f904bd7ebaaa67624a75e", func := "example.com/libusher/libusher/zzlaws_internal_decimal_b1.FnReadStrDecimalCanonicalTextIsFixedPoint", spec := "fnReadStrDecimalCanonicalTextIsFixedPoint", inPlace := ["internal/bytealg.IndexByteString", "internal/bytealg.IndexString", "internal/abi.NoEscape", "internal/bytealg.MakeNoZero"], named := ["unicode/utf8.first", "unicode/utf8.acceptRanges", "internal/strconv.uint64pow10", "math/bits.deBruijn32tab", "math/bits.deBruijn64tab", "internal/bytealg.MaxLen"], apart := false, laid := [("math/bits.deBruijn32tab", laid_math_bits_deBruijn32tab), ("math/bits.deBruijn64tab", laid_math_bits_deBruijn64tab), ("internal/strconv.uint64pow10", laid_internal_strconv_uint64pow10), ("unicode/utf8.acceptRanges", laid_unicode_utf8_acceptRanges), ("unicode/utf8.first", laid_unicode_utf8_first)] }
def FnReadStrDecimalCanonicalTextIsFixedPointSaid : Prop := fnReadStrDecimalCanonicalTextIsFixedPointRow.holds Tryd.pinned (OpenSpec.ofChange fnReadStrDecimalCanonicalTextIsFixedPointSpec)

/-- ITS FALSE NEIGHBOUR: 'it returns false'. Refute it at one input. -/
def fnReadStrDecimalCanonicalTextIsFixedPointWrong : ChangeSpec := { name := "fnReadStrDecimalCanonicalTextIsFixedPoint", fn := fun _ => fun
  | [d] => { results := [.lit (.bool false)], args := [d] }
  | _ => none }
def FnReadStrDecimalCanonicalTextIsFixedPointWrongFalsely : Prop := fnReadStrDecimalCanonicalTextIsFixedPointRow.holds Tryd.pinned (OpenSpec.ofChange fnReadStrDecimalCanonicalTextIsFixedPointWrong)

/-- 'zzlaws_internal_decimal_b1.FnReadStrDecimalLeadingZeroChangesNothing': WHATEVER THE INPUT: true; the input reads as it did. -/
def fnReadStrDecimalLeadingZeroChangesNothingSpec : ChangeSpec := { name := "fnReadStrDecimalLeadingZeroChangesNothing", fn := fun _ => fun
  | [d] => { results := [.lit (.bool true)], args := [d] }
  | _ => none }
def fnReadStrDecimalLeadingZeroChangesNothingRow : OpenClaim := { program := "qxb6601790adoor", sum := "f08bd03be623a099b444170097a489d5af0f5372814f904bd7ebaaa67624a75e", func := "example.com/libusher/libusher/zzlaws_internal_decimal_b1.FnReadStrDecimalLeadingZeroChangesNothing", spec := "fnReadStrDecimalLeadingZeroChangesNothing", inPlace := ["internal/bytealg.IndexByteString", "internal/bytealg.IndexString", "internal/abi.NoEscape", "internal/bytealg.MakeNoZero"], named := ["unicode/utf8.first", "unicode/utf8.acceptRanges", "internal/strconv.uint64pow10", "math/bits.deBruijn32tab", "math/bits.deBruijn64tab", "internal/bytealg.MaxLen"], apart := false, laid := [("math/bits.deBruijn32tab", laid_math_bits_deBruijn32tab), ("math/bits.deBruijn64tab", laid_math_bits_deBruijn64tab), ("internal/strconv.uint64pow10", laid_internal_strconv_uint64pow10), ("unicode/utf8.acceptRanges", laid_unicode_utf8_acceptRanges), ("unicode/utf8.first", laid_unicode_utf8_first)] }
def FnReadStrDecimalLeadingZeroChangesNothingSaid : Prop := fnReadStrDecimalLeadingZeroChangesNothingRow.holds Tryd.pinned (OpenSpec.ofChange fnReadStrDecimalLeadingZeroChangesNothingSpec)

/-- ITS FALSE NEIGHBOUR: 'it returns false'. Refute it at one input. -/
def fnReadStrDecimalLeadingZeroChangesNothingWrong : ChangeSpec := { name := "fnReadStrDecimalLeadingZeroChangesNothing", fn := fun _ => fun
  | [d] => { results := [.lit (.bool false)], args := [d] }
  | _ => none }
def FnReadStrDecimalLeadingZeroChangesNothingWrongFalsely : Prop := fnReadStrDecimalLeadingZeroChangesNothingRow.holds Tryd.pinned (OpenSpec.ofChange fnReadStrDecimalLeadingZeroChangesNothingWrong)

/-- 'zzlaws_internal_decimal_b1.FnAppendWritesCanonicalText': WHATEVER THE INPUT: true; the input reads as it did. -/
def fnAppendWritesCanonicalTextSpec : ChangeSpec := { name := "fnAppendWritesCanonicalText", fn := fun _ => fun
  | [d1, d2, d3, d4, d5, d6] => { results := [.lit (.bool true)], args := [d1, d2, d3, d4, d5, d6] }
  | _ => none }
def fnAppendWritesCanonicalTextRow : OpenClaim := { program := "qxb6601790adoor", sum := "f08bd03be623a099b444170097a489d5af0f5372814f904bd7ebaaa67624a75e", func := "example.com/libusher/libusher/zzlaws_internal_decimal_b1.FnAppendWritesCanonicalText", spec := "fnAppendWritesCanonicalText", inPlace := ["internal/bytealg.IndexByteString", "internal/bytealg.IndexString", "internal/abi.NoEscape", "internal/bytealg.MakeNoZero"], named := ["unicode/utf8.first", "unicode/utf8.acceptRanges", "internal/strconv.uint64pow10", "math/bits.deBruijn32tab", "math/bits.deBruijn64tab", "internal/bytealg.MaxLen"], apart := false, laid := [("math/bits.deBruijn32tab", laid_math_bits_deBruijn32tab), ("math/bits.deBruijn64tab", laid_math_bits_deBruijn64tab), ("internal/strconv.uint64pow10", laid_internal_strconv_uint64pow10), ("unicode/utf8.acceptRanges", laid_unicode_utf8_acceptRanges), ("unicode/utf8.first", laid_unicode_utf8_first)] }
def FnAppendWritesCanonicalTextSaid : Prop := fnAppendWritesCanonicalTextRow.holds Tryd.pinned (OpenSpec.ofChange fnAppendWritesCanonicalTextSpec)

/-- ITS FALSE NEIGHBOUR: 'it returns false'. Refute it at one input. -/
def fnAppendWritesCanonicalTextWrong : ChangeSpec := { name := "fnAppendWritesCanonicalText", fn := fun _ => fun
  | [d1, d2, d3, d4, d5, d6] => { results := [.lit (.bool false)], args := [d1, d2, d3, d4, d5, d6] }
  | _ => none }
def FnAppendWritesCanonicalTextWrongFalsely : Prop := fnAppendWritesCanonicalTextRow.holds Tryd.pinned (OpenSpec.ofChange fnAppendWritesCanonicalTextWrong)

/-- 'zzlaws_internal_decimal_b1.FnAppendTextReadsBackAsSameNumber': WHATEVER THE INPUT: true; the input reads as it did. -/
def fnAppendTextReadsBackAsSameNumberSpec : ChangeSpec := { name := "fnAppendTextReadsBackAsSameNumber", fn := fun _ => fun
  | [d1, d2, d3, d4] => { results := [.lit (.bool true)], args := [d1, d2, d3, d4] }
  | _ => none }
def fnAppendTextReadsBackAsSameNumberRow : OpenClaim := { program := "qxb6601790adoor", sum := "f08bd03be623a099b444170097a489d5af0f5372814f904bd7ebaaa67624a75e", func := "example.com/libusher/libusher/zzlaws_internal_decimal_b1.FnAppendTextReadsBackAsSameNumber", spec := "fnAppendTextReadsBackAsSameNumber", inPlace := ["internal/bytealg.IndexByteString", "internal/bytealg.IndexString", "internal/abi.NoEscape", "internal/bytealg.MakeNoZero"], named := ["unicode/utf8.first", "unicode/utf8.acceptRanges", "internal/strconv.uint64pow10", "math/bits.deBruijn32tab", "math/bits.deBruijn64tab", "internal/bytealg.MaxLen"], apart := false, laid := [("math/bits.deBruijn32tab", laid_math_bits_deBruijn32tab), ("math/bits.deBruijn64tab", laid_math_bits_deBruijn64tab), ("internal/strconv.uint64pow10", laid_internal_strconv_uint64pow10), ("unicode/utf8.acceptRanges", laid_unicode_utf8_acceptRanges), ("unicode/utf8.first", laid_unicode_utf8_first)] }
def FnAppendTextReadsBackAsSameNumberSaid : Prop := fnAppendTextReadsBackAsSameNumberRow.holds Tryd.pinned (OpenSpec.ofChange fnAppendTextReadsBackAsSameNumberSpec)

/-- ITS FALSE NEIGHBOUR: 'it returns false'. Refute it at one input. -/
def fnAppendTextReadsBackAsSameNumberWrong : ChangeSpec := { name := "fnAppendTextReadsBackAsSameNumber", fn := fun _ => fun
  | [d1, d2, d3, d4] => { results := [.lit (.bool false)], args := [d1, d2, d3, d4] }
  | _ => none }
def FnAppendTextReadsBackAsSameNumberWrongFalsely : Prop := fnAppendTextReadsBackAsSameNumberRow.holds Tryd.pinned (OpenSpec.ofChange fnAppendTextReadsBackAsSameNumberWrong)

end Rows
end Go.Proofs.Qxb6601790aDoor
