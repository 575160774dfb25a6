/-
  NARROWER THAN 'FOR EVERY INPUT', by the rows' own cells (each row's printed sentence says how): FnJSClosed: laid · FnJSSmall: laid · FnJSStart: laid · FnJSWrong: laid · FnJSBlanks: laid · FnJSTokens: laid · FnJSRaws: laid · FnJSAgain: laid · FnJSPlain: laid · FnJSLess: laid · FnJSTexts: laid · FnJSParsed: laid · FnJSInts: laid.
  DERIVED. THE GIVEN ROWS OF THIS SEAT. 13 by the template 'for every input the law returns true; each argument reads behind the call as it read before'; 0 by the template 'total and deterministic' (their statements: YtekmminmgjoabaaDoorTotals.lean).
  GIVEN WITH THE SEED: the statements are not yours to turn. If you find one false, say at which input.
  Laid BY PROGRAM, IN A SANDBOX (cutbox-rows.mjs): the forced cells as the released guide's own fill.sh prints them over the translation 1a6db66c5efdd5a6… (all of the seat's roots in one cut). By AI agents, Wed Nov 11 2026. No macro, syntax, notation, axiom, sorry.
-/
import Derived.Test.YtekmminmgjoabaaDoorChecked
import GoSem.PinnedTables
import GoSem.Claim
import GoSem.ClaimJoined
import GoSem.ClaimMapViews
import Derived.JoinedTies
import Derived.KernelRfl
namespace Go.Proofs.YtekmminmgjoabaaDoor
/- THE CELL 'sum', in the pinned program and in every row, IS THE sha256 OF THE DUMP (.gsa) THAT YtekmminmgjoabaaDoorProg.lean LOADS. Nothing in Lean hashes anything: it is a label: what it is worth is what the hold of that sum in a sandbox is worth. -/
noncomputable def Tryd.pinned : Pinned := { name := "ytekmminmgjoabaadoor", sum := "1a6db66c5efdd5a64661c39922a1f4a99ffc2f3d4581068d4195950fe8dc815e", checked := Tryd.checked }
namespace Rows
def none {H : Type} : Left H := { results := [], args := [] }

/- WHAT THE LISTED PACKAGE-LEVEL VARIABLES READ AS WHEN THE CALL BEGINS. Each datum BY PROGRAM (the guide's laid-datum.mjs) off the statement by which the dump's own 'gosem.cut.vars' lays the variable. In a bare row this is a premise. The card (YtekmminmgjoabaaDoorCards.lean) ties it to the program's text. -/
def laid_math_bits_deBruijn64tab {H : Type} : DataW H := .agg [.lit (.int .u8 0), .lit (.int .u8 1), .lit (.int .u8 56), .lit (.int .u8 2), .lit (.int .u8 57), .lit (.int .u8 49), .lit (.int .u8 28), .lit (.int .u8 3), .lit (.int .u8 61), .lit (.int .u8 58), .lit (.int .u8 42), .lit (.int .u8 50), .lit (.int .u8 38), .lit (.int .u8 29), .lit (.int .u8 17), .lit (.int .u8 4), .lit (.int .u8 62), .lit (.int .u8 47), .lit (.int .u8 59), .lit (.int .u8 36), .lit (.int .u8 45), .lit (.int .u8 43), .lit (.int .u8 51), .lit (.int .u8 22), .lit (.int .u8 53), .lit (.int .u8 39), .lit (.int .u8 33), .lit (.int .u8 30), .lit (.int .u8 24), .lit (.int .u8 18), .lit (.int .u8 12), .lit (.int .u8 5), .lit (.int .u8 63), .lit (.int .u8 55), .lit (.int .u8 48), .lit (.int .u8 27), .lit (.int .u8 60), .lit (.int .u8 41), .lit (.int .u8 37), .lit (.int .u8 16), .lit (.int .u8 46), .lit (.int .u8 35), .lit (.int .u8 44), .lit (.int .u8 21), .lit (.int .u8 52), .lit (.int .u8 32), .lit (.int .u8 23), .lit (.int .u8 11), .lit (.int .u8 54), .lit (.int .u8 26), .lit (.int .u8 40), .lit (.int .u8 15), .lit (.int .u8 34), .lit (.int .u8 20), .lit (.int .u8 31), .lit (.int .u8 10), .lit (.int .u8 25), .lit (.int .u8 14), .lit (.int .u8 19), .lit (.int .u8 9), .lit (.int .u8 13), .lit (.int .u8 8), .lit (.int .u8 7), .lit (.int .u8 6)]
def laid_unicode_utf8_acceptRanges {H : Type} : DataW H := .agg [.agg [.lit (.int .u8 128), .lit (.int .u8 191)], .agg [.lit (.int .u8 160), .lit (.int .u8 191)], .agg [.lit (.int .u8 128), .lit (.int .u8 159)], .agg [.lit (.int .u8 144), .lit (.int .u8 191)], .agg [.lit (.int .u8 128), .lit (.int .u8 143)], .agg [.lit (.int .u8 0), .lit (.int .u8 0)], .agg [.lit (.int .u8 0), .lit (.int .u8 0)], .agg [.lit (.int .u8 0), .lit (.int .u8 0)], .agg [.lit (.int .u8 0), .lit (.int .u8 0)], .agg [.lit (.int .u8 0), .lit (.int .u8 0)], .agg [.lit (.int .u8 0), .lit (.int .u8 0)], .agg [.lit (.int .u8 0), .lit (.int .u8 0)], .agg [.lit (.int .u8 0), .lit (.int .u8 0)], .agg [.lit (.int .u8 0), .lit (.int .u8 0)], .agg [.lit (.int .u8 0), .lit (.int .u8 0)], .agg [.lit (.int .u8 0), .lit (.int .u8 0)]]
/-- One of Go's own tables, pinned by name: the form's constant. -/
def laid_unicode_utf8_first : DataW Unit := Go.Pinned.utf8First
def laid_math_bits_deBruijn32tab {H : Type} : DataW H := .agg [.lit (.int .u8 0), .lit (.int .u8 1), .lit (.int .u8 28), .lit (.int .u8 2), .lit (.int .u8 29), .lit (.int .u8 14), .lit (.int .u8 24), .lit (.int .u8 3), .lit (.int .u8 30), .lit (.int .u8 22), .lit (.int .u8 20), .lit (.int .u8 15), .lit (.int .u8 25), .lit (.int .u8 17), .lit (.int .u8 4), .lit (.int .u8 8), .lit (.int .u8 31), .lit (.int .u8 27), .lit (.int .u8 13), .lit (.int .u8 23), .lit (.int .u8 21), .lit (.int .u8 19), .lit (.int .u8 16), .lit (.int .u8 7), .lit (.int .u8 26), .lit (.int .u8 12), .lit (.int .u8 18), .lit (.int .u8 6), .lit (.int .u8 11), .lit (.int .u8 5), .lit (.int .u8 10), .lit (.int .u8 9)]
def laid_internal_strconv_uint64pow10 {H : Type} : DataW H := .agg [.lit (.int .u64 1), .lit (.int .u64 10), .lit (.int .u64 100), .lit (.int .u64 1000), .lit (.int .u64 10000), .lit (.int .u64 100000), .lit (.int .u64 1000000), .lit (.int .u64 10000000), .lit (.int .u64 100000000), .lit (.int .u64 1000000000), .lit (.int .u64 10000000000), .lit (.int .u64 100000000000), .lit (.int .u64 1000000000000), .lit (.int .u64 10000000000000), .lit (.int .u64 100000000000000), .lit (.int .u64 1000000000000000), .lit (.int .u64 10000000000000000), .lit (.int .u64 100000000000000000), .lit (.int .u64 1000000000000000000), .lit (.int .u64 10000000000000000000)]

/-- 'laws.FnJSClosed': WHATEVER THE INPUT: true; the input reads as it did. -/
def fnJSClosedSpec : ChangeSpec := { name := "fnJSClosed", fn := fun _ => fun
  | [d1, d2] => { results := [.lit (.bool true)], args := [d1, d2] }
  | _ => none }
def fnJSClosedRow : OpenClaim := { program := "ytekmminmgjoabaadoor", sum := "1a6db66c5efdd5a64661c39922a1f4a99ffc2f3d4581068d4195950fe8dc815e", func := "given.example/pub-burnisher/laws.FnJSClosed", spec := "fnJSClosed", inPlace := ["internal/bytealg.IndexByte"], recurses := true, named := ["encoding/binary.LittleEndian", "math/bits.deBruijn64tab"], apart := false, laid := [("math/bits.deBruijn64tab", laid_math_bits_deBruijn64tab)] }
def FnJSClosedSaid : Prop := fnJSClosedRow.holds Tryd.pinned (OpenSpec.ofChange fnJSClosedSpec)

/-- ITS FALSE NEIGHBOUR: 'it returns false'. Refute it at one input. -/
def fnJSClosedWrong : ChangeSpec := { name := "fnJSClosed", fn := fun _ => fun
  | [d1, d2] => { results := [.lit (.bool false)], args := [d1, d2] }
  | _ => none }
def FnJSClosedWrongFalsely : Prop := fnJSClosedRow.holds Tryd.pinned (OpenSpec.ofChange fnJSClosedWrong)

/-- 'laws.FnJSSmall': WHATEVER THE INPUT: true; the input reads as it did. -/
def fnJSSmallSpec : ChangeSpec := { name := "fnJSSmall", fn := fun _ => fun
  | [d1, d2] => { results := [.lit (.bool true)], args := [d1, d2] }
  | _ => none }
def fnJSSmallRow : OpenClaim := { program := "ytekmminmgjoabaadoor", sum := "1a6db66c5efdd5a64661c39922a1f4a99ffc2f3d4581068d4195950fe8dc815e", func := "given.example/pub-burnisher/laws.FnJSSmall", spec := "fnJSSmall", inPlace := ["internal/bytealg.IndexByte"], recurses := true, named := ["encoding/binary.LittleEndian", "math/bits.deBruijn64tab"], apart := false, laid := [("math/bits.deBruijn64tab", laid_math_bits_deBruijn64tab)] }
def FnJSSmallSaid : Prop := fnJSSmallRow.holds Tryd.pinned (OpenSpec.ofChange fnJSSmallSpec)

/-- ITS FALSE NEIGHBOUR: 'it returns false'. Refute it at one input. -/
def fnJSSmallWrong : ChangeSpec := { name := "fnJSSmall", fn := fun _ => fun
  | [d1, d2] => { results := [.lit (.bool false)], args := [d1, d2] }
  | _ => none }
def FnJSSmallWrongFalsely : Prop := fnJSSmallRow.holds Tryd.pinned (OpenSpec.ofChange fnJSSmallWrong)

/-- 'laws.FnJSStart': WHATEVER THE INPUT: true; the input reads as it did. -/
def fnJSStartSpec : ChangeSpec := { name := "fnJSStart", fn := fun _ => fun
  | [d1, d2, d3] => { results := [.lit (.bool true)], args := [d1, d2, d3] }
  | _ => none }
def fnJSStartRow : OpenClaim := { program := "ytekmminmgjoabaadoor", sum := "1a6db66c5efdd5a64661c39922a1f4a99ffc2f3d4581068d4195950fe8dc815e", func := "given.example/pub-burnisher/laws.FnJSStart", spec := "fnJSStart", inPlace := ["internal/bytealg.IndexByte"], recurses := true, named := ["encoding/binary.LittleEndian", "math/bits.deBruijn64tab"], apart := false, laid := [("math/bits.deBruijn64tab", laid_math_bits_deBruijn64tab)] }
def FnJSStartSaid : Prop := fnJSStartRow.holds Tryd.pinned (OpenSpec.ofChange fnJSStartSpec)

/-- ITS FALSE NEIGHBOUR: 'it returns false'. Refute it at one input. -/
def fnJSStartWrong : ChangeSpec := { name := "fnJSStart", fn := fun _ => fun
  | [d1, d2, d3] => { results := [.lit (.bool false)], args := [d1, d2, d3] }
  | _ => none }
def FnJSStartWrongFalsely : Prop := fnJSStartRow.holds Tryd.pinned (OpenSpec.ofChange fnJSStartWrong)

/-- 'laws.FnJSWrong': WHATEVER THE INPUT: true; the input reads as it did. -/
def fnJSWrongSpec : ChangeSpec := { name := "fnJSWrong", fn := fun _ => fun
  | [d1, d2] => { results := [.lit (.bool true)], args := [d1, d2] }
  | _ => none }
def fnJSWrongRow : OpenClaim := { program := "ytekmminmgjoabaadoor", sum := "1a6db66c5efdd5a64661c39922a1f4a99ffc2f3d4581068d4195950fe8dc815e", func := "given.example/pub-burnisher/laws.FnJSWrong", spec := "fnJSWrong", inPlace := ["internal/bytealg.IndexByte"], recurses := true, named := ["encoding/binary.LittleEndian", "math/bits.deBruijn64tab"], apart := false, laid := [("math/bits.deBruijn64tab", laid_math_bits_deBruijn64tab)] }
def FnJSWrongSaid : Prop := fnJSWrongRow.holds Tryd.pinned (OpenSpec.ofChange fnJSWrongSpec)

/-- ITS FALSE NEIGHBOUR: 'it returns false'. Refute it at one input. -/
def fnJSWrongWrong : ChangeSpec := { name := "fnJSWrong", fn := fun _ => fun
  | [d1, d2] => { results := [.lit (.bool false)], args := [d1, d2] }
  | _ => none }
def FnJSWrongWrongFalsely : Prop := fnJSWrongRow.holds Tryd.pinned (OpenSpec.ofChange fnJSWrongWrong)

/-- 'laws.FnJSBlanks': WHATEVER THE INPUT: true; the input reads as it did. -/
def fnJSBlanksSpec : ChangeSpec := { name := "fnJSBlanks", fn := fun _ => fun
  | [d1, d2] => { results := [.lit (.bool true)], args := [d1, d2] }
  | _ => none }
def fnJSBlanksRow : OpenClaim := { program := "ytekmminmgjoabaadoor", sum := "1a6db66c5efdd5a64661c39922a1f4a99ffc2f3d4581068d4195950fe8dc815e", func := "given.example/pub-burnisher/laws.FnJSBlanks", spec := "fnJSBlanks", inPlace := ["internal/bytealg.IndexByte"], unfollowed := true, recurses := true, named := ["encoding/binary.LittleEndian", "math/bits.deBruijn64tab"], apart := false, laid := [("math/bits.deBruijn64tab", laid_math_bits_deBruijn64tab)] }
def FnJSBlanksSaid : Prop := fnJSBlanksRow.holds Tryd.pinned (OpenSpec.ofChange fnJSBlanksSpec)

/-- ITS FALSE NEIGHBOUR: 'it returns false'. Refute it at one input. -/
def fnJSBlanksWrong : ChangeSpec := { name := "fnJSBlanks", fn := fun _ => fun
  | [d1, d2] => { results := [.lit (.bool false)], args := [d1, d2] }
  | _ => none }
def FnJSBlanksWrongFalsely : Prop := fnJSBlanksRow.holds Tryd.pinned (OpenSpec.ofChange fnJSBlanksWrong)

/-- 'laws.FnJSTokens': WHATEVER THE INPUT: true; the input reads as it did. -/
def fnJSTokensSpec : ChangeSpec := { name := "fnJSTokens", fn := fun _ => fun
  | [d1, d2] => { results := [.lit (.bool true)], args := [d1, d2] }
  | _ => none }
def fnJSTokensRow : OpenClaim := { program := "ytekmminmgjoabaadoor", sum := "1a6db66c5efdd5a64661c39922a1f4a99ffc2f3d4581068d4195950fe8dc815e", func := "given.example/pub-burnisher/laws.FnJSTokens", spec := "fnJSTokens", inPlace := ["internal/bytealg.IndexByte"], unfollowed := true, recurses := true, named := ["encoding/binary.LittleEndian", "math/bits.deBruijn64tab"], apart := false, laid := [("math/bits.deBruijn64tab", laid_math_bits_deBruijn64tab)] }
def FnJSTokensSaid : Prop := fnJSTokensRow.holds Tryd.pinned (OpenSpec.ofChange fnJSTokensSpec)

/-- ITS FALSE NEIGHBOUR: 'it returns false'. Refute it at one input. -/
def fnJSTokensWrong : ChangeSpec := { name := "fnJSTokens", fn := fun _ => fun
  | [d1, d2] => { results := [.lit (.bool false)], args := [d1, d2] }
  | _ => none }
def FnJSTokensWrongFalsely : Prop := fnJSTokensRow.holds Tryd.pinned (OpenSpec.ofChange fnJSTokensWrong)

/-- 'laws.FnJSRaws': WHATEVER THE INPUT: true; the input reads as it did. -/
def fnJSRawsSpec : ChangeSpec := { name := "fnJSRaws", fn := fun _ => fun
  | [d] => { results := [.lit (.bool true)], args := [d] }
  | _ => none }
def fnJSRawsRow : OpenClaim := { program := "ytekmminmgjoabaadoor", sum := "1a6db66c5efdd5a64661c39922a1f4a99ffc2f3d4581068d4195950fe8dc815e", func := "given.example/pub-burnisher/laws.FnJSRaws", spec := "fnJSRaws", inPlace := ["internal/bytealg.IndexByte"], recurses := true, named := ["encoding/binary.LittleEndian", "math/bits.deBruijn64tab"], apart := false, laid := [("math/bits.deBruijn64tab", laid_math_bits_deBruijn64tab)] }
def FnJSRawsSaid : Prop := fnJSRawsRow.holds Tryd.pinned (OpenSpec.ofChange fnJSRawsSpec)

/-- ITS FALSE NEIGHBOUR: 'it returns false'. Refute it at one input. -/
def fnJSRawsWrong : ChangeSpec := { name := "fnJSRaws", fn := fun _ => fun
  | [d] => { results := [.lit (.bool false)], args := [d] }
  | _ => none }
def FnJSRawsWrongFalsely : Prop := fnJSRawsRow.holds Tryd.pinned (OpenSpec.ofChange fnJSRawsWrong)

/-- 'laws.FnJSAgain': WHATEVER THE INPUT: true; the input reads as it did. -/
def fnJSAgainSpec : ChangeSpec := { name := "fnJSAgain", fn := fun _ => fun
  | [d1, d2, d3] => { results := [.lit (.bool true)], args := [d1, d2, d3] }
  | _ => none }
def fnJSAgainRow : OpenClaim := { program := "ytekmminmgjoabaadoor", sum := "1a6db66c5efdd5a64661c39922a1f4a99ffc2f3d4581068d4195950fe8dc815e", func := "given.example/pub-burnisher/laws.FnJSAgain", spec := "fnJSAgain", inPlace := ["internal/bytealg.IndexByte"], recurses := true, named := ["encoding/binary.LittleEndian", "math/bits.deBruijn64tab"], apart := false, laid := [("math/bits.deBruijn64tab", laid_math_bits_deBruijn64tab)] }
def FnJSAgainSaid : Prop := fnJSAgainRow.holds Tryd.pinned (OpenSpec.ofChange fnJSAgainSpec)

/-- ITS FALSE NEIGHBOUR: 'it returns false'. Refute it at one input. -/
def fnJSAgainWrong : ChangeSpec := { name := "fnJSAgain", fn := fun _ => fun
  | [d1, d2, d3] => { results := [.lit (.bool false)], args := [d1, d2, d3] }
  | _ => none }
def FnJSAgainWrongFalsely : Prop := fnJSAgainRow.holds Tryd.pinned (OpenSpec.ofChange fnJSAgainWrong)

/-- 'laws.FnJSPlain': WHATEVER THE INPUT: true; the input reads as it did. -/
def fnJSPlainSpec : ChangeSpec := { name := "fnJSPlain", fn := fun _ => fun
  | [d1, d2] => { results := [.lit (.bool true)], args := [d1, d2] }
  | _ => none }
def fnJSPlainRow : OpenClaim := { program := "ytekmminmgjoabaadoor", sum := "1a6db66c5efdd5a64661c39922a1f4a99ffc2f3d4581068d4195950fe8dc815e", func := "given.example/pub-burnisher/laws.FnJSPlain", spec := "fnJSPlain", inPlace := ["internal/bytealg.IndexByte"], named := ["encoding/binary.LittleEndian", "math/bits.deBruijn64tab"], apart := false, laid := [("math/bits.deBruijn64tab", laid_math_bits_deBruijn64tab)] }
def FnJSPlainSaid : Prop := fnJSPlainRow.holds Tryd.pinned (OpenSpec.ofChange fnJSPlainSpec)

/-- ITS FALSE NEIGHBOUR: 'it returns false'. Refute it at one input. -/
def fnJSPlainWrong : ChangeSpec := { name := "fnJSPlain", fn := fun _ => fun
  | [d1, d2] => { results := [.lit (.bool false)], args := [d1, d2] }
  | _ => none }
def FnJSPlainWrongFalsely : Prop := fnJSPlainRow.holds Tryd.pinned (OpenSpec.ofChange fnJSPlainWrong)

/-- 'laws.FnJSLess': WHATEVER THE INPUT: true; the input reads as it did. -/
def fnJSLessSpec : ChangeSpec := { name := "fnJSLess", fn := fun _ => fun
  | [d1, d2] => { results := [.lit (.bool true)], args := [d1, d2] }
  | _ => none }
def fnJSLessRow : OpenClaim := { program := "ytekmminmgjoabaadoor", sum := "1a6db66c5efdd5a64661c39922a1f4a99ffc2f3d4581068d4195950fe8dc815e", func := "given.example/pub-burnisher/laws.FnJSLess", spec := "fnJSLess", inPlace := ["internal/bytealg.IndexByte"], recurses := true, named := ["encoding/binary.LittleEndian", "math/bits.deBruijn64tab"], apart := false, laid := [("math/bits.deBruijn64tab", laid_math_bits_deBruijn64tab)] }
def FnJSLessSaid : Prop := fnJSLessRow.holds Tryd.pinned (OpenSpec.ofChange fnJSLessSpec)

/-- ITS FALSE NEIGHBOUR: 'it returns false'. Refute it at one input. -/
def fnJSLessWrong : ChangeSpec := { name := "fnJSLess", fn := fun _ => fun
  | [d1, d2] => { results := [.lit (.bool false)], args := [d1, d2] }
  | _ => none }
def FnJSLessWrongFalsely : Prop := fnJSLessRow.holds Tryd.pinned (OpenSpec.ofChange fnJSLessWrong)

/-- 'laws.FnJSTexts': WHATEVER THE INPUT: true; the input reads as it did. -/
def fnJSTextsSpec : ChangeSpec := { name := "fnJSTexts", fn := fun _ => fun
  | [d1, d2] => { results := [.lit (.bool true)], args := [d1, d2] }
  | _ => none }
def fnJSTextsRow : OpenClaim := { program := "ytekmminmgjoabaadoor", sum := "1a6db66c5efdd5a64661c39922a1f4a99ffc2f3d4581068d4195950fe8dc815e", func := "given.example/pub-burnisher/laws.FnJSTexts", spec := "fnJSTexts", inPlace := ["internal/bytealg.IndexByte"], unfollowed := true, recurses := true, named := ["encoding/binary.LittleEndian", "math/bits.deBruijn64tab"], apart := false, laid := [("math/bits.deBruijn64tab", laid_math_bits_deBruijn64tab)] }
def FnJSTextsSaid : Prop := fnJSTextsRow.holds Tryd.pinned (OpenSpec.ofChange fnJSTextsSpec)

/-- ITS FALSE NEIGHBOUR: 'it returns false'. Refute it at one input. -/
def fnJSTextsWrong : ChangeSpec := { name := "fnJSTexts", fn := fun _ => fun
  | [d1, d2] => { results := [.lit (.bool false)], args := [d1, d2] }
  | _ => none }
def FnJSTextsWrongFalsely : Prop := fnJSTextsRow.holds Tryd.pinned (OpenSpec.ofChange fnJSTextsWrong)

/-- 'laws.FnJSParsed': WHATEVER THE INPUT: true; the input reads as it did. -/
def fnJSParsedSpec : ChangeSpec := { name := "fnJSParsed", fn := fun _ => fun
  | [d1, d2, d3] => { results := [.lit (.bool true)], args := [d1, d2, d3] }
  | _ => none }
def fnJSParsedRow : OpenClaim := { program := "ytekmminmgjoabaadoor", sum := "1a6db66c5efdd5a64661c39922a1f4a99ffc2f3d4581068d4195950fe8dc815e", func := "given.example/pub-burnisher/laws.FnJSParsed", spec := "fnJSParsed", inPlace := ["internal/bytealg.MakeNoZero", "internal/bytealg.IndexByte"], recurses := true, named := ["encoding/binary.LittleEndian", "math/bits.deBruijn64tab", "unicode/utf8.first", "unicode/utf8.acceptRanges"], apart := false, laid := [("math/bits.deBruijn64tab", laid_math_bits_deBruijn64tab), ("unicode/utf8.acceptRanges", laid_unicode_utf8_acceptRanges), ("unicode/utf8.first", laid_unicode_utf8_first)] }
def FnJSParsedSaid : Prop := fnJSParsedRow.holds Tryd.pinned (OpenSpec.ofChange fnJSParsedSpec)

/-- ITS FALSE NEIGHBOUR: 'it returns false'. Refute it at one input. -/
def fnJSParsedWrong : ChangeSpec := { name := "fnJSParsed", fn := fun _ => fun
  | [d1, d2, d3] => { results := [.lit (.bool false)], args := [d1, d2, d3] }
  | _ => none }
def FnJSParsedWrongFalsely : Prop := fnJSParsedRow.holds Tryd.pinned (OpenSpec.ofChange fnJSParsedWrong)

/-- 'laws.FnJSInts': WHATEVER THE INPUT: true; the input reads as it did. -/
def fnJSIntsSpec : ChangeSpec := { name := "fnJSInts", fn := fun _ => fun
  | [d1, d2, d3] => { results := [.lit (.bool true)], args := [d1, d2, d3] }
  | _ => none }
def fnJSIntsRow : OpenClaim := { program := "ytekmminmgjoabaadoor", sum := "1a6db66c5efdd5a64661c39922a1f4a99ffc2f3d4581068d4195950fe8dc815e", func := "given.example/pub-burnisher/laws.FnJSInts", spec := "fnJSInts", inPlace := ["internal/bytealg.MakeNoZero", "internal/bytealg.IndexByte"], recurses := true, named := ["internal/strconv.uint64pow10", "math/bits.deBruijn32tab", "math/bits.deBruijn64tab", "encoding/binary.LittleEndian"], apart := false, laid := [("math/bits.deBruijn32tab", laid_math_bits_deBruijn32tab), ("math/bits.deBruijn64tab", laid_math_bits_deBruijn64tab), ("internal/strconv.uint64pow10", laid_internal_strconv_uint64pow10)] }
def FnJSIntsSaid : Prop := fnJSIntsRow.holds Tryd.pinned (OpenSpec.ofChange fnJSIntsSpec)

/-- ITS FALSE NEIGHBOUR: 'it returns false'. Refute it at one input. -/
def fnJSIntsWrong : ChangeSpec := { name := "fnJSInts", fn := fun _ => fun
  | [d1, d2, d3] => { results := [.lit (.bool false)], args := [d1, d2, d3] }
  | _ => none }
def FnJSIntsWrongFalsely : Prop := fnJSIntsRow.holds Tryd.pinned (OpenSpec.ofChange fnJSIntsWrong)

/- THE SECOND FORM. 'bulk': how many values and letters a reading holds, each counted each time it is reached (what is shared counts as often as it is met; a slice's spare places count too). A statement '..UptoSaid' is the law's where the arguments, and the package variables that the reading takes, are together of bulk at most 1048576: NARROWER than '..Said'. Prove '..Said' where nothing that the law and all that it calls make is longer than what came in: it says more and counts as full. Else prove '..UptoSaid'. A law counts once. -/
mutual
def uptoBulk {H : Type} : DataW H → Nat
  | .lit (.string bytes) => bytes.length + 1
  | .lit _ => 1
  | .nil => 1
  | .ptr d => uptoBulk d + 1
  | .slice elems spare => uptoBulkAll elems + uptoBulkAll spare + 1
  | .agg parts => uptoBulkAll parts + 1
  | .iface _ d => uptoBulk d + 1
  | .map entries => uptoBulkEntries entries + 1
  | .held _ => 1
def uptoBulkAll {H : Type} : List (DataW H) → Nat
  | [] => 0
  | d :: r => uptoBulk d + uptoBulkAll r
def uptoBulkEntries {H : Type} : List (Lit × DataW H) → Nat
  | [] => 0
  | x :: r => uptoBulkEntry x + uptoBulkEntries r
def uptoBulkEntry {H : Type} : Lit × DataW H → Nat
  | (.string bytes, d) => bytes.length + uptoBulk d + 1
  | (_, d) => uptoBulk d + 1
 end
def uptoSmall : (H : Type) → List (DataW H) → Bool := fun _ ds => decide (uptoBulkAll ds ≤ 1048576)
def OpenSpec.upto (s : _root_.Go.ChangeSpec) : _root_.Go.OpenSpec := { _root_.Go.OpenSpec.ofChange s with cond := some uptoSmall }

/-- 'laws.FnJSClosed', WHERE WHAT IT READS IS OF BULK AT MOST 1048576: true; the input reads as it did. -/
def fnJSClosedUptoRow : OpenClaim := { program := "ytekmminmgjoabaadoor", sum := "1a6db66c5efdd5a64661c39922a1f4a99ffc2f3d4581068d4195950fe8dc815e", func := "given.example/pub-burnisher/laws.FnJSClosed", spec := "fnJSClosed", inPlace := ["internal/bytealg.IndexByte"], recurses := true, named := ["encoding/binary.LittleEndian", "math/bits.deBruijn64tab"], apart := false, laid := [("math/bits.deBruijn64tab", laid_math_bits_deBruijn64tab)], narrowed := true }
def FnJSClosedUptoSaid : Prop := fnJSClosedUptoRow.holds Tryd.pinned (OpenSpec.upto fnJSClosedSpec)

/-- 'laws.FnJSSmall', WHERE WHAT IT READS IS OF BULK AT MOST 1048576: true; the input reads as it did. -/
def fnJSSmallUptoRow : OpenClaim := { program := "ytekmminmgjoabaadoor", sum := "1a6db66c5efdd5a64661c39922a1f4a99ffc2f3d4581068d4195950fe8dc815e", func := "given.example/pub-burnisher/laws.FnJSSmall", spec := "fnJSSmall", inPlace := ["internal/bytealg.IndexByte"], recurses := true, named := ["encoding/binary.LittleEndian", "math/bits.deBruijn64tab"], apart := false, laid := [("math/bits.deBruijn64tab", laid_math_bits_deBruijn64tab)], narrowed := true }
def FnJSSmallUptoSaid : Prop := fnJSSmallUptoRow.holds Tryd.pinned (OpenSpec.upto fnJSSmallSpec)

/-- 'laws.FnJSStart', WHERE WHAT IT READS IS OF BULK AT MOST 1048576: true; the input reads as it did. -/
def fnJSStartUptoRow : OpenClaim := { program := "ytekmminmgjoabaadoor", sum := "1a6db66c5efdd5a64661c39922a1f4a99ffc2f3d4581068d4195950fe8dc815e", func := "given.example/pub-burnisher/laws.FnJSStart", spec := "fnJSStart", inPlace := ["internal/bytealg.IndexByte"], recurses := true, named := ["encoding/binary.LittleEndian", "math/bits.deBruijn64tab"], apart := false, laid := [("math/bits.deBruijn64tab", laid_math_bits_deBruijn64tab)], narrowed := true }
def FnJSStartUptoSaid : Prop := fnJSStartUptoRow.holds Tryd.pinned (OpenSpec.upto fnJSStartSpec)

/-- 'laws.FnJSWrong', WHERE WHAT IT READS IS OF BULK AT MOST 1048576: true; the input reads as it did. -/
def fnJSWrongUptoRow : OpenClaim := { program := "ytekmminmgjoabaadoor", sum := "1a6db66c5efdd5a64661c39922a1f4a99ffc2f3d4581068d4195950fe8dc815e", func := "given.example/pub-burnisher/laws.FnJSWrong", spec := "fnJSWrong", inPlace := ["internal/bytealg.IndexByte"], recurses := true, named := ["encoding/binary.LittleEndian", "math/bits.deBruijn64tab"], apart := false, laid := [("math/bits.deBruijn64tab", laid_math_bits_deBruijn64tab)], narrowed := true }
def FnJSWrongUptoSaid : Prop := fnJSWrongUptoRow.holds Tryd.pinned (OpenSpec.upto fnJSWrongSpec)

/-- 'laws.FnJSBlanks', WHERE WHAT IT READS IS OF BULK AT MOST 1048576: true; the input reads as it did. -/
def fnJSBlanksUptoRow : OpenClaim := { program := "ytekmminmgjoabaadoor", sum := "1a6db66c5efdd5a64661c39922a1f4a99ffc2f3d4581068d4195950fe8dc815e", func := "given.example/pub-burnisher/laws.FnJSBlanks", spec := "fnJSBlanks", inPlace := ["internal/bytealg.IndexByte"], unfollowed := true, recurses := true, named := ["encoding/binary.LittleEndian", "math/bits.deBruijn64tab"], apart := false, laid := [("math/bits.deBruijn64tab", laid_math_bits_deBruijn64tab)], narrowed := true }
def FnJSBlanksUptoSaid : Prop := fnJSBlanksUptoRow.holds Tryd.pinned (OpenSpec.upto fnJSBlanksSpec)

/-- 'laws.FnJSTokens', WHERE WHAT IT READS IS OF BULK AT MOST 1048576: true; the input reads as it did. -/
def fnJSTokensUptoRow : OpenClaim := { program := "ytekmminmgjoabaadoor", sum := "1a6db66c5efdd5a64661c39922a1f4a99ffc2f3d4581068d4195950fe8dc815e", func := "given.example/pub-burnisher/laws.FnJSTokens", spec := "fnJSTokens", inPlace := ["internal/bytealg.IndexByte"], unfollowed := true, recurses := true, named := ["encoding/binary.LittleEndian", "math/bits.deBruijn64tab"], apart := false, laid := [("math/bits.deBruijn64tab", laid_math_bits_deBruijn64tab)], narrowed := true }
def FnJSTokensUptoSaid : Prop := fnJSTokensUptoRow.holds Tryd.pinned (OpenSpec.upto fnJSTokensSpec)

/-- 'laws.FnJSRaws', WHERE WHAT IT READS IS OF BULK AT MOST 1048576: true; the input reads as it did. -/
def fnJSRawsUptoRow : OpenClaim := { program := "ytekmminmgjoabaadoor", sum := "1a6db66c5efdd5a64661c39922a1f4a99ffc2f3d4581068d4195950fe8dc815e", func := "given.example/pub-burnisher/laws.FnJSRaws", spec := "fnJSRaws", inPlace := ["internal/bytealg.IndexByte"], recurses := true, named := ["encoding/binary.LittleEndian", "math/bits.deBruijn64tab"], apart := false, laid := [("math/bits.deBruijn64tab", laid_math_bits_deBruijn64tab)], narrowed := true }
def FnJSRawsUptoSaid : Prop := fnJSRawsUptoRow.holds Tryd.pinned (OpenSpec.upto fnJSRawsSpec)

/-- 'laws.FnJSAgain', WHERE WHAT IT READS IS OF BULK AT MOST 1048576: true; the input reads as it did. -/
def fnJSAgainUptoRow : OpenClaim := { program := "ytekmminmgjoabaadoor", sum := "1a6db66c5efdd5a64661c39922a1f4a99ffc2f3d4581068d4195950fe8dc815e", func := "given.example/pub-burnisher/laws.FnJSAgain", spec := "fnJSAgain", inPlace := ["internal/bytealg.IndexByte"], recurses := true, named := ["encoding/binary.LittleEndian", "math/bits.deBruijn64tab"], apart := false, laid := [("math/bits.deBruijn64tab", laid_math_bits_deBruijn64tab)], narrowed := true }
def FnJSAgainUptoSaid : Prop := fnJSAgainUptoRow.holds Tryd.pinned (OpenSpec.upto fnJSAgainSpec)

/-- 'laws.FnJSPlain', WHERE WHAT IT READS IS OF BULK AT MOST 1048576: true; the input reads as it did. -/
def fnJSPlainUptoRow : OpenClaim := { program := "ytekmminmgjoabaadoor", sum := "1a6db66c5efdd5a64661c39922a1f4a99ffc2f3d4581068d4195950fe8dc815e", func := "given.example/pub-burnisher/laws.FnJSPlain", spec := "fnJSPlain", inPlace := ["internal/bytealg.IndexByte"], named := ["encoding/binary.LittleEndian", "math/bits.deBruijn64tab"], apart := false, laid := [("math/bits.deBruijn64tab", laid_math_bits_deBruijn64tab)], narrowed := true }
def FnJSPlainUptoSaid : Prop := fnJSPlainUptoRow.holds Tryd.pinned (OpenSpec.upto fnJSPlainSpec)

/-- 'laws.FnJSLess', WHERE WHAT IT READS IS OF BULK AT MOST 1048576: true; the input reads as it did. -/
def fnJSLessUptoRow : OpenClaim := { program := "ytekmminmgjoabaadoor", sum := "1a6db66c5efdd5a64661c39922a1f4a99ffc2f3d4581068d4195950fe8dc815e", func := "given.example/pub-burnisher/laws.FnJSLess", spec := "fnJSLess", inPlace := ["internal/bytealg.IndexByte"], recurses := true, named := ["encoding/binary.LittleEndian", "math/bits.deBruijn64tab"], apart := false, laid := [("math/bits.deBruijn64tab", laid_math_bits_deBruijn64tab)], narrowed := true }
def FnJSLessUptoSaid : Prop := fnJSLessUptoRow.holds Tryd.pinned (OpenSpec.upto fnJSLessSpec)

/-- 'laws.FnJSTexts', WHERE WHAT IT READS IS OF BULK AT MOST 1048576: true; the input reads as it did. -/
def fnJSTextsUptoRow : OpenClaim := { program := "ytekmminmgjoabaadoor", sum := "1a6db66c5efdd5a64661c39922a1f4a99ffc2f3d4581068d4195950fe8dc815e", func := "given.example/pub-burnisher/laws.FnJSTexts", spec := "fnJSTexts", inPlace := ["internal/bytealg.IndexByte"], unfollowed := true, recurses := true, named := ["encoding/binary.LittleEndian", "math/bits.deBruijn64tab"], apart := false, laid := [("math/bits.deBruijn64tab", laid_math_bits_deBruijn64tab)], narrowed := true }
def FnJSTextsUptoSaid : Prop := fnJSTextsUptoRow.holds Tryd.pinned (OpenSpec.upto fnJSTextsSpec)

/-- 'laws.FnJSParsed', WHERE WHAT IT READS IS OF BULK AT MOST 1048576: true; the input reads as it did. -/
def fnJSParsedUptoRow : OpenClaim := { program := "ytekmminmgjoabaadoor", sum := "1a6db66c5efdd5a64661c39922a1f4a99ffc2f3d4581068d4195950fe8dc815e", func := "given.example/pub-burnisher/laws.FnJSParsed", spec := "fnJSParsed", inPlace := ["internal/bytealg.MakeNoZero", "internal/bytealg.IndexByte"], recurses := true, named := ["encoding/binary.LittleEndian", "math/bits.deBruijn64tab", "unicode/utf8.first", "unicode/utf8.acceptRanges"], apart := false, laid := [("math/bits.deBruijn64tab", laid_math_bits_deBruijn64tab), ("unicode/utf8.acceptRanges", laid_unicode_utf8_acceptRanges), ("unicode/utf8.first", laid_unicode_utf8_first)], narrowed := true }
def FnJSParsedUptoSaid : Prop := fnJSParsedUptoRow.holds Tryd.pinned (OpenSpec.upto fnJSParsedSpec)

/-- 'laws.FnJSInts', WHERE WHAT IT READS IS OF BULK AT MOST 1048576: true; the input reads as it did. -/
def fnJSIntsUptoRow : OpenClaim := { program := "ytekmminmgjoabaadoor", sum := "1a6db66c5efdd5a64661c39922a1f4a99ffc2f3d4581068d4195950fe8dc815e", func := "given.example/pub-burnisher/laws.FnJSInts", spec := "fnJSInts", inPlace := ["internal/bytealg.MakeNoZero", "internal/bytealg.IndexByte"], recurses := true, named := ["internal/strconv.uint64pow10", "math/bits.deBruijn32tab", "math/bits.deBruijn64tab", "encoding/binary.LittleEndian"], apart := false, laid := [("math/bits.deBruijn32tab", laid_math_bits_deBruijn32tab), ("math/bits.deBruijn64tab", laid_math_bits_deBruijn64tab), ("internal/strconv.uint64pow10", laid_internal_strconv_uint64pow10)], narrowed := true }
def FnJSIntsUptoSaid : Prop := fnJSIntsUptoRow.holds Tryd.pinned (OpenSpec.upto fnJSIntsSpec)

end Rows
end Go.Proofs.YtekmminmgjoabaaDoor
