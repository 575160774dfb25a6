/-
  NARROWER THAN 'FOR EVERY INPUT', by the rows' own cells (each row's printed sentence says how): FnMCIs: laid · FnJSEscapes: laid.
  DERIVED. THE GIVEN ROWS OF THIS SEAT. 2 by the template 'for every input the law returns true; each argument reads behind the call as it read before'; 0 by the template 'total and deterministic' (their statements: YtlagcfdojbjmmaaDoorTotals.lean).
  GIVEN WITH THE SEED: the statements are not yours to turn. If you find one false, say at which input.
  Laid BY PROGRAM, IN A SANDBOX (cutbox-rows.mjs): the forced cells as the released guide's own fill.sh prints them over the translation 8911e5f943c33894… (all of the seat's roots in one cut). By AI agents, Wed Nov 11 2026. No macro, syntax, notation, axiom, sorry.
-/
import Derived.Test.YtlagcfdojbjmmaaDoorChecked
import GoSem.Claim
import GoSem.ClaimJoined
import GoSem.ClaimMapViews
import Derived.JoinedTies
import Derived.KernelRfl
namespace Go.Proofs.YtlagcfdojbjmmaaDoor
/- THE CELL 'sum', in the pinned program and in every row, IS THE sha256 OF THE DUMP (.gsa) THAT YtlagcfdojbjmmaaDoorProg.lean LOADS. Nothing in Lean hashes anything: it is a label: what it is worth is what the hold of that sum in a sandbox is worth. -/
noncomputable def Tryd.pinned : Pinned := { name := "ytlagcfdojbjmmaadoor", sum := "8911e5f943c3389476f6051cfc78563a8511b7dab1cf496c8c90cff172138b9d", checked := Tryd.checked }
namespace Rows
def none {H : Type} : Left H := { results := [], args := [] }

/- WHAT THE LISTED PACKAGE-LEVEL VARIABLES READ AS WHEN THE CALL BEGINS. Each datum BY PROGRAM (the guide's laid-datum.mjs) off the statement by which the dump's own 'gosem.cut.vars' lays the variable. In a bare row this is a premise. The card (YtlagcfdojbjmmaaDoorCards.lean) ties it to the program's text. -/
def laid_given_example_pub_burnisher_pub_vmmsgpack_msgpcode_PosFixedNumHigh {H : Type} : DataW H := .lit (.int .u8 127)
def laid_given_example_pub_burnisher_pub_vmmsgpack_msgpcode_NegFixedNumLow {H : Type} : DataW H := .lit (.int .u8 224)
def laid_given_example_pub_burnisher_pub_vmmsgpack_msgpcode_FixedStrLow {H : Type} : DataW H := .lit (.int .u8 160)
def laid_given_example_pub_burnisher_pub_vmmsgpack_msgpcode_FixedStrHigh {H : Type} : DataW H := .lit (.int .u8 191)
def laid_given_example_pub_burnisher_pub_vmmsgpack_msgpcode_Str8 {H : Type} : DataW H := .lit (.int .u8 217)
def laid_given_example_pub_burnisher_pub_vmmsgpack_msgpcode_Str16 {H : Type} : DataW H := .lit (.int .u8 218)
def laid_given_example_pub_burnisher_pub_vmmsgpack_msgpcode_Str32 {H : Type} : DataW H := .lit (.int .u8 219)
def laid_given_example_pub_burnisher_pub_vmmsgpack_msgpcode_Bin8 {H : Type} : DataW H := .lit (.int .u8 196)
def laid_given_example_pub_burnisher_pub_vmmsgpack_msgpcode_Bin16 {H : Type} : DataW H := .lit (.int .u8 197)
def laid_given_example_pub_burnisher_pub_vmmsgpack_msgpcode_Bin32 {H : Type} : DataW H := .lit (.int .u8 198)
def laid_given_example_pub_burnisher_pub_vmmsgpack_msgpcode_FixedArrayLow {H : Type} : DataW H := .lit (.int .u8 144)
def laid_given_example_pub_burnisher_pub_vmmsgpack_msgpcode_FixedArrayHigh {H : Type} : DataW H := .lit (.int .u8 159)
def laid_given_example_pub_burnisher_pub_vmmsgpack_msgpcode_FixedMapLow {H : Type} : DataW H := .lit (.int .u8 128)
def laid_given_example_pub_burnisher_pub_vmmsgpack_msgpcode_FixedMapHigh {H : Type} : DataW H := .lit (.int .u8 143)
def laid_given_example_pub_burnisher_pub_vmmsgpack_msgpcode_FixExt1 {H : Type} : DataW H := .lit (.int .u8 212)
def laid_given_example_pub_burnisher_pub_vmmsgpack_msgpcode_FixExt16 {H : Type} : DataW H := .lit (.int .u8 216)
def laid_given_example_pub_burnisher_pub_vmmsgpack_msgpcode_Ext8 {H : Type} : DataW H := .lit (.int .u8 199)
def laid_given_example_pub_burnisher_pub_vmmsgpack_msgpcode_Ext16 {H : Type} : DataW H := .lit (.int .u8 200)
def laid_given_example_pub_burnisher_pub_vmmsgpack_msgpcode_Ext32 {H : Type} : DataW H := .lit (.int .u8 201)
def laid_math_bits_deBruijn64tab {H : Type} : DataW H := .agg [.lit (.int .u8 0), .lit (.int .u8 1), .lit (.int .u8 56), .lit (.int .u8 2), .lit (.int .u8 57), .lit (.int .u8 49), .lit (.int .u8 28), .lit (.int .u8 3), .lit (.int .u8 61), .lit (.int .u8 58), .lit (.int .u8 42), .lit (.int .u8 50), .lit (.int .u8 38), .lit (.int .u8 29), .lit (.int .u8 17), .lit (.int .u8 4), .lit (.int .u8 62), .lit (.int .u8 47), .lit (.int .u8 59), .lit (.int .u8 36), .lit (.int .u8 45), .lit (.int .u8 43), .lit (.int .u8 51), .lit (.int .u8 22), .lit (.int .u8 53), .lit (.int .u8 39), .lit (.int .u8 33), .lit (.int .u8 30), .lit (.int .u8 24), .lit (.int .u8 18), .lit (.int .u8 12), .lit (.int .u8 5), .lit (.int .u8 63), .lit (.int .u8 55), .lit (.int .u8 48), .lit (.int .u8 27), .lit (.int .u8 60), .lit (.int .u8 41), .lit (.int .u8 37), .lit (.int .u8 16), .lit (.int .u8 46), .lit (.int .u8 35), .lit (.int .u8 44), .lit (.int .u8 21), .lit (.int .u8 52), .lit (.int .u8 32), .lit (.int .u8 23), .lit (.int .u8 11), .lit (.int .u8 54), .lit (.int .u8 26), .lit (.int .u8 40), .lit (.int .u8 15), .lit (.int .u8 34), .lit (.int .u8 20), .lit (.int .u8 31), .lit (.int .u8 10), .lit (.int .u8 25), .lit (.int .u8 14), .lit (.int .u8 19), .lit (.int .u8 9), .lit (.int .u8 13), .lit (.int .u8 8), .lit (.int .u8 7), .lit (.int .u8 6)]

/-- 'laws.FnMCIs': WHATEVER THE INPUT: true; the input reads as it did. -/
def fnMCIsSpec : ChangeSpec := { name := "fnMCIs", vars := ["given.example/pub-burnisher/pub/vmmsgpack/msgpcode.Bin8", "given.example/pub-burnisher/pub/vmmsgpack/msgpcode.Bin16", "given.example/pub-burnisher/pub/vmmsgpack/msgpcode.Bin32", "given.example/pub-burnisher/pub/vmmsgpack/msgpcode.Ext8", "given.example/pub-burnisher/pub/vmmsgpack/msgpcode.Ext16", "given.example/pub-burnisher/pub/vmmsgpack/msgpcode.Ext32", "given.example/pub-burnisher/pub/vmmsgpack/msgpcode.FixExt1", "given.example/pub-burnisher/pub/vmmsgpack/msgpcode.FixExt16", "given.example/pub-burnisher/pub/vmmsgpack/msgpcode.FixedArrayLow", "given.example/pub-burnisher/pub/vmmsgpack/msgpcode.FixedArrayHigh", "given.example/pub-burnisher/pub/vmmsgpack/msgpcode.FixedMapLow", "given.example/pub-burnisher/pub/vmmsgpack/msgpcode.FixedMapHigh", "given.example/pub-burnisher/pub/vmmsgpack/msgpcode.PosFixedNumHigh", "given.example/pub-burnisher/pub/vmmsgpack/msgpcode.NegFixedNumLow", "given.example/pub-burnisher/pub/vmmsgpack/msgpcode.FixedStrLow", "given.example/pub-burnisher/pub/vmmsgpack/msgpcode.FixedStrHigh", "given.example/pub-burnisher/pub/vmmsgpack/msgpcode.Str8", "given.example/pub-burnisher/pub/vmmsgpack/msgpcode.Str16", "given.example/pub-burnisher/pub/vmmsgpack/msgpcode.Str32"], fn := fun _ => fun
  | [d, g1, g2, g3, g4, g5, g6, g7, g8, g9, g10, g11, g12, g13, g14, g15, g16, g17, g18, g19] => { results := [.lit (.bool true)], args := [d], vars := [g1, g2, g3, g4, g5, g6, g7, g8, g9, g10, g11, g12, g13, g14, g15, g16, g17, g18, g19] }
  | _ => none }
def fnMCIsRow : OpenClaim := { program := "ytlagcfdojbjmmaadoor", sum := "8911e5f943c3389476f6051cfc78563a8511b7dab1cf496c8c90cff172138b9d", func := "given.example/pub-burnisher/laws.FnMCIs", spec := "fnMCIs", named := ["given.example/pub-burnisher/pub/vmmsgpack/msgpcode.Bin8", "given.example/pub-burnisher/pub/vmmsgpack/msgpcode.Bin16", "given.example/pub-burnisher/pub/vmmsgpack/msgpcode.Bin32", "given.example/pub-burnisher/pub/vmmsgpack/msgpcode.Ext8", "given.example/pub-burnisher/pub/vmmsgpack/msgpcode.Ext16", "given.example/pub-burnisher/pub/vmmsgpack/msgpcode.Ext32", "given.example/pub-burnisher/pub/vmmsgpack/msgpcode.FixExt1", "given.example/pub-burnisher/pub/vmmsgpack/msgpcode.FixExt16", "given.example/pub-burnisher/pub/vmmsgpack/msgpcode.FixedArrayLow", "given.example/pub-burnisher/pub/vmmsgpack/msgpcode.FixedArrayHigh", "given.example/pub-burnisher/pub/vmmsgpack/msgpcode.FixedMapLow", "given.example/pub-burnisher/pub/vmmsgpack/msgpcode.FixedMapHigh", "given.example/pub-burnisher/pub/vmmsgpack/msgpcode.PosFixedNumHigh", "given.example/pub-burnisher/pub/vmmsgpack/msgpcode.NegFixedNumLow", "given.example/pub-burnisher/pub/vmmsgpack/msgpcode.FixedStrLow", "given.example/pub-burnisher/pub/vmmsgpack/msgpcode.FixedStrHigh", "given.example/pub-burnisher/pub/vmmsgpack/msgpcode.Str8", "given.example/pub-burnisher/pub/vmmsgpack/msgpcode.Str16", "given.example/pub-burnisher/pub/vmmsgpack/msgpcode.Str32"], apart := false, laid := [("given.example/pub-burnisher/pub/vmmsgpack/msgpcode.PosFixedNumHigh", laid_given_example_pub_burnisher_pub_vmmsgpack_msgpcode_PosFixedNumHigh), ("given.example/pub-burnisher/pub/vmmsgpack/msgpcode.NegFixedNumLow", laid_given_example_pub_burnisher_pub_vmmsgpack_msgpcode_NegFixedNumLow), ("given.example/pub-burnisher/pub/vmmsgpack/msgpcode.FixedStrLow", laid_given_example_pub_burnisher_pub_vmmsgpack_msgpcode_FixedStrLow), ("given.example/pub-burnisher/pub/vmmsgpack/msgpcode.FixedStrHigh", laid_given_example_pub_burnisher_pub_vmmsgpack_msgpcode_FixedStrHigh), ("given.example/pub-burnisher/pub/vmmsgpack/msgpcode.Str8", laid_given_example_pub_burnisher_pub_vmmsgpack_msgpcode_Str8), ("given.example/pub-burnisher/pub/vmmsgpack/msgpcode.Str16", laid_given_example_pub_burnisher_pub_vmmsgpack_msgpcode_Str16), ("given.example/pub-burnisher/pub/vmmsgpack/msgpcode.Str32", laid_given_example_pub_burnisher_pub_vmmsgpack_msgpcode_Str32), ("given.example/pub-burnisher/pub/vmmsgpack/msgpcode.Bin8", laid_given_example_pub_burnisher_pub_vmmsgpack_msgpcode_Bin8), ("given.example/pub-burnisher/pub/vmmsgpack/msgpcode.Bin16", laid_given_example_pub_burnisher_pub_vmmsgpack_msgpcode_Bin16), ("given.example/pub-burnisher/pub/vmmsgpack/msgpcode.Bin32", laid_given_example_pub_burnisher_pub_vmmsgpack_msgpcode_Bin32), ("given.example/pub-burnisher/pub/vmmsgpack/msgpcode.FixedArrayLow", laid_given_example_pub_burnisher_pub_vmmsgpack_msgpcode_FixedArrayLow), ("given.example/pub-burnisher/pub/vmmsgpack/msgpcode.FixedArrayHigh", laid_given_example_pub_burnisher_pub_vmmsgpack_msgpcode_FixedArrayHigh), ("given.example/pub-burnisher/pub/vmmsgpack/msgpcode.FixedMapLow", laid_given_example_pub_burnisher_pub_vmmsgpack_msgpcode_FixedMapLow), ("given.example/pub-burnisher/pub/vmmsgpack/msgpcode.FixedMapHigh", laid_given_example_pub_burnisher_pub_vmmsgpack_msgpcode_FixedMapHigh), ("given.example/pub-burnisher/pub/vmmsgpack/msgpcode.FixExt1", laid_given_example_pub_burnisher_pub_vmmsgpack_msgpcode_FixExt1), ("given.example/pub-burnisher/pub/vmmsgpack/msgpcode.FixExt16", laid_given_example_pub_burnisher_pub_vmmsgpack_msgpcode_FixExt16), ("given.example/pub-burnisher/pub/vmmsgpack/msgpcode.Ext8", laid_given_example_pub_burnisher_pub_vmmsgpack_msgpcode_Ext8), ("given.example/pub-burnisher/pub/vmmsgpack/msgpcode.Ext16", laid_given_example_pub_burnisher_pub_vmmsgpack_msgpcode_Ext16), ("given.example/pub-burnisher/pub/vmmsgpack/msgpcode.Ext32", laid_given_example_pub_burnisher_pub_vmmsgpack_msgpcode_Ext32)] }
def FnMCIsSaid : Prop := fnMCIsRow.holds Tryd.pinned (OpenSpec.ofChange fnMCIsSpec)

/-- ITS FALSE NEIGHBOUR: 'it returns false'. Refute it at one input. -/
def fnMCIsWrong : ChangeSpec := { name := "fnMCIs", vars := ["given.example/pub-burnisher/pub/vmmsgpack/msgpcode.Bin8", "given.example/pub-burnisher/pub/vmmsgpack/msgpcode.Bin16", "given.example/pub-burnisher/pub/vmmsgpack/msgpcode.Bin32", "given.example/pub-burnisher/pub/vmmsgpack/msgpcode.Ext8", "given.example/pub-burnisher/pub/vmmsgpack/msgpcode.Ext16", "given.example/pub-burnisher/pub/vmmsgpack/msgpcode.Ext32", "given.example/pub-burnisher/pub/vmmsgpack/msgpcode.FixExt1", "given.example/pub-burnisher/pub/vmmsgpack/msgpcode.FixExt16", "given.example/pub-burnisher/pub/vmmsgpack/msgpcode.FixedArrayLow", "given.example/pub-burnisher/pub/vmmsgpack/msgpcode.FixedArrayHigh", "given.example/pub-burnisher/pub/vmmsgpack/msgpcode.FixedMapLow", "given.example/pub-burnisher/pub/vmmsgpack/msgpcode.FixedMapHigh", "given.example/pub-burnisher/pub/vmmsgpack/msgpcode.PosFixedNumHigh", "given.example/pub-burnisher/pub/vmmsgpack/msgpcode.NegFixedNumLow", "given.example/pub-burnisher/pub/vmmsgpack/msgpcode.FixedStrLow", "given.example/pub-burnisher/pub/vmmsgpack/msgpcode.FixedStrHigh", "given.example/pub-burnisher/pub/vmmsgpack/msgpcode.Str8", "given.example/pub-burnisher/pub/vmmsgpack/msgpcode.Str16", "given.example/pub-burnisher/pub/vmmsgpack/msgpcode.Str32"], fn := fun _ => fun
  | [d, g1, g2, g3, g4, g5, g6, g7, g8, g9, g10, g11, g12, g13, g14, g15, g16, g17, g18, g19] => { results := [.lit (.bool false)], args := [d], vars := [g1, g2, g3, g4, g5, g6, g7, g8, g9, g10, g11, g12, g13, g14, g15, g16, g17, g18, g19] }
  | _ => none }
def FnMCIsWrongFalsely : Prop := fnMCIsRow.holds Tryd.pinned (OpenSpec.ofChange fnMCIsWrong)

/-- 'laws.FnJSEscapes': WHATEVER THE INPUT: true; the input reads as it did. -/
def fnJSEscapesSpec : ChangeSpec := { name := "fnJSEscapes", fn := fun _ => fun
  | [d1, d2] => { results := [.lit (.bool true)], args := [d1, d2] }
  | _ => none }
def fnJSEscapesRow : OpenClaim := { program := "ytlagcfdojbjmmaadoor", sum := "8911e5f943c3389476f6051cfc78563a8511b7dab1cf496c8c90cff172138b9d", func := "given.example/pub-burnisher/laws.FnJSEscapes", spec := "fnJSEscapes", named := ["encoding/binary.LittleEndian", "math/bits.deBruijn64tab"], apart := false, laid := [("math/bits.deBruijn64tab", laid_math_bits_deBruijn64tab)] }
def FnJSEscapesSaid : Prop := fnJSEscapesRow.holds Tryd.pinned (OpenSpec.ofChange fnJSEscapesSpec)

/-- ITS FALSE NEIGHBOUR: 'it returns false'. Refute it at one input. -/
def fnJSEscapesWrong : ChangeSpec := { name := "fnJSEscapes", fn := fun _ => fun
  | [d1, d2] => { results := [.lit (.bool false)], args := [d1, d2] }
  | _ => none }
def FnJSEscapesWrongFalsely : Prop := fnJSEscapesRow.holds Tryd.pinned (OpenSpec.ofChange fnJSEscapesWrong)

/- THE SECOND FORM. 'bulk': how many values and letters a reading holds, each counted each time it is reached (what is shared counts as often as it is met; a slice's spare places count too). A statement '..UptoSaid' is the law's where the arguments, and the package variables that the reading takes, are together of bulk at most 1048576: NARROWER than '..Said'. Prove '..Said' where nothing that the law and all that it calls make is longer than what came in: it says more and counts as full. Else prove '..UptoSaid'. A law counts once. -/
mutual
def uptoBulk {H : Type} : DataW H → Nat
  | .lit (.string bytes) => bytes.length + 1
  | .lit _ => 1
  | .nil => 1
  | .ptr d => uptoBulk d + 1
  | .slice elems spare => uptoBulkAll elems + uptoBulkAll spare + 1
  | .agg parts => uptoBulkAll parts + 1
  | .iface _ d => uptoBulk d + 1
  | .map entries => uptoBulkEntries entries + 1
  | .held _ => 1
def uptoBulkAll {H : Type} : List (DataW H) → Nat
  | [] => 0
  | d :: r => uptoBulk d + uptoBulkAll r
def uptoBulkEntries {H : Type} : List (Lit × DataW H) → Nat
  | [] => 0
  | x :: r => uptoBulkEntry x + uptoBulkEntries r
def uptoBulkEntry {H : Type} : Lit × DataW H → Nat
  | (.string bytes, d) => bytes.length + uptoBulk d + 1
  | (_, d) => uptoBulk d + 1
 end
def uptoSmall : (H : Type) → List (DataW H) → Bool := fun _ ds => decide (uptoBulkAll ds ≤ 1048576)
def OpenSpec.upto (s : _root_.Go.ChangeSpec) : _root_.Go.OpenSpec := { _root_.Go.OpenSpec.ofChange s with cond := some uptoSmall }

/-- 'laws.FnMCIs', WHERE WHAT IT READS IS OF BULK AT MOST 1048576: true; the input reads as it did. -/
def fnMCIsUptoRow : OpenClaim := { program := "ytlagcfdojbjmmaadoor", sum := "8911e5f943c3389476f6051cfc78563a8511b7dab1cf496c8c90cff172138b9d", func := "given.example/pub-burnisher/laws.FnMCIs", spec := "fnMCIs", named := ["given.example/pub-burnisher/pub/vmmsgpack/msgpcode.Bin8", "given.example/pub-burnisher/pub/vmmsgpack/msgpcode.Bin16", "given.example/pub-burnisher/pub/vmmsgpack/msgpcode.Bin32", "given.example/pub-burnisher/pub/vmmsgpack/msgpcode.Ext8", "given.example/pub-burnisher/pub/vmmsgpack/msgpcode.Ext16", "given.example/pub-burnisher/pub/vmmsgpack/msgpcode.Ext32", "given.example/pub-burnisher/pub/vmmsgpack/msgpcode.FixExt1", "given.example/pub-burnisher/pub/vmmsgpack/msgpcode.FixExt16", "given.example/pub-burnisher/pub/vmmsgpack/msgpcode.FixedArrayLow", "given.example/pub-burnisher/pub/vmmsgpack/msgpcode.FixedArrayHigh", "given.example/pub-burnisher/pub/vmmsgpack/msgpcode.FixedMapLow", "given.example/pub-burnisher/pub/vmmsgpack/msgpcode.FixedMapHigh", "given.example/pub-burnisher/pub/vmmsgpack/msgpcode.PosFixedNumHigh", "given.example/pub-burnisher/pub/vmmsgpack/msgpcode.NegFixedNumLow", "given.example/pub-burnisher/pub/vmmsgpack/msgpcode.FixedStrLow", "given.example/pub-burnisher/pub/vmmsgpack/msgpcode.FixedStrHigh", "given.example/pub-burnisher/pub/vmmsgpack/msgpcode.Str8", "given.example/pub-burnisher/pub/vmmsgpack/msgpcode.Str16", "given.example/pub-burnisher/pub/vmmsgpack/msgpcode.Str32"], apart := false, laid := [("given.example/pub-burnisher/pub/vmmsgpack/msgpcode.PosFixedNumHigh", laid_given_example_pub_burnisher_pub_vmmsgpack_msgpcode_PosFixedNumHigh), ("given.example/pub-burnisher/pub/vmmsgpack/msgpcode.NegFixedNumLow", laid_given_example_pub_burnisher_pub_vmmsgpack_msgpcode_NegFixedNumLow), ("given.example/pub-burnisher/pub/vmmsgpack/msgpcode.FixedStrLow", laid_given_example_pub_burnisher_pub_vmmsgpack_msgpcode_FixedStrLow), ("given.example/pub-burnisher/pub/vmmsgpack/msgpcode.FixedStrHigh", laid_given_example_pub_burnisher_pub_vmmsgpack_msgpcode_FixedStrHigh), ("given.example/pub-burnisher/pub/vmmsgpack/msgpcode.Str8", laid_given_example_pub_burnisher_pub_vmmsgpack_msgpcode_Str8), ("given.example/pub-burnisher/pub/vmmsgpack/msgpcode.Str16", laid_given_example_pub_burnisher_pub_vmmsgpack_msgpcode_Str16), ("given.example/pub-burnisher/pub/vmmsgpack/msgpcode.Str32", laid_given_example_pub_burnisher_pub_vmmsgpack_msgpcode_Str32), ("given.example/pub-burnisher/pub/vmmsgpack/msgpcode.Bin8", laid_given_example_pub_burnisher_pub_vmmsgpack_msgpcode_Bin8), ("given.example/pub-burnisher/pub/vmmsgpack/msgpcode.Bin16", laid_given_example_pub_burnisher_pub_vmmsgpack_msgpcode_Bin16), ("given.example/pub-burnisher/pub/vmmsgpack/msgpcode.Bin32", laid_given_example_pub_burnisher_pub_vmmsgpack_msgpcode_Bin32), ("given.example/pub-burnisher/pub/vmmsgpack/msgpcode.FixedArrayLow", laid_given_example_pub_burnisher_pub_vmmsgpack_msgpcode_FixedArrayLow), ("given.example/pub-burnisher/pub/vmmsgpack/msgpcode.FixedArrayHigh", laid_given_example_pub_burnisher_pub_vmmsgpack_msgpcode_FixedArrayHigh), ("given.example/pub-burnisher/pub/vmmsgpack/msgpcode.FixedMapLow", laid_given_example_pub_burnisher_pub_vmmsgpack_msgpcode_FixedMapLow), ("given.example/pub-burnisher/pub/vmmsgpack/msgpcode.FixedMapHigh", laid_given_example_pub_burnisher_pub_vmmsgpack_msgpcode_FixedMapHigh), ("given.example/pub-burnisher/pub/vmmsgpack/msgpcode.FixExt1", laid_given_example_pub_burnisher_pub_vmmsgpack_msgpcode_FixExt1), ("given.example/pub-burnisher/pub/vmmsgpack/msgpcode.FixExt16", laid_given_example_pub_burnisher_pub_vmmsgpack_msgpcode_FixExt16), ("given.example/pub-burnisher/pub/vmmsgpack/msgpcode.Ext8", laid_given_example_pub_burnisher_pub_vmmsgpack_msgpcode_Ext8), ("given.example/pub-burnisher/pub/vmmsgpack/msgpcode.Ext16", laid_given_example_pub_burnisher_pub_vmmsgpack_msgpcode_Ext16), ("given.example/pub-burnisher/pub/vmmsgpack/msgpcode.Ext32", laid_given_example_pub_burnisher_pub_vmmsgpack_msgpcode_Ext32)], narrowed := true }
def FnMCIsUptoSaid : Prop := fnMCIsUptoRow.holds Tryd.pinned (OpenSpec.upto fnMCIsSpec)

/-- 'laws.FnJSEscapes', WHERE WHAT IT READS IS OF BULK AT MOST 1048576: true; the input reads as it did. -/
def fnJSEscapesUptoRow : OpenClaim := { program := "ytlagcfdojbjmmaadoor", sum := "8911e5f943c3389476f6051cfc78563a8511b7dab1cf496c8c90cff172138b9d", func := "given.example/pub-burnisher/laws.FnJSEscapes", spec := "fnJSEscapes", named := ["encoding/binary.LittleEndian", "math/bits.deBruijn64tab"], apart := false, laid := [("math/bits.deBruijn64tab", laid_math_bits_deBruijn64tab)], narrowed := true }
def FnJSEscapesUptoSaid : Prop := fnJSEscapesUptoRow.holds Tryd.pinned (OpenSpec.upto fnJSEscapesSpec)

end Rows
end Go.Proofs.YtlagcfdojbjmmaaDoor
