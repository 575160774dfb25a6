/-
  No cell of these rows narrows 'for every input' (looked for: loops, veiled, ifaces, maps, wideKeys, modest, calm, conditions, laid).
  DERIVED. THE GIVEN ROWS OF THIS SEAT. 9 by the template 'for every input the law returns true; each argument reads behind the call as it read before'; 0 by the template 'total and deterministic' (their statements: YtmhngpihkaignaaTotals.lean).
  GIVEN WITH THE SEED: the statements are not yours to turn. If you find one false, say at which input.
  Laid BY PROGRAM, IN A SANDBOX (cutbox-rows.mjs): the forced cells as the released guide's own fill.sh prints them over the translation 5b2a27c2f19d9bd8… (all of the seat's roots in one cut). By AI agents, Wed Nov 11 2026. No macro, syntax, notation, axiom, sorry.
-/
import Derived.Test.YtmhngpihkaignaaChecked
import GoSem.Claim
import GoSem.ClaimJoined
import GoSem.ClaimMapViews
import Derived.JoinedTies
import Derived.KernelRfl
namespace Go.Proofs.Ytmhngpihkaignaa
/- THE CELL 'sum', in the pinned program and in every row, IS THE sha256 OF THE DUMP (.gsa) THAT YtmhngpihkaignaaProg.lean LOADS. Nothing in Lean hashes anything: it is a label: what it is worth is what the hold of that sum in a sandbox is worth. -/
noncomputable def Try.pinned : Pinned := { name := "ytmhngpihkaignaa", sum := "5b2a27c2f19d9bd872b92d46283decfef261d43af5ef00f64840cf407edc0a27", checked := Try.checked }
namespace Rows
def none {H : Type} : Left H := { results := [], args := [] }

/-- 'laws.FnPBTags': WHATEVER THE INPUT: true; the input reads as it did. -/
def fnPBTagsSpec : ChangeSpec := { name := "fnPBTags", fn := fun _ => fun
  | [d1, d2, d3] => { results := [.lit (.bool true)], args := [d1, d2, d3] }
  | _ => none }
def fnPBTagsRow : OpenClaim := { program := "ytmhngpihkaignaa", sum := "5b2a27c2f19d9bd872b92d46283decfef261d43af5ef00f64840cf407edc0a27", func := "given.example/pub-burnisher/laws.FnPBTags", spec := "fnPBTags", apart := false }
def FnPBTagsSaid : Prop := fnPBTagsRow.holds Try.pinned (OpenSpec.ofChange fnPBTagsSpec)

/-- ITS FALSE NEIGHBOUR: 'it returns false'. Refute it at one input. -/
def fnPBTagsWrong : ChangeSpec := { name := "fnPBTags", fn := fun _ => fun
  | [d1, d2, d3] => { results := [.lit (.bool false)], args := [d1, d2, d3] }
  | _ => none }
def FnPBTagsWrongFalsely : Prop := fnPBTagsRow.holds Try.pinned (OpenSpec.ofChange fnPBTagsWrong)

/-- 'laws.FnPBZigs': WHATEVER THE INPUT: true; the input reads as it did. -/
def fnPBZigsSpec : ChangeSpec := { name := "fnPBZigs", fn := fun _ => fun
  | [d1, d2] => { results := [.lit (.bool true)], args := [d1, d2] }
  | _ => none }
def fnPBZigsRow : OpenClaim := { program := "ytmhngpihkaignaa", sum := "5b2a27c2f19d9bd872b92d46283decfef261d43af5ef00f64840cf407edc0a27", func := "given.example/pub-burnisher/laws.FnPBZigs", spec := "fnPBZigs", apart := false }
def FnPBZigsSaid : Prop := fnPBZigsRow.holds Try.pinned (OpenSpec.ofChange fnPBZigsSpec)

/-- ITS FALSE NEIGHBOUR: 'it returns false'. Refute it at one input. -/
def fnPBZigsWrong : ChangeSpec := { name := "fnPBZigs", fn := fun _ => fun
  | [d1, d2] => { results := [.lit (.bool false)], args := [d1, d2] }
  | _ => none }
def FnPBZigsWrongFalsely : Prop := fnPBZigsRow.holds Try.pinned (OpenSpec.ofChange fnPBZigsWrong)

/-- 'laws.FnJSShort': WHATEVER THE INPUT: true; the input reads as it did. -/
def fnJSShortSpec : ChangeSpec := { name := "fnJSShort", fn := fun _ => fun
  | [] => { results := [.lit (.bool true)], args := [] }
  | _ => none }
def fnJSShortRow : OpenClaim := { program := "ytmhngpihkaignaa", sum := "5b2a27c2f19d9bd872b92d46283decfef261d43af5ef00f64840cf407edc0a27", func := "given.example/pub-burnisher/laws.FnJSShort", spec := "fnJSShort", apart := false }
def FnJSShortSaid : Prop := fnJSShortRow.holds Try.pinned (OpenSpec.ofChange fnJSShortSpec)

/-- ITS FALSE NEIGHBOUR: 'it returns false'. Refute it at one input. -/
def fnJSShortWrong : ChangeSpec := { name := "fnJSShort", fn := fun _ => fun
  | [] => { results := [.lit (.bool false)], args := [] }
  | _ => none }
def FnJSShortWrongFalsely : Prop := fnJSShortRow.holds Try.pinned (OpenSpec.ofChange fnJSShortWrong)

/-- 'laws.FnASFold': WHATEVER THE INPUT: true; the input reads as it did. -/
def fnASFoldSpec : ChangeSpec := { name := "fnASFold", fn := fun _ => fun
  | [d1, d2, d3] => { results := [.lit (.bool true)], args := [d1, d2, d3] }
  | _ => none }
def fnASFoldRow : OpenClaim := { program := "ytmhngpihkaignaa", sum := "5b2a27c2f19d9bd872b92d46283decfef261d43af5ef00f64840cf407edc0a27", func := "given.example/pub-burnisher/laws.FnASFold", spec := "fnASFold", apart := false }
def FnASFoldSaid : Prop := fnASFoldRow.holds Try.pinned (OpenSpec.ofChange fnASFoldSpec)

/-- ITS FALSE NEIGHBOUR: 'it returns false'. Refute it at one input. -/
def fnASFoldWrong : ChangeSpec := { name := "fnASFold", fn := fun _ => fun
  | [d1, d2, d3] => { results := [.lit (.bool false)], args := [d1, d2, d3] }
  | _ => none }
def FnASFoldWrongFalsely : Prop := fnASFoldRow.holds Try.pinned (OpenSpec.ofChange fnASFoldWrong)

/-- 'laws.FnASValid': WHATEVER THE INPUT: true; the input reads as it did. -/
def fnASValidSpec : ChangeSpec := { name := "fnASValid", fn := fun _ => fun
  | [d] => { results := [.lit (.bool true)], args := [d] }
  | _ => none }
def fnASValidRow : OpenClaim := { program := "ytmhngpihkaignaa", sum := "5b2a27c2f19d9bd872b92d46283decfef261d43af5ef00f64840cf407edc0a27", func := "given.example/pub-burnisher/laws.FnASValid", spec := "fnASValid", apart := false }
def FnASValidSaid : Prop := fnASValidRow.holds Try.pinned (OpenSpec.ofChange fnASValidSpec)

/-- ITS FALSE NEIGHBOUR: 'it returns false'. Refute it at one input. -/
def fnASValidWrong : ChangeSpec := { name := "fnASValid", fn := fun _ => fun
  | [d] => { results := [.lit (.bool false)], args := [d] }
  | _ => none }
def FnASValidWrongFalsely : Prop := fnASValidRow.holds Try.pinned (OpenSpec.ofChange fnASValidWrong)

/-- 'laws.FnASBytes': WHATEVER THE INPUT: true; the input reads as it did. -/
def fnASBytesSpec : ChangeSpec := { name := "fnASBytes", fn := fun _ => fun
  | [d1, d2] => { results := [.lit (.bool true)], args := [d1, d2] }
  | _ => none }
def fnASBytesRow : OpenClaim := { program := "ytmhngpihkaignaa", sum := "5b2a27c2f19d9bd872b92d46283decfef261d43af5ef00f64840cf407edc0a27", func := "given.example/pub-burnisher/laws.FnASBytes", spec := "fnASBytes", apart := false }
def FnASBytesSaid : Prop := fnASBytesRow.holds Try.pinned (OpenSpec.ofChange fnASBytesSpec)

/-- ITS FALSE NEIGHBOUR: 'it returns false'. Refute it at one input. -/
def fnASBytesWrong : ChangeSpec := { name := "fnASBytes", fn := fun _ => fun
  | [d1, d2] => { results := [.lit (.bool false)], args := [d1, d2] }
  | _ => none }
def FnASBytesWrongFalsely : Prop := fnASBytesRow.holds Try.pinned (OpenSpec.ofChange fnASBytesWrong)

/-- 'laws.FnASEnds': WHATEVER THE INPUT: true; the input reads as it did. -/
def fnASEndsSpec : ChangeSpec := { name := "fnASEnds", fn := fun _ => fun
  | [d1, d2, d3] => { results := [.lit (.bool true)], args := [d1, d2, d3] }
  | _ => none }
def fnASEndsRow : OpenClaim := { program := "ytmhngpihkaignaa", sum := "5b2a27c2f19d9bd872b92d46283decfef261d43af5ef00f64840cf407edc0a27", func := "given.example/pub-burnisher/laws.FnASEnds", spec := "fnASEnds", apart := false }
def FnASEndsSaid : Prop := fnASEndsRow.holds Try.pinned (OpenSpec.ofChange fnASEndsSpec)

/-- ITS FALSE NEIGHBOUR: 'it returns false'. Refute it at one input. -/
def fnASEndsWrong : ChangeSpec := { name := "fnASEnds", fn := fun _ => fun
  | [d1, d2, d3] => { results := [.lit (.bool false)], args := [d1, d2, d3] }
  | _ => none }
def FnASEndsWrongFalsely : Prop := fnASEndsRow.holds Try.pinned (OpenSpec.ofChange fnASEndsWrong)

/-- 'laws.FnIOBent': WHATEVER THE INPUT: true; the input reads as it did. -/
def fnIOBentSpec : ChangeSpec := { name := "fnIOBent", fn := fun _ => fun
  | [d1, d2, d3, d4, d5, d6] => { results := [.lit (.bool true)], args := [d1, d2, d3, d4, d5, d6] }
  | _ => none }
def fnIOBentRow : OpenClaim := { program := "ytmhngpihkaignaa", sum := "5b2a27c2f19d9bd872b92d46283decfef261d43af5ef00f64840cf407edc0a27", func := "given.example/pub-burnisher/laws.FnIOBent", spec := "fnIOBent", apart := false }
def FnIOBentSaid : Prop := fnIOBentRow.holds Try.pinned (OpenSpec.ofChange fnIOBentSpec)

/-- ITS FALSE NEIGHBOUR: 'it returns false'. Refute it at one input. -/
def fnIOBentWrong : ChangeSpec := { name := "fnIOBent", fn := fun _ => fun
  | [d1, d2, d3, d4, d5, d6] => { results := [.lit (.bool false)], args := [d1, d2, d3, d4, d5, d6] }
  | _ => none }
def FnIOBentWrongFalsely : Prop := fnIOBentRow.holds Try.pinned (OpenSpec.ofChange fnIOBentWrong)

/-- 'laws.FnIOValid': WHATEVER THE INPUT: true; the input reads as it did. -/
def fnIOValidSpec : ChangeSpec := { name := "fnIOValid", fn := fun _ => fun
  | [d1, d2, d3, d4, d5] => { results := [.lit (.bool true)], args := [d1, d2, d3, d4, d5] }
  | _ => none }
def fnIOValidRow : OpenClaim := { program := "ytmhngpihkaignaa", sum := "5b2a27c2f19d9bd872b92d46283decfef261d43af5ef00f64840cf407edc0a27", func := "given.example/pub-burnisher/laws.FnIOValid", spec := "fnIOValid", apart := false }
def FnIOValidSaid : Prop := fnIOValidRow.holds Try.pinned (OpenSpec.ofChange fnIOValidSpec)

/-- ITS FALSE NEIGHBOUR: 'it returns false'. Refute it at one input. -/
def fnIOValidWrong : ChangeSpec := { name := "fnIOValid", fn := fun _ => fun
  | [d1, d2, d3, d4, d5] => { results := [.lit (.bool false)], args := [d1, d2, d3, d4, d5] }
  | _ => none }
def FnIOValidWrongFalsely : Prop := fnIOValidRow.holds Try.pinned (OpenSpec.ofChange fnIOValidWrong)

/- THE SECOND FORM. 'bulk': how many values and letters a reading holds, each counted each time it is reached (what is shared counts as often as it is met; a slice's spare places count too). A statement '..UptoSaid' is the law's where the arguments, and the package variables that the reading takes, are together of bulk at most 1048576: NARROWER than '..Said'. Prove '..Said' where nothing that the law and all that it calls make is longer than what came in: it says more and counts as full. Else prove '..UptoSaid'. A law counts once. -/
mutual
def uptoBulk {H : Type} : DataW H → Nat
  | .lit (.string bytes) => bytes.length + 1
  | .lit _ => 1
  | .nil => 1
  | .ptr d => uptoBulk d + 1
  | .slice elems spare => uptoBulkAll elems + uptoBulkAll spare + 1
  | .agg parts => uptoBulkAll parts + 1
  | .iface _ d => uptoBulk d + 1
  | .map entries => uptoBulkEntries entries + 1
  | .held _ => 1
def uptoBulkAll {H : Type} : List (DataW H) → Nat
  | [] => 0
  | d :: r => uptoBulk d + uptoBulkAll r
def uptoBulkEntries {H : Type} : List (Lit × DataW H) → Nat
  | [] => 0
  | x :: r => uptoBulkEntry x + uptoBulkEntries r
def uptoBulkEntry {H : Type} : Lit × DataW H → Nat
  | (.string bytes, d) => bytes.length + uptoBulk d + 1
  | (_, d) => uptoBulk d + 1
 end
def uptoSmall : (H : Type) → List (DataW H) → Bool := fun _ ds => decide (uptoBulkAll ds ≤ 1048576)
def OpenSpec.upto (s : _root_.Go.ChangeSpec) : _root_.Go.OpenSpec := { _root_.Go.OpenSpec.ofChange s with cond := some uptoSmall }

/-- 'laws.FnPBTags', WHERE WHAT IT READS IS OF BULK AT MOST 1048576: true; the input reads as it did. -/
def fnPBTagsUptoRow : OpenClaim := { program := "ytmhngpihkaignaa", sum := "5b2a27c2f19d9bd872b92d46283decfef261d43af5ef00f64840cf407edc0a27", func := "given.example/pub-burnisher/laws.FnPBTags", spec := "fnPBTags", apart := false, narrowed := true }
def FnPBTagsUptoSaid : Prop := fnPBTagsUptoRow.holds Try.pinned (OpenSpec.upto fnPBTagsSpec)

/-- 'laws.FnPBZigs', WHERE WHAT IT READS IS OF BULK AT MOST 1048576: true; the input reads as it did. -/
def fnPBZigsUptoRow : OpenClaim := { program := "ytmhngpihkaignaa", sum := "5b2a27c2f19d9bd872b92d46283decfef261d43af5ef00f64840cf407edc0a27", func := "given.example/pub-burnisher/laws.FnPBZigs", spec := "fnPBZigs", apart := false, narrowed := true }
def FnPBZigsUptoSaid : Prop := fnPBZigsUptoRow.holds Try.pinned (OpenSpec.upto fnPBZigsSpec)

/-- 'laws.FnJSShort', WHERE WHAT IT READS IS OF BULK AT MOST 1048576: true; the input reads as it did. -/
def fnJSShortUptoRow : OpenClaim := { program := "ytmhngpihkaignaa", sum := "5b2a27c2f19d9bd872b92d46283decfef261d43af5ef00f64840cf407edc0a27", func := "given.example/pub-burnisher/laws.FnJSShort", spec := "fnJSShort", apart := false, narrowed := true }
def FnJSShortUptoSaid : Prop := fnJSShortUptoRow.holds Try.pinned (OpenSpec.upto fnJSShortSpec)

/-- 'laws.FnASFold', WHERE WHAT IT READS IS OF BULK AT MOST 1048576: true; the input reads as it did. -/
def fnASFoldUptoRow : OpenClaim := { program := "ytmhngpihkaignaa", sum := "5b2a27c2f19d9bd872b92d46283decfef261d43af5ef00f64840cf407edc0a27", func := "given.example/pub-burnisher/laws.FnASFold", spec := "fnASFold", apart := false, narrowed := true }
def FnASFoldUptoSaid : Prop := fnASFoldUptoRow.holds Try.pinned (OpenSpec.upto fnASFoldSpec)

/-- 'laws.FnASValid', WHERE WHAT IT READS IS OF BULK AT MOST 1048576: true; the input reads as it did. -/
def fnASValidUptoRow : OpenClaim := { program := "ytmhngpihkaignaa", sum := "5b2a27c2f19d9bd872b92d46283decfef261d43af5ef00f64840cf407edc0a27", func := "given.example/pub-burnisher/laws.FnASValid", spec := "fnASValid", apart := false, narrowed := true }
def FnASValidUptoSaid : Prop := fnASValidUptoRow.holds Try.pinned (OpenSpec.upto fnASValidSpec)

/-- 'laws.FnASBytes', WHERE WHAT IT READS IS OF BULK AT MOST 1048576: true; the input reads as it did. -/
def fnASBytesUptoRow : OpenClaim := { program := "ytmhngpihkaignaa", sum := "5b2a27c2f19d9bd872b92d46283decfef261d43af5ef00f64840cf407edc0a27", func := "given.example/pub-burnisher/laws.FnASBytes", spec := "fnASBytes", apart := false, narrowed := true }
def FnASBytesUptoSaid : Prop := fnASBytesUptoRow.holds Try.pinned (OpenSpec.upto fnASBytesSpec)

/-- 'laws.FnASEnds', WHERE WHAT IT READS IS OF BULK AT MOST 1048576: true; the input reads as it did. -/
def fnASEndsUptoRow : OpenClaim := { program := "ytmhngpihkaignaa", sum := "5b2a27c2f19d9bd872b92d46283decfef261d43af5ef00f64840cf407edc0a27", func := "given.example/pub-burnisher/laws.FnASEnds", spec := "fnASEnds", apart := false, narrowed := true }
def FnASEndsUptoSaid : Prop := fnASEndsUptoRow.holds Try.pinned (OpenSpec.upto fnASEndsSpec)

/-- 'laws.FnIOBent', WHERE WHAT IT READS IS OF BULK AT MOST 1048576: true; the input reads as it did. -/
def fnIOBentUptoRow : OpenClaim := { program := "ytmhngpihkaignaa", sum := "5b2a27c2f19d9bd872b92d46283decfef261d43af5ef00f64840cf407edc0a27", func := "given.example/pub-burnisher/laws.FnIOBent", spec := "fnIOBent", apart := false, narrowed := true }
def FnIOBentUptoSaid : Prop := fnIOBentUptoRow.holds Try.pinned (OpenSpec.upto fnIOBentSpec)

/-- 'laws.FnIOValid', WHERE WHAT IT READS IS OF BULK AT MOST 1048576: true; the input reads as it did. -/
def fnIOValidUptoRow : OpenClaim := { program := "ytmhngpihkaignaa", sum := "5b2a27c2f19d9bd872b92d46283decfef261d43af5ef00f64840cf407edc0a27", func := "given.example/pub-burnisher/laws.FnIOValid", spec := "fnIOValid", apart := false, narrowed := true }
def FnIOValidUptoSaid : Prop := fnIOValidUptoRow.holds Try.pinned (OpenSpec.upto fnIOValidSpec)

end Rows
end Go.Proofs.Ytmhngpihkaignaa
