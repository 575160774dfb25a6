/-
  No cell of these rows narrows 'for every input' (looked for: loops, veiled, ifaces, maps, wideKeys, modest, calm, conditions, laid).
  DERIVED. THE GIVEN ROWS OF THIS SEAT. 4 by the template 'for every input the law returns true; each argument reads behind the call as it read before'; 0 by the template 'total and deterministic' (their statements: YtmjilokgpgajjaaTotals.lean).
  GIVEN WITH THE SEED: the statements are not yours to turn. If you find one false, say at which input.
  Laid BY PROGRAM, IN A SANDBOX (cutbox-rows.mjs): the forced cells as the released guide's own fill.sh prints them over the translation 856d9f1c17e27d79… (all of the seat's roots in one cut). By AI agents, Wed Nov 11 2026. No macro, syntax, notation, axiom, sorry.
-/
import Derived.Test.YtmjilokgpgajjaaChecked
import GoSem.Claim
import GoSem.ClaimJoined
import GoSem.ClaimMapViews
import Derived.JoinedTies
import Derived.KernelRfl
namespace Go.Proofs.Ytmjilokgpgajjaa
/- THE CELL 'sum', in the pinned program and in every row, IS THE sha256 OF THE DUMP (.gsa) THAT YtmjilokgpgajjaaProg.lean LOADS. Nothing in Lean hashes anything: it is a label: what it is worth is what the hold of that sum in a sandbox is worth. -/
noncomputable def Try.pinned : Pinned := { name := "ytmjilokgpgajjaa", sum := "856d9f1c17e27d79d5c8f2e558a71045c2a0b63c12c9cc2d68cafa7e32b5b057", checked := Try.checked }
namespace Rows
def none {H : Type} : Left H := { results := [], args := [] }

/-- 'laws.FnTHFeatures': WHATEVER THE INPUT: true; the input reads as it did. -/
def fnTHFeaturesSpec : ChangeSpec := { name := "fnTHFeatures", fn := fun _ => fun
  | [d] => { results := [.lit (.bool true)], args := [d] }
  | _ => none }
def fnTHFeaturesRow : OpenClaim := { program := "ytmjilokgpgajjaa", sum := "856d9f1c17e27d79d5c8f2e558a71045c2a0b63c12c9cc2d68cafa7e32b5b057", func := "given.example/pub-burnisher/laws.FnTHFeatures", spec := "fnTHFeatures", unfollowed := true, recurses := true, apart := false }
def FnTHFeaturesSaid : Prop := fnTHFeaturesRow.holds Try.pinned (OpenSpec.ofChange fnTHFeaturesSpec)

/-- ITS FALSE NEIGHBOUR: 'it returns false'. Refute it at one input. -/
def fnTHFeaturesWrong : ChangeSpec := { name := "fnTHFeatures", fn := fun _ => fun
  | [d] => { results := [.lit (.bool false)], args := [d] }
  | _ => none }
def FnTHFeaturesWrongFalsely : Prop := fnTHFeaturesRow.holds Try.pinned (OpenSpec.ofChange fnTHFeaturesWrong)

/-- 'laws.FnTHNumbers': WHATEVER THE INPUT: true; the input reads as it did. -/
def fnTHNumbersSpec : ChangeSpec := { name := "fnTHNumbers", fn := fun _ => fun
  | [d1, d2, d3] => { results := [.lit (.bool true)], args := [d1, d2, d3] }
  | _ => none }
def fnTHNumbersRow : OpenClaim := { program := "ytmjilokgpgajjaa", sum := "856d9f1c17e27d79d5c8f2e558a71045c2a0b63c12c9cc2d68cafa7e32b5b057", func := "given.example/pub-burnisher/laws.FnTHNumbers", spec := "fnTHNumbers", inPlace := ["math.Float64frombits"], unfollowed := true, recurses := true, apart := false }
def FnTHNumbersSaid : Prop := fnTHNumbersRow.holds Try.pinned (OpenSpec.ofChange fnTHNumbersSpec)

/-- ITS FALSE NEIGHBOUR: 'it returns false'. Refute it at one input. -/
def fnTHNumbersWrong : ChangeSpec := { name := "fnTHNumbers", fn := fun _ => fun
  | [d1, d2, d3] => { results := [.lit (.bool false)], args := [d1, d2, d3] }
  | _ => none }
def FnTHNumbersWrongFalsely : Prop := fnTHNumbersRow.holds Try.pinned (OpenSpec.ofChange fnTHNumbersWrong)

/-- 'laws.FnTHWrites': WHATEVER THE INPUT: true; the input reads as it did. -/
def fnTHWritesSpec : ChangeSpec := { name := "fnTHWrites", fn := fun _ => fun
  | [d1, d2, d3, d4, d5] => { results := [.lit (.bool true)], args := [d1, d2, d3, d4, d5] }
  | _ => none }
def fnTHWritesRow : OpenClaim := { program := "ytmjilokgpgajjaa", sum := "856d9f1c17e27d79d5c8f2e558a71045c2a0b63c12c9cc2d68cafa7e32b5b057", func := "given.example/pub-burnisher/laws.FnTHWrites", spec := "fnTHWrites", inPlace := ["math.Float64frombits"], unfollowed := true, recurses := true, apart := false }
def FnTHWritesSaid : Prop := fnTHWritesRow.holds Try.pinned (OpenSpec.ofChange fnTHWritesSpec)

/-- ITS FALSE NEIGHBOUR: 'it returns false'. Refute it at one input. -/
def fnTHWritesWrong : ChangeSpec := { name := "fnTHWrites", fn := fun _ => fun
  | [d1, d2, d3, d4, d5] => { results := [.lit (.bool false)], args := [d1, d2, d3, d4, d5] }
  | _ => none }
def FnTHWritesWrongFalsely : Prop := fnTHWritesRow.holds Try.pinned (OpenSpec.ofChange fnTHWritesWrong)

/-- 'laws.FnTHReads': WHATEVER THE INPUT: true; the input reads as it did. -/
def fnTHReadsSpec : ChangeSpec := { name := "fnTHReads", fn := fun _ => fun
  | [d1, d2, d3, d4, d5, d6] => { results := [.lit (.bool true)], args := [d1, d2, d3, d4, d5, d6] }
  | _ => none }
def fnTHReadsRow : OpenClaim := { program := "ytmjilokgpgajjaa", sum := "856d9f1c17e27d79d5c8f2e558a71045c2a0b63c12c9cc2d68cafa7e32b5b057", func := "given.example/pub-burnisher/laws.FnTHReads", spec := "fnTHReads", inPlace := ["math.Float64bits"], unfollowed := true, recurses := true, apart := false }
def FnTHReadsSaid : Prop := fnTHReadsRow.holds Try.pinned (OpenSpec.ofChange fnTHReadsSpec)

/-- ITS FALSE NEIGHBOUR: 'it returns false'. Refute it at one input. -/
def fnTHReadsWrong : ChangeSpec := { name := "fnTHReads", fn := fun _ => fun
  | [d1, d2, d3, d4, d5, d6] => { results := [.lit (.bool false)], args := [d1, d2, d3, d4, d5, d6] }
  | _ => none }
def FnTHReadsWrongFalsely : Prop := fnTHReadsRow.holds Try.pinned (OpenSpec.ofChange fnTHReadsWrong)

/- THE SECOND FORM. 'bulk': how many values and letters a reading holds, each counted each time it is reached (what is shared counts as often as it is met; a slice's spare places count too). A statement '..UptoSaid' is the law's where the arguments, and the package variables that the reading takes, are together of bulk at most 1048576: NARROWER than '..Said'. Prove '..Said' where nothing that the law and all that it calls make is longer than what came in: it says more and counts as full. Else prove '..UptoSaid'. A law counts once. -/
mutual
def uptoBulk {H : Type} : DataW H → Nat
  | .lit (.string bytes) => bytes.length + 1
  | .lit _ => 1
  | .nil => 1
  | .ptr d => uptoBulk d + 1
  | .slice elems spare => uptoBulkAll elems + uptoBulkAll spare + 1
  | .agg parts => uptoBulkAll parts + 1
  | .iface _ d => uptoBulk d + 1
  | .map entries => uptoBulkEntries entries + 1
  | .held _ => 1
def uptoBulkAll {H : Type} : List (DataW H) → Nat
  | [] => 0
  | d :: r => uptoBulk d + uptoBulkAll r
def uptoBulkEntries {H : Type} : List (Lit × DataW H) → Nat
  | [] => 0
  | x :: r => uptoBulkEntry x + uptoBulkEntries r
def uptoBulkEntry {H : Type} : Lit × DataW H → Nat
  | (.string bytes, d) => bytes.length + uptoBulk d + 1
  | (_, d) => uptoBulk d + 1
 end
def uptoSmall : (H : Type) → List (DataW H) → Bool := fun _ ds => decide (uptoBulkAll ds ≤ 1048576)
def OpenSpec.upto (s : _root_.Go.ChangeSpec) : _root_.Go.OpenSpec := { _root_.Go.OpenSpec.ofChange s with cond := some uptoSmall }

/-- 'laws.FnTHFeatures', WHERE WHAT IT READS IS OF BULK AT MOST 1048576: true; the input reads as it did. -/
def fnTHFeaturesUptoRow : OpenClaim := { program := "ytmjilokgpgajjaa", sum := "856d9f1c17e27d79d5c8f2e558a71045c2a0b63c12c9cc2d68cafa7e32b5b057", func := "given.example/pub-burnisher/laws.FnTHFeatures", spec := "fnTHFeatures", unfollowed := true, recurses := true, apart := false, narrowed := true }
def FnTHFeaturesUptoSaid : Prop := fnTHFeaturesUptoRow.holds Try.pinned (OpenSpec.upto fnTHFeaturesSpec)

/-- 'laws.FnTHNumbers', WHERE WHAT IT READS IS OF BULK AT MOST 1048576: true; the input reads as it did. -/
def fnTHNumbersUptoRow : OpenClaim := { program := "ytmjilokgpgajjaa", sum := "856d9f1c17e27d79d5c8f2e558a71045c2a0b63c12c9cc2d68cafa7e32b5b057", func := "given.example/pub-burnisher/laws.FnTHNumbers", spec := "fnTHNumbers", inPlace := ["math.Float64frombits"], unfollowed := true, recurses := true, apart := false, narrowed := true }
def FnTHNumbersUptoSaid : Prop := fnTHNumbersUptoRow.holds Try.pinned (OpenSpec.upto fnTHNumbersSpec)

/-- 'laws.FnTHWrites', WHERE WHAT IT READS IS OF BULK AT MOST 1048576: true; the input reads as it did. -/
def fnTHWritesUptoRow : OpenClaim := { program := "ytmjilokgpgajjaa", sum := "856d9f1c17e27d79d5c8f2e558a71045c2a0b63c12c9cc2d68cafa7e32b5b057", func := "given.example/pub-burnisher/laws.FnTHWrites", spec := "fnTHWrites", inPlace := ["math.Float64frombits"], unfollowed := true, recurses := true, apart := false, narrowed := true }
def FnTHWritesUptoSaid : Prop := fnTHWritesUptoRow.holds Try.pinned (OpenSpec.upto fnTHWritesSpec)

/-- 'laws.FnTHReads', WHERE WHAT IT READS IS OF BULK AT MOST 1048576: true; the input reads as it did. -/
def fnTHReadsUptoRow : OpenClaim := { program := "ytmjilokgpgajjaa", sum := "856d9f1c17e27d79d5c8f2e558a71045c2a0b63c12c9cc2d68cafa7e32b5b057", func := "given.example/pub-burnisher/laws.FnTHReads", spec := "fnTHReads", inPlace := ["math.Float64bits"], unfollowed := true, recurses := true, apart := false, narrowed := true }
def FnTHReadsUptoSaid : Prop := fnTHReadsUptoRow.holds Try.pinned (OpenSpec.upto fnTHReadsSpec)

end Rows
end Go.Proofs.Ytmjilokgpgajjaa
