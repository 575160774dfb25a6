/-
  No cell of these rows narrows 'for every input' (looked for: loops, veiled, ifaces, maps, wideKeys, modest, calm, conditions, laid).
  DERIVED. THE GIVEN ROWS OF THIS SEAT. 4 by the template 'for every input the law returns true; each argument reads behind the call as it read before'; 0 by the template 'total and deterministic' (their statements: YtmjilokgpgajjaaGreatTotals.lean).
  GIVEN WITH THE SEED: the statements are not yours to turn. If you find one false, say at which input.
  Laid BY PROGRAM, IN A SANDBOX (cutbox-rows.mjs): the forced cells as the released guide's own fill.sh prints them over the translation a40fc2376637d1b3… (all of the seat's roots in one cut). By AI agents, Wed Nov 11 2026. No macro, syntax, notation, axiom, sorry.
-/
import Derived.Test.YtmjilokgpgajjaaGreatChecked
import GoSem.Claim
import GoSem.ClaimJoined
import GoSem.ClaimMapViews
import Derived.JoinedTies
import Derived.KernelRfl
namespace Go.Proofs.YtmjilokgpgajjaaGreat
/- THE CELL 'sum', in the pinned program and in every row, IS THE sha256 OF THE DUMP (.gsa) THAT YtmjilokgpgajjaaGreatProg.lean LOADS. Nothing in Lean hashes anything: it is a label: what it is worth is what the hold of that sum in a sandbox is worth. -/
noncomputable def Tryz.pinned : Pinned := { name := "ytmjilokgpgajjaagreat", sum := "a40fc2376637d1b3bdded7cc905ec3d64f246c9635b8aade4c5fa6baf7a00fd8", checked := Tryz.checked }
namespace Rows
def none {H : Type} : Left H := { results := [], args := [] }

/-- 'laws.FnTHCut': WHATEVER THE INPUT: true; the input reads as it did. -/
def fnTHCutSpec : ChangeSpec := { name := "fnTHCut", fn := fun _ => fun
  | [d1, d2, d3, d4, d5, d6] => { results := [.lit (.bool true)], args := [d1, d2, d3, d4, d5, d6] }
  | _ => none }
def fnTHCutRow : OpenClaim := { program := "ytmjilokgpgajjaagreat", sum := "a40fc2376637d1b3bdded7cc905ec3d64f246c9635b8aade4c5fa6baf7a00fd8", func := "given.example/pub-burnisher/laws.FnTHCut", spec := "fnTHCut", inPlace := ["math.Float64frombits", "math.Float64bits"], unfollowed := true, recurses := true, apart := false }
def FnTHCutSaid : Prop := fnTHCutRow.holds Tryz.pinned (OpenSpec.ofChange fnTHCutSpec)

/-- ITS FALSE NEIGHBOUR: 'it returns false'. Refute it at one input. -/
def fnTHCutWrong : ChangeSpec := { name := "fnTHCut", fn := fun _ => fun
  | [d1, d2, d3, d4, d5, d6] => { results := [.lit (.bool false)], args := [d1, d2, d3, d4, d5, d6] }
  | _ => none }
def FnTHCutWrongFalsely : Prop := fnTHCutRow.holds Tryz.pinned (OpenSpec.ofChange fnTHCutWrong)

/-- 'laws.FnTHDelta': WHATEVER THE INPUT: true; the input reads as it did. -/
def fnTHDeltaSpec : ChangeSpec := { name := "fnTHDelta", fn := fun _ => fun
  | [d1, d2] => { results := [.lit (.bool true)], args := [d1, d2] }
  | _ => none }
def fnTHDeltaRow : OpenClaim := { program := "ytmjilokgpgajjaagreat", sum := "a40fc2376637d1b3bdded7cc905ec3d64f246c9635b8aade4c5fa6baf7a00fd8", func := "given.example/pub-burnisher/laws.FnTHDelta", spec := "fnTHDelta", inPlace := ["math.Float64frombits", "math.Float64bits"], unfollowed := true, recurses := true, apart := false }
def FnTHDeltaSaid : Prop := fnTHDeltaRow.holds Tryz.pinned (OpenSpec.ofChange fnTHDeltaSpec)

/-- ITS FALSE NEIGHBOUR: 'it returns false'. Refute it at one input. -/
def fnTHDeltaWrong : ChangeSpec := { name := "fnTHDelta", fn := fun _ => fun
  | [d1, d2] => { results := [.lit (.bool false)], args := [d1, d2] }
  | _ => none }
def FnTHDeltaWrongFalsely : Prop := fnTHDeltaRow.holds Tryz.pinned (OpenSpec.ofChange fnTHDeltaWrong)

/-- 'laws.FnTHScripts': WHATEVER THE INPUT: true; the input reads as it did. -/
def fnTHScriptsSpec : ChangeSpec := { name := "fnTHScripts", fn := fun _ => fun
  | [d1, d2] => { results := [.lit (.bool true)], args := [d1, d2] }
  | _ => none }
def fnTHScriptsRow : OpenClaim := { program := "ytmjilokgpgajjaagreat", sum := "a40fc2376637d1b3bdded7cc905ec3d64f246c9635b8aade4c5fa6baf7a00fd8", func := "given.example/pub-burnisher/laws.FnTHScripts", spec := "fnTHScripts", inPlace := ["math.Float64frombits", "math.Float64bits"], unfollowed := true, recurses := true, apart := false }
def FnTHScriptsSaid : Prop := fnTHScriptsRow.holds Tryz.pinned (OpenSpec.ofChange fnTHScriptsSpec)

/-- ITS FALSE NEIGHBOUR: 'it returns false'. Refute it at one input. -/
def fnTHScriptsWrong : ChangeSpec := { name := "fnTHScripts", fn := fun _ => fun
  | [d1, d2] => { results := [.lit (.bool false)], args := [d1, d2] }
  | _ => none }
def FnTHScriptsWrongFalsely : Prop := fnTHScriptsRow.holds Tryz.pinned (OpenSpec.ofChange fnTHScriptsWrong)

/-- 'laws.FnTHStops': WHATEVER THE INPUT: true; the input reads as it did. -/
def fnTHStopsSpec : ChangeSpec := { name := "fnTHStops", fn := fun _ => fun
  | [d] => { results := [.lit (.bool true)], args := [d] }
  | _ => none }
def fnTHStopsRow : OpenClaim := { program := "ytmjilokgpgajjaagreat", sum := "a40fc2376637d1b3bdded7cc905ec3d64f246c9635b8aade4c5fa6baf7a00fd8", func := "given.example/pub-burnisher/laws.FnTHStops", spec := "fnTHStops", inPlace := ["math.Float64frombits", "math.Float64bits"], unfollowed := true, recurses := true, apart := false }
def FnTHStopsSaid : Prop := fnTHStopsRow.holds Tryz.pinned (OpenSpec.ofChange fnTHStopsSpec)

/-- ITS FALSE NEIGHBOUR: 'it returns false'. Refute it at one input. -/
def fnTHStopsWrong : ChangeSpec := { name := "fnTHStops", fn := fun _ => fun
  | [d] => { results := [.lit (.bool false)], args := [d] }
  | _ => none }
def FnTHStopsWrongFalsely : Prop := fnTHStopsRow.holds Tryz.pinned (OpenSpec.ofChange fnTHStopsWrong)

/- THE SECOND FORM. 'bulk': how many values and letters a reading holds, each counted each time it is reached (what is shared counts as often as it is met; a slice's spare places count too). A statement '..UptoSaid' is the law's where the arguments, and the package variables that the reading takes, are together of bulk at most 1048576: NARROWER than '..Said'. Prove '..Said' where nothing that the law and all that it calls make is longer than what came in: it says more and counts as full. Else prove '..UptoSaid'. A law counts once. -/
mutual
def uptoBulk {H : Type} : DataW H → Nat
  | .lit (.string bytes) => bytes.length + 1
  | .lit _ => 1
  | .nil => 1
  | .ptr d => uptoBulk d + 1
  | .slice elems spare => uptoBulkAll elems + uptoBulkAll spare + 1
  | .agg parts => uptoBulkAll parts + 1
  | .iface _ d => uptoBulk d + 1
  | .map entries => uptoBulkEntries entries + 1
  | .held _ => 1
def uptoBulkAll {H : Type} : List (DataW H) → Nat
  | [] => 0
  | d :: r => uptoBulk d + uptoBulkAll r
def uptoBulkEntries {H : Type} : List (Lit × DataW H) → Nat
  | [] => 0
  | x :: r => uptoBulkEntry x + uptoBulkEntries r
def uptoBulkEntry {H : Type} : Lit × DataW H → Nat
  | (.string bytes, d) => bytes.length + uptoBulk d + 1
  | (_, d) => uptoBulk d + 1
 end
def uptoSmall : (H : Type) → List (DataW H) → Bool := fun _ ds => decide (uptoBulkAll ds ≤ 1048576)
def OpenSpec.upto (s : _root_.Go.ChangeSpec) : _root_.Go.OpenSpec := { _root_.Go.OpenSpec.ofChange s with cond := some uptoSmall }

/-- 'laws.FnTHCut', WHERE WHAT IT READS IS OF BULK AT MOST 1048576: true; the input reads as it did. -/
def fnTHCutUptoRow : OpenClaim := { program := "ytmjilokgpgajjaagreat", sum := "a40fc2376637d1b3bdded7cc905ec3d64f246c9635b8aade4c5fa6baf7a00fd8", func := "given.example/pub-burnisher/laws.FnTHCut", spec := "fnTHCut", inPlace := ["math.Float64frombits", "math.Float64bits"], unfollowed := true, recurses := true, apart := false, narrowed := true }
def FnTHCutUptoSaid : Prop := fnTHCutUptoRow.holds Tryz.pinned (OpenSpec.upto fnTHCutSpec)

/-- 'laws.FnTHDelta', WHERE WHAT IT READS IS OF BULK AT MOST 1048576: true; the input reads as it did. -/
def fnTHDeltaUptoRow : OpenClaim := { program := "ytmjilokgpgajjaagreat", sum := "a40fc2376637d1b3bdded7cc905ec3d64f246c9635b8aade4c5fa6baf7a00fd8", func := "given.example/pub-burnisher/laws.FnTHDelta", spec := "fnTHDelta", inPlace := ["math.Float64frombits", "math.Float64bits"], unfollowed := true, recurses := true, apart := false, narrowed := true }
def FnTHDeltaUptoSaid : Prop := fnTHDeltaUptoRow.holds Tryz.pinned (OpenSpec.upto fnTHDeltaSpec)

/-- 'laws.FnTHScripts', WHERE WHAT IT READS IS OF BULK AT MOST 1048576: true; the input reads as it did. -/
def fnTHScriptsUptoRow : OpenClaim := { program := "ytmjilokgpgajjaagreat", sum := "a40fc2376637d1b3bdded7cc905ec3d64f246c9635b8aade4c5fa6baf7a00fd8", func := "given.example/pub-burnisher/laws.FnTHScripts", spec := "fnTHScripts", inPlace := ["math.Float64frombits", "math.Float64bits"], unfollowed := true, recurses := true, apart := false, narrowed := true }
def FnTHScriptsUptoSaid : Prop := fnTHScriptsUptoRow.holds Tryz.pinned (OpenSpec.upto fnTHScriptsSpec)

/-- 'laws.FnTHStops', WHERE WHAT IT READS IS OF BULK AT MOST 1048576: true; the input reads as it did. -/
def fnTHStopsUptoRow : OpenClaim := { program := "ytmjilokgpgajjaagreat", sum := "a40fc2376637d1b3bdded7cc905ec3d64f246c9635b8aade4c5fa6baf7a00fd8", func := "given.example/pub-burnisher/laws.FnTHStops", spec := "fnTHStops", inPlace := ["math.Float64frombits", "math.Float64bits"], unfollowed := true, recurses := true, apart := false, narrowed := true }
def FnTHStopsUptoSaid : Prop := fnTHStopsUptoRow.holds Tryz.pinned (OpenSpec.upto fnTHStopsSpec)

end Rows
end Go.Proofs.YtmjilokgpgajjaaGreat
