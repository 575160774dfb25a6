/- The closed facts of the row of FnJSLess, and the row: that its open claim holds. -/
import Derived.Test.YtekmminmgjoabaaDoorYLJSLess
import Derived.Test.YtekmminmgjoabaaDoorYJsFacts
namespace Go.Proofs.YtekmminmgjoabaaDoor.OwnJSLess
open Go.ChangeShapes Go.WideShapes Go.ChangeAt Go.RowKit
set_option linter.unusedVariables false
theorem named_ : Tryd.prog.funcNamed Rows.fnJSLessRow.func = some 12 := by kernel_rfl
set_option maxRecDepth 100000 in
theorem c0 : (fun (P : Program) (f : FuncId) (fn : Func) (s : ChangeSpec) (c : OpenClaim) => (c.wf (OpenSpec.ofChange s) : Bool)) Tryd.prog 12 Tryd.f12 Rows.fnJSLessSpec Rows.fnJSLessRow = true := by kernel_rfl
set_option maxRecDepth 100000 in
theorem c3 : (fun (P : Program) (f : FuncId) (fn : Func) (s : ChangeSpec) (c : OpenClaim) => (fn.params.all (P.readableRec ·) : Bool)) Tryd.prog 12 Tryd.f12 Rows.fnJSLessSpec Rows.fnJSLessRow = true := by kernel_rfl
set_option maxRecDepth 100000 in
theorem c4 : (fun (P : Program) (f : FuncId) (fn : Func) (s : ChangeSpec) (c : OpenClaim) => (namedTie P c.named s.vars : Bool)) Tryd.prog 12 Tryd.f12 Rows.fnJSLessSpec Rows.fnJSLessRow = true := by kernel_rfl
set_option maxRecDepth 100000 in
theorem c5 : (fun (P : Program) (f : FuncId) (fn : Func) (s : ChangeSpec) (c : OpenClaim) => ((c.stops == []) : Bool)) Tryd.prog 12 Tryd.f12 Rows.fnJSLessSpec Rows.fnJSLessRow = true := by kernel_rfl
set_option maxRecDepth 100000 in
theorem c7 : (fun (P : Program) (f : FuncId) (fn : Func) (s : ChangeSpec) (c : OpenClaim) => ((c.knobs == []) : Bool)) Tryd.prog 12 Tryd.f12 Rows.fnJSLessSpec Rows.fnJSLessRow = true := by kernel_rfl
set_option maxRecDepth 100000 in
theorem c9 : (fun (P : Program) (f : FuncId) (fn : Func) (s : ChangeSpec) (c : OpenClaim) => ((c.inPlace == P.inPlace f) : Bool)) Tryd.prog 12 Tryd.f12 Rows.fnJSLessSpec Rows.fnJSLessRow = true := by kernel_rfl
set_option maxRecDepth 100000 in
theorem c10 : (fun (P : Program) (f : FuncId) (fn : Func) (s : ChangeSpec) (c : OpenClaim) => ((c.unfollowed == P.unfollowed f) : Bool)) Tryd.prog 12 Tryd.f12 Rows.fnJSLessSpec Rows.fnJSLessRow = true := by kernel_rfl
set_option maxRecDepth 100000 in
theorem c11 : (fun (P : Program) (f : FuncId) (fn : Func) (s : ChangeSpec) (c : OpenClaim) => ((c.recurses == P.recurses f) : Bool)) Tryd.prog 12 Tryd.f12 Rows.fnJSLessSpec Rows.fnJSLessRow = true := by kernel_rfl
set_option maxRecDepth 100000 in
theorem c12 : (fun (P : Program) (f : FuncId) (fn : Func) (s : ChangeSpec) (c : OpenClaim) => ((c.named == P.varsNamed f) : Bool)) Tryd.prog 12 Tryd.f12 Rows.fnJSLessSpec Rows.fnJSLessRow = true := by kernel_rfl
set_option maxRecDepth 100000 in
theorem c13 : (fun (P : Program) (f : FuncId) (fn : Func) (s : ChangeSpec) (c : OpenClaim) => ((c.maps == (fn.params.toList ++ s.plain.varTypes P).any (P.mapsRec ·)) : Bool)) Tryd.prog 12 Tryd.f12 Rows.fnJSLessSpec Rows.fnJSLessRow = true := by kernel_rfl
set_option maxRecDepth 100000 in
theorem c14 : (fun (P : Program) (f : FuncId) (fn : Func) (s : ChangeSpec) (c : OpenClaim) => ((c.ifaces == (fn.params.toList ++ s.plain.varTypes P).any (P.ifacesRec ·)) : Bool)) Tryd.prog 12 Tryd.f12 Rows.fnJSLessSpec Rows.fnJSLessRow = true := by kernel_rfl
set_option maxRecDepth 100000 in
theorem c15 : (fun (P : Program) (f : FuncId) (fn : Func) (s : ChangeSpec) (c : OpenClaim) => ((c.mapsOut == P.mapsAmong fn.resultTypes.toList) : Bool)) Tryd.prog 12 Tryd.f12 Rows.fnJSLessSpec Rows.fnJSLessRow = true := by kernel_rfl
set_option maxRecDepth 100000 in
theorem c16 : (fun (P : Program) (f : FuncId) (fn : Func) (s : ChangeSpec) (c : OpenClaim) => ((c.loops == (fn.params.toList ++ s.plain.varTypes P).any (P.loopsFrom ·)) : Bool)) Tryd.prog 12 Tryd.f12 Rows.fnJSLessSpec Rows.fnJSLessRow = true := by kernel_rfl
set_option maxRecDepth 100000 in
theorem c17 : (fun (P : Program) (f : FuncId) (fn : Func) (s : ChangeSpec) (c : OpenClaim) => ((c.wideKeys == (fn.params.toList ++ s.plain.varTypes P ++ fn.resultTypes.toList).any (P.wideKeysFrom ·)) : Bool)) Tryd.prog 12 Tryd.f12 Rows.fnJSLessSpec Rows.fnJSLessRow = true := by kernel_rfl
set_option maxRecDepth 100000 in
theorem c18 : (fun (P : Program) (f : FuncId) (fn : Func) (s : ChangeSpec) (c : OpenClaim) => (s.vars.all (P.varReadable ·) : Bool)) Tryd.prog 12 Tryd.f12 Rows.fnJSLessSpec Rows.fnJSLessRow = true := by kernel_rfl
set_option maxRecDepth 100000 in
theorem c19 : (fun (P : Program) (f : FuncId) (fn : Func) (s : ChangeSpec) (c : OpenClaim) => (fn.resultTypes.all (fun t => P.readableRec t && decide (t < P.types.size)) : Bool)) Tryd.prog 12 Tryd.f12 Rows.fnJSLessSpec Rows.fnJSLessRow = true := by kernel_rfl
set_option maxRecDepth 100000 in
theorem c20 : (fun (P : Program) (f : FuncId) (fn : Func) (s : ChangeSpec) (c : OpenClaim) => ((c.ifacesOut == fn.resultTypes.toList.any (P.ifacesRec ·)) : Bool)) Tryd.prog 12 Tryd.f12 Rows.fnJSLessSpec Rows.fnJSLessRow = true := by kernel_rfl
set_option maxRecDepth 100000 in
theorem c21 : (fun (P : Program) (f : FuncId) (fn : Func) (s : ChangeSpec) (c : OpenClaim) => ((c.loopsOut == fn.resultTypes.toList.any (P.loopsFrom ·)) : Bool)) Tryd.prog 12 Tryd.f12 Rows.fnJSLessSpec Rows.fnJSLessRow = true := by kernel_rfl
set_option maxRecDepth 100000 in
theorem c23 : (fun (P : Program) (f : FuncId) (fn : Func) (s : ChangeSpec) (c : OpenClaim) => (c.shortTexts.isNone : Bool)) Tryd.prog 12 Tryd.f12 Rows.fnJSLessSpec Rows.fnJSLessRow = true := by kernel_rfl
set_option maxRecDepth 100000 in
theorem c28 : (fun (P : Program) (f : FuncId) (fn : Func) (s : ChangeSpec) (c : OpenClaim) => ((c.kinds == (if c.domain.isEmpty then [] else fn.params.toList.map fun t => match P.underlying t with | some (.int k) => some k | _ => none)) : Bool)) Tryd.prog 12 Tryd.f12 Rows.fnJSLessSpec Rows.fnJSLessRow = true := by kernel_rfl
set_option maxRecDepth 100000 in
theorem c29 : (fun (P : Program) (f : FuncId) (fn : Func) (s : ChangeSpec) (c : OpenClaim) => ((c.pinned == c.pinnedBy) : Bool)) Tryd.prog 12 Tryd.f12 Rows.fnJSLessSpec Rows.fnJSLessRow = true := by kernel_rfl
set_option maxRecDepth 100000 in
theorem c30 : (fun (P : Program) (f : FuncId) (fn : Func) (s : ChangeSpec) (c : OpenClaim) => ((c.veiled == (fn.params.toList ++ s.plain.varTypes P ++ fn.resultTypes.toList).any (P.veiledRec ·)) : Bool)) Tryd.prog 12 Tryd.f12 Rows.fnJSLessSpec Rows.fnJSLessRow = true := by kernel_rfl
set_option maxRecDepth 100000 in
theorem c31 : (fun (P : Program) (f : FuncId) (fn : Func) (s : ChangeSpec) (c : OpenClaim) => (c.veiledFits P fn.params.toList (fn.params.toList ++ s.plain.varTypes P ++ fn.resultTypes.toList) : Bool)) Tryd.prog 12 Tryd.f12 Rows.fnJSLessSpec Rows.fnJSLessRow = true := by kernel_rfl
set_option maxRecDepth 100000 in
theorem closed_ : joinedFacts Tryd.pinned.checked.prog 12 Tryd.f12 Rows.fnJSLessSpec Rows.fnJSLessRow = true := by
  unfold joinedFacts
  simp only [Bool.and_eq_true]
  exact ⟨⟨⟨⟨⟨⟨⟨⟨⟨⟨⟨⟨⟨⟨⟨⟨⟨⟨⟨⟨⟨⟨⟨⟨⟨⟨⟨⟨⟨⟨⟨c0, Facts.s0⟩, Facts.s1⟩, c3⟩, c4⟩, c5⟩, Facts.s2⟩, c7⟩, Facts.s3⟩, c9⟩, c10⟩, c11⟩, c12⟩, c13⟩, c14⟩, c15⟩, c16⟩, c17⟩, c18⟩, c19⟩, c20⟩, c21⟩, Facts.s8⟩, c23⟩, Facts.s4⟩, Facts.s5⟩, Facts.s6⟩, Facts.s7⟩, c28⟩, c29⟩, c30⟩, c31⟩

set_option maxRecDepth 100000 in
theorem over : Rows.fnJSLessRow.holds Tryd.pinned (OpenSpec.ofChange Rows.fnJSLessSpec) :=
  OpenClaim.holds_of_wide 12 Tryd.f12 rfl rfl rfl rfl rfl rfl rfl ⟨rfl, rfl, rfl, rfl, rfl⟩ rfl rfl rfl rfl rfl named_ Tryd.func12 closed_
    (of_decide_eq_true (by kernel_rfl)) (by unfold Func.isWrapper; first | (rw [if_pos (by decide +kernel)]; kernel_rfl) | (rw [if_neg (by decide +kernel)]; exact ⟨rfl, rfl⟩))
    (fun os started H enc _ => lifted os started H enc)
end Go.Proofs.YtekmminmgjoabaaDoor.OwnJSLess

