/- The closed facts that name the program alone, for all rows of the seat. -/
import Derived.Test.YtekmminmgjoabaaDoorRows
import Derived.JoinedOf
import Derived.KernelRfl
import Derived.ProofKit
namespace Go.Proofs.YtekmminmgjoabaaDoor.Facts
open Go
set_option linter.unusedVariables false
set_option maxRecDepth 100000 in
theorem s0 : (fun (P : Program) (f : FuncId) (fn : Func) (s : ChangeSpec) (c : OpenClaim) => (laidOutB P : Bool)) Tryd.prog 8 Tryd.f8 Rows.fnJSTokensSpec Rows.fnJSTokensRow = true := by kernel_rfl
set_option maxRecDepth 100000 in
theorem s1 : (fun (P : Program) (f : FuncId) (fn : Func) (s : ChangeSpec) (c : OpenClaim) => (mapsRowed P : Bool)) Tryd.prog 8 Tryd.f8 Rows.fnJSTokensSpec Rows.fnJSTokensRow = true := by kernel_rfl
set_option maxRecDepth 100000 in
theorem s2 : (fun (P : Program) (f : FuncId) (fn : Func) (s : ChangeSpec) (c : OpenClaim) => ((P.stops == []) : Bool)) Tryd.prog 8 Tryd.f8 Rows.fnJSTokensSpec Rows.fnJSTokensRow = true := by kernel_rfl
set_option maxRecDepth 100000 in
theorem s3 : (fun (P : Program) (f : FuncId) (fn : Func) (s : ChangeSpec) (c : OpenClaim) => ((P.stopKnobs == []) : Bool)) Tryd.prog 8 Tryd.f8 Rows.fnJSTokensSpec Rows.fnJSTokensRow = true := by kernel_rfl
set_option maxRecDepth 100000 in
theorem s4 : (fun (P : Program) (f : FuncId) (fn : Func) (s : ChangeSpec) (c : OpenClaim) => (P.stopsHeard : Bool)) Tryd.prog 8 Tryd.f8 Rows.fnJSTokensSpec Rows.fnJSTokensRow = true := by kernel_rfl
set_option maxRecDepth 100000 in
theorem s5 : (fun (P : Program) (f : FuncId) (fn : Func) (s : ChangeSpec) (c : OpenClaim) => (P.mayEnter : Bool)) Tryd.prog 8 Tryd.f8 Rows.fnJSTokensSpec Rows.fnJSTokensRow = true := by kernel_rfl
set_option maxRecDepth 100000 in
theorem s6 : (fun (P : Program) (f : FuncId) (fn : Func) (s : ChangeSpec) (c : OpenClaim) => ((c.lifted == P.liftsFinal) : Bool)) Tryd.prog 8 Tryd.f8 Rows.fnJSTokensSpec Rows.fnJSTokensRow = true := by kernel_rfl
set_option maxRecDepth 100000 in
theorem s7 : (fun (P : Program) (f : FuncId) (fn : Func) (s : ChangeSpec) (c : OpenClaim) => ((P.make == some c.make) : Bool)) Tryd.prog 8 Tryd.f8 Rows.fnJSTokensSpec Rows.fnJSTokensRow = true := by kernel_rfl
set_option maxRecDepth 100000 in
theorem s8 : (fun (P : Program) (f : FuncId) (fn : Func) (s : ChangeSpec) (c : OpenClaim) => ((c.plainKeys == P.plainKeys) : Bool)) Tryd.prog 8 Tryd.f8 Rows.fnJSTokensSpec Rows.fnJSTokensRow = true := by kernel_rfl
end Go.Proofs.YtekmminmgjoabaaDoor.Facts

