/- Written by laws.py: the tokens of a text that is refused. -/
import Derived.Test.YtekmminmgjoabaaDoorSa
import Derived.Test.YtekmminmgjoabaaDoorSb
namespace Go.Proofs.YtekmminmgjoabaaDoor.Js
open Go.RowKit Go.Proofs.YtekmminmgjoabaaDoorW.PrintWords Go.Proofs.YtekmminmgjoabaaDoorW.PrintLast Go.Proofs.YtekmminmgjoabaaDoorW.PrintMore Go.Proofs.YtekmminmgjoabaaDoor.PFnJSTokens
set_option linter.unusedVariables false
set_option linter.unusedSimpArgs false
/-- The tokens of a text that begins an array or an object with a value in it, and ends with the other kind of bracket; or with its own. -/
theorem doorBad (w : World) (A : Option Addr) (m c : Nat) (zs rest : List Int) (ls : List (Tk × Int)) (st2 : St) (hs : Sl w w.heap.size (.slice A m c) zs) (hby : Bytes zs) (hl : zs.length ≤ 2000000000) (hrun : TokRun ⟨[], false⟩ zs ls st2 rest) (hll : ls.length ≤ 2200000000) (ht : Tab w)
    (hbad : ∀ (W : World) (T : Nat) (p q : Bool), w.heap.size ≤ T → TokSt W w.heap.size T st2 rest p q → Calls Tryd.prog 54 #[.pointer (some ⟨T, 0, none⟩)] W (BadPost W w.heap.size T)) :
    Calls Tryd.prog 18 #[.slice A m c] w fun e w' => ∃ v, e = .returned (.tuple #[v, .bool false]) ∧ k37.R 37 w' w.heap.size (fun _ => True) v (ls.map toS) ∧ Below w.heap.size w w' :=
  jsTok w A m c zs rest st2 ls false hs hby hl hrun hll ht (fun W T p q hT hb hst _ => (hbad W T p q hT hst).mono (by
    rintro e w' ⟨rfl, ⟨d, vv, g, dp, ix, ik, nk, js, sp, fl, h⟩, hk⟩
    exact ⟨rfl, ⟨_, _, _, _, _, _, _, _, _, _, h, .inr ⟨rfl, _, rfl⟩⟩, hk⟩))
theorem wtoks_bytes {n : JN} (h : JOk n) : Bytes (wtext [] (n.toks 0 0) 0) := text_is_bytes [] (steps_node h ⟨[], false⟩ 0 0 rfl rfl rfl) 0
end Go.Proofs.YtekmminmgjoabaaDoor.Js
