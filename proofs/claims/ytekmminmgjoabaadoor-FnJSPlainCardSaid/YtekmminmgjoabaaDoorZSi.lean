/- A tokenizer on the first token of a plain value's text. The decimal digits of a number, pure. Reading a whole number: parseUint over digits. Reading a whole number: parseInt over digits without a sign. Reading a whole number: parseInt over digits behind a sign. Tokenizer.Uint, Tokenizer.Int on a token of digits. impl.JSUint, impl.JSInt on blanks and a number's text. -/
import Derived.Test.YtekmminmgjoabaaDoorZSa
import Derived.Lib.ItoaNum
import Derived.Test.YtekmminmgjoabaaDoorZSv
import Derived.Deep.RegionHeld3
namespace Go.Proofs.YtekmminmgjoabaaDoor.Js
open Go.RowKit Go.Proofs.YtekmminmgjoabaaDoorW.PrintWords Go.Proofs.YtekmminmgjoabaaDoorW.PrintLast Go.Proofs.YtekmminmgjoabaaDoorW.PrintMore Go.Proofs.YtekmminmgjoabaaDoor.PFnJSTokens
set_option linter.unusedVariables false
set_option linter.unusedSimpArgs false
/-- The tokenizer at T stands on the token v. -/
def OnTok (w : World) (B T : Nat) (v : List Int) : Prop := ∃ vv js sp K p q dp ix ik nk, w.heap[T]? = some (.cells (tzr 0 vv .nilIface dp ix ik nk js sp (flK p q K)) 118 (0, 0)) ∧ Sl w B vv v
end Go.Proofs.YtekmminmgjoabaaDoor.Js

namespace Go.Proofs.YtekmminmgjoabaaDoor.Js
set_option linter.unusedVariables false
set_option linter.unusedSimpArgs false
def nums (u : Nat) : List Int := (Lib.decDigits u).map fun b => (b.toNat : Int)
end Go.Proofs.YtekmminmgjoabaaDoor.Js

namespace Go.Proofs.YtekmminmgjoabaaDoor.Js
open Go.RowKit Go.Proofs.YtekmminmgjoabaaDoorW.PrintWords Go.Proofs.YtekmminmgjoabaaDoorW.PrintLast Go.Proofs.YtekmminmgjoabaaDoorW.PrintMore Go.Proofs.YtekmminmgjoabaaDoor.PFnJSTokens
set_option linter.unusedVariables false
set_option linter.unusedSimpArgs false
end Go.Proofs.YtekmminmgjoabaaDoor.Js

namespace Go.Proofs.YtekmminmgjoabaaDoor.Js
open Go.RowKit Go.Proofs.YtekmminmgjoabaaDoorW.PrintWords Go.Proofs.YtekmminmgjoabaaDoorW.PrintLast Go.Proofs.YtekmminmgjoabaaDoorW.PrintMore Go.Proofs.YtekmminmgjoabaaDoor.PFnJSTokens
set_option linter.unusedVariables false
set_option linter.unusedSimpArgs false
end Go.Proofs.YtekmminmgjoabaaDoor.Js

namespace Go.Proofs.YtekmminmgjoabaaDoor.Js
open Go.RowKit Go.Proofs.YtekmminmgjoabaaDoorW.PrintWords Go.Proofs.YtekmminmgjoabaaDoorW.PrintLast Go.Proofs.YtekmminmgjoabaaDoorW.PrintMore Go.Proofs.YtekmminmgjoabaaDoor.PFnJSTokens
set_option linter.unusedVariables false
set_option linter.unusedSimpArgs false
end Go.Proofs.YtekmminmgjoabaaDoor.Js

namespace Go.Proofs.YtekmminmgjoabaaDoor.Js
open Go.RowKit Go.Proofs.YtekmminmgjoabaaDoorW.PrintWords Go.Proofs.YtekmminmgjoabaaDoorW.PrintLast Go.Proofs.YtekmminmgjoabaaDoorW.PrintMore Go.Proofs.YtekmminmgjoabaaDoor.PFnJSTokens
set_option linter.unusedVariables false
set_option linter.unusedSimpArgs false
end Go.Proofs.YtekmminmgjoabaaDoor.Js

namespace Go.Proofs.YtekmminmgjoabaaDoor.Js
open Go.RowKit Go.Proofs.YtekmminmgjoabaaDoorW.PrintWords Go.Proofs.YtekmminmgjoabaaDoorW.PrintLast Go.Proofs.YtekmminmgjoabaaDoorW.PrintMore Go.Proofs.YtekmminmgjoabaaDoor.PFnJSTokens
set_option linter.unusedVariables false
set_option linter.unusedSimpArgs false
theorem OnTok.keep {W W' : World} {B T g : Nat} {v : List Int} {b : Value} (h : OnTok W B T v) (hg : W.heap[g]? = some (.cells #[b] 4 (0, 0))) (hk : KeepBut W W' g none) (hb : Below B W W') : OnTok W' B T v := by
  obtain ⟨vv, js, sp, K, p, q, dp, ix, ik, nk, hT, hs⟩ := h
  have hne : T ≠ g := by
    rintro rfl
    rw [hT] at hg
    injection hg with hg
    injection hg with h1 h2
    exact absurd h2 (by decide)
  exact ⟨vv, js, sp, K, p, q, dp, ix, ik, nk, (hk.2 T (blk_lt hT) hne (by simp)).trans hT, hs.below hb⟩
theorem OnTok.drew {W : World} {B T : Nat} {v : List Int} (h : OnTok W B T v) : OnTok W.drew B T v := by
  obtain ⟨vv, js, sp, K, p, q, dp, ix, ik, nk, hT, hs⟩ := h
  exact ⟨vv, js, sp, K, p, q, dp, ix, ik, nk, hT, hs.same rfl⟩
/-- What holds all along the region behind the first token. -/
def Held3 (w W : World) : Prop := W.heap[w.heap.size]? = some (.cells #[.bool true] 4 (0, 0)) ∧ Below w.heap.size w W
theorem Held3.cell {w W : World} (h : Held3 w W) : W.cell? ⟨w.heap.size, 0, none⟩ = some (.bool true) := (blk_cell h.1 0).trans rfl
theorem Held3.free {w W : World} (h : Held3 w W) : W.frozen? ⟨w.heap.size, 0, none⟩ = false := blk_frozen h.1 0
theorem Held3.drew {w W : World} (h : Held3 w W) : Held3 w W.drew := ⟨h.1, below_drew h.2⟩
theorem Held3.below {w W W' : World} (h : Held3 w W) (hb : Below W.heap.size W W') : Held3 w W' := ⟨blk_below h.1 hb, h.2.trans (hb.mono h.2.size)⟩
theorem Held3.set {w W : World} (h : Held3 w W) : Held3 w (W.setCell ⟨w.heap.size, 0, none⟩ (.bool true)) := ⟨blk_set h.1 0 _, h.2.setCell (Nat.le_refl _) _⟩
end Go.Proofs.YtekmminmgjoabaaDoor.Js

