/- Written by laws.py: a raw value's first byte. The text of a value without blanks, by its shape. Written by val.py: parseValue asks the parser that the first byte tells. Written by val.py: parseArray over the text of an array. Written by val.py: parseObject over the text of an object. Written by val.py: parseValue over the text of any value. -/
import Derived.Test.YtekmminmgjoabaaDoorZRr
import Derived.Test.YtekmminmgjoabaaDoorZKa
import Derived.Test.YtekmminmgjoabaaDoorZSa
import Derived.Deep.RegionLaw
namespace Go.Proofs.YtekmminmgjoabaaDoor.Js
open Go.RowKit Go.Proofs.YtekmminmgjoabaaDoorW.PrintWords Go.Proofs.YtekmminmgjoabaaDoorW.PrintLast Go.Proofs.YtekmminmgjoabaaDoorW.PrintMore Go.Proofs.YtekmminmgjoabaaDoor.PFnJSTokens
set_option linter.unusedVariables false
set_option linter.unusedSimpArgs false
end Go.Proofs.YtekmminmgjoabaaDoor.Js

namespace Go.Proofs.YtekmminmgjoabaaDoor.Js
open Go.RowKit Go.Proofs.YtekmminmgjoabaaDoorW.PrintWords Go.Proofs.YtekmminmgjoabaaDoorW.PrintLast Go.Proofs.YtekmminmgjoabaaDoorW.PrintMore Go.Proofs.YtekmminmgjoabaaDoor.PFnJSTokens
set_option linter.unusedVariables false
set_option linter.unusedSimpArgs false
/-- What a byte may be that begins a value. -/
def Begins (b : Int) : Prop := 33 ≤ b ∧ b ≤ 255 ∧ b ≠ 93 ∧ b ≠ 125 ∧ b ≠ 44 ∧ b ≠ 58
theorem Begins.sp {b : Int} (h : Begins b) : isSp b = false := by
  obtain ⟨h1, -⟩ := h
  simp [isSp]; omega
end Go.Proofs.YtekmminmgjoabaaDoor.Js

namespace Go.Proofs.YtekmminmgjoabaaDoor.Js
open Go.RowKit Go.Proofs.YtekmminmgjoabaaDoorW.PrintWords Go.Proofs.YtekmminmgjoabaaDoorW.PrintLast Go.Proofs.YtekmminmgjoabaaDoorW.PrintMore Go.Proofs.YtekmminmgjoabaaDoor.PFnJSTokens
set_option linter.unusedVariables false
set_option linter.unusedSimpArgs false
end Go.Proofs.YtekmminmgjoabaaDoor.Js

namespace Go.Proofs.YtekmminmgjoabaaDoor.Js
open Go.RowKit Go.Proofs.YtekmminmgjoabaaDoorW.PrintWords Go.Proofs.YtekmminmgjoabaaDoorW.PrintLast Go.Proofs.YtekmminmgjoabaaDoorW.PrintMore Go.Proofs.YtekmminmgjoabaaDoor.PFnJSTokens
set_option linter.unusedVariables false
set_option linter.unusedSimpArgs false
theorem Sl.first {w : World} {B : Nat} {v : Value} {b : Int} {l : List Int} (h : Sl w B v (b :: l)) : ∃ ad m c, v = .slice (some ad) m c ∧ m = l.length + 1 ∧ w.cell? ad = some (.int .u8 b) := by
  obtain ⟨A, c, rfl, -⟩ := h.form
  obtain ⟨ad, rfl, h1, -⟩ := h.at_ 0 (by simp)
  have e0 : ad.add 0 = ad := by simp [Addr.add]
  rw [e0] at h1
  exact ⟨ad, _, c, rfl, by simp, h1⟩
theorem Sl.formv {w : World} {B : Nat} {v : Value} {zs : List Int} (h : Sl w B v zs) : ∃ A m c, v = .slice A m c ∧ m = zs.length := by
  obtain ⟨A, c, rfl, -⟩ := h.form
  exact ⟨A, _, c, rfl, rfl⟩
theorem blk116 {w0 W : World} {g : Nat} {fl : Int} (h : w0.heap[g]? = some (.cells #[.int .u32 fl] 116 (0, 0))) (hb : Below w0.heap.size w0 W) : W.cell? ⟨g, 0, none⟩ = some (.int .u32 fl) := (blk_cell (blk_below h hb) 0).trans rfl
end Go.Proofs.YtekmminmgjoabaaDoor.Js

namespace Go.Proofs.YtekmminmgjoabaaDoor.Js
open Go.RowKit Go.Proofs.YtekmminmgjoabaaDoorW.PrintWords Go.Proofs.YtekmminmgjoabaaDoorW.PrintLast Go.Proofs.YtekmminmgjoabaaDoorW.PrintMore Go.Proofs.YtekmminmgjoabaaDoor.PFnJSTokens
set_option linter.unusedVariables false
set_option linter.unusedSimpArgs false
end Go.Proofs.YtekmminmgjoabaaDoor.Js

namespace Go.Proofs.YtekmminmgjoabaaDoor.Js
open Go.RowKit Go.Proofs.YtekmminmgjoabaaDoorW.PrintWords Go.Proofs.YtekmminmgjoabaaDoorW.PrintLast Go.Proofs.YtekmminmgjoabaaDoorW.PrintMore Go.Proofs.YtekmminmgjoabaaDoor.PFnJSTokens
set_option linter.unusedVariables false
set_option linter.unusedSimpArgs false
theorem ParsePost.imp {w : World} {B : Nat} {v r : List Int} {KS KS' : Int → Prop} {e : Ending} {w' : World} (h : ParsePost w B v r KS e w') (hk : ∀ K, KS K → KS' K) : ParsePost w B v r KS' e w' := by
  obtain ⟨v1, v2, K, h1, h2, h3⟩ := h
  exact ⟨v1, v2, K, h1, hk K h2, h3⟩
end Go.Proofs.YtekmminmgjoabaaDoor.Js

