/- The maker's values: each is what the plain function makes. The value that bytes are, as the laws make it. The writer's blanks. The writer's tokens, one by one. The writer, as far as it has come. A plain value is written. -/
import Derived.Test.YtekmminmgjoabaaDoorZKd
import Derived.Deep.QuietTactic
import Derived.Deep.RegionLaw
namespace Go.Proofs.YtekmminmgjoabaaDoor.Js
open Go.RowKit Go.Proofs.YtekmminmgjoabaaDoorW.PrintWords Go.Proofs.YtekmminmgjoabaaDoorW.PrintLast Go.Proofs.YtekmminmgjoabaaDoorW.PrintMore
end Go.Proofs.YtekmminmgjoabaaDoor.Js

namespace Go.Proofs.YtekmminmgjoabaaDoor.Js
open Go.RowKit Go.Proofs.YtekmminmgjoabaaDoorW.PrintWords Go.Proofs.YtekmminmgjoabaaDoorW.PrintLast Go.Proofs.YtekmminmgjoabaaDoorW.PrintMore
set_option linter.unusedVariables false
set_option linter.unusedSimpArgs false
/-- A value lies at a value v (four cells), of the call's own from base on. -/
def Nd (w : World) (base : Nat) (v : Value) (n : JN) : Prop := ∃ v2 v3, v = .agg #[.int .i64 n.kind, .string (strOfNums n.text), v2, v3] ∧ kJ.M w base (fun _ => True) n [.int .i64 n.kind, .string (strOfNums n.text), v2, v3]
theorem Nd.below {w w' : World} {base : Nat} {v : Value} {n : JN} (h : Nd w base v n) (hb : Below w.heap.size w w') : Nd w' base v n := by
  obtain ⟨v2, v3, e, hm⟩ := h
  exact ⟨v2, v3, e, Kd.M_below hm hb⟩
end Go.Proofs.YtekmminmgjoabaaDoor.Js


namespace Go.Proofs.YtekmminmgjoabaaDoor.Js
open Go.RowKit Go.Proofs.YtekmminmgjoabaaDoorW.PrintWords Go.Proofs.YtekmminmgjoabaaDoorW.PrintLast Go.Proofs.YtekmminmgjoabaaDoorW.PrintMore Go.Proofs.YtekmminmgjoabaaDoor.PFnJSTokens
set_option linter.unusedVariables false
set_option linter.unusedSimpArgs false
/-- A token, as it lies. -/
def toS (p : Tk × Int) : S37 := ⟨p.1.delim, strOfNums p.1.val, p.1.depth, p.1.index, p.1.key, p.2, p.1.cls⟩
theorem Mv.setCell (w : World) (g i : Nat) (v : Value) : Mv w (w.setCell ⟨g, i, none⟩ v) g := ⟨(KeepBut.refl w g none).set_ i v, (Below.refl g w).setCell (Nat.le_refl _) v⟩
theorem Mv.drew {w w1 : World} {m : Nat} (h : Mv w w1 m) : Mv w w1.drew m := ⟨⟨h.keep.1, h.keep.2⟩, below_drew h.below⟩
end Go.Proofs.YtekmminmgjoabaaDoor.Js


namespace Go.Proofs.YtekmminmgjoabaaDoor.Js
open Go.RowKit Go.Proofs.YtekmminmgjoabaaDoorW.PrintWords Go.Proofs.YtekmminmgjoabaaDoorW.PrintLast Go.Proofs.YtekmminmgjoabaaDoorW.PrintMore Go.Proofs.YtekmminmgjoabaaDoor.PFnJSTokens
set_option linter.unusedVariables false
set_option linter.unusedSimpArgs false
theorem info37 : (Tryd.prog.info? 37).map (fun i => (i.zero, i.size, i.bytes)) = some (some (.agg #[.int .u8 0, .string ⟨#[]⟩, .int .i64 0, .int .i64 0, .bool false, .int .i64 0, .int .i64 0]), 7, 64) := by kernel_rfl
/-- What a token leaves: all but the writer and rows of tokens. -/
def Tf (w w' : World) (g : Nat) : Prop := w.heap.size ≤ w'.heap.size ∧ ∀ k, k < w.heap.size → k ≠ g → (∀ cs q, w.heap[k]? ≠ some (.cells cs 37 q)) → w'.heap[k]? = w.heap[k]?
theorem Tf.refl (w : World) (g : Nat) : Tf w w g := ⟨Nat.le_refl _, fun _ _ _ _ => rfl⟩
theorem Tf.of_grown {w w' : World} {g : Nat} {v : Value} (h : w.grownBy w' v.ownBlock) (ht : ∀ k, v.ownBlock = some k → ∃ cs, w.heap[k]? = some (.cells cs 37 (0, 0))) : Tf w w' g :=
  ⟨h.size, fun k hk _ hn => h.block k hk (fun he => by obtain ⟨cs, hc⟩ := ht k he.symm; exact hn cs _ hc)⟩
theorem Tf.trans {w w1 w2 : World} {g : Nat} (h : Tf w w1 g) (k : Tf w1 w2 g) : Tf w w2 g :=
  ⟨Nat.le_trans h.1 k.1, fun i hi hne hn => by
    have e := h.2 i hi hne hn
    exact (k.2 i (Nat.lt_of_lt_of_le hi h.1) hne (fun cs q hc => hn cs q (e ▸ hc))).trans e⟩
theorem Tf.blk {w w' : World} {g b t : Nat} {cs : Array Value} (h : Tf w w' g) (hb : w.heap[b]? = some (.cells cs t (0, 0))) (hg : b ≠ g) (ht : t ≠ 37) : w'.heap[b]? = some (.cells cs t (0, 0)) :=
  (h.2 b (blk_lt hb) hg (fun cs' q hc => by rw [hb] at hc; injection hc with hc; injection hc with _ hc _; exact ht hc)).trans hb
end Go.Proofs.YtekmminmgjoabaaDoor.Js

namespace Go.Proofs.YtekmminmgjoabaaDoor.Js
open Go.RowKit Go.Proofs.YtekmminmgjoabaaDoorW.PrintWords Go.Proofs.YtekmminmgjoabaaDoorW.PrintLast Go.Proofs.YtekmminmgjoabaaDoorW.PrintMore Go.Proofs.YtekmminmgjoabaaDoor.PFnJSTokens
set_option linter.unusedVariables false
set_option linter.unusedSimpArgs false
/-- Room for them. -/
def Room (P : List Tk) : Prop := vlen P + 3 * P.length < 50000000
theorem Room.left {P Q : List Tk} (h : Room (P ++ Q)) : Room P := by unfold Room at *; rw [vlen_append, List.length_append] at h; omega
theorem Room.mid {P C X R : List Tk} (h : Room (P ++ ((C ++ X) ++ R))) : Room (P ++ C) ∧ Room ((P ++ C) ++ X) := by
  have h2 : Room ((P ++ C) ++ X) := Room.left (Q := R) (by rw [List.append_assoc, List.append_assoc, ← List.append_assoc C]; exact h)
  exact ⟨h2.left, h2⟩
end Go.Proofs.YtekmminmgjoabaaDoor.Js

namespace Go.Proofs.YtekmminmgjoabaaDoor.Js
open Go.RowKit Go.Proofs.YtekmminmgjoabaaDoorW.PrintWords Go.Proofs.YtekmminmgjoabaaDoorW.PrintLast Go.Proofs.YtekmminmgjoabaaDoorW.PrintMore Go.Proofs.YtekmminmgjoabaaDoor.PFnJSTokens
set_option linter.unusedVariables false
set_option linter.unusedSimpArgs false
end Go.Proofs.YtekmminmgjoabaaDoor.Js

