/- The first value of a text, and what stands behind it. json.Parsed over blanks, a value's text and whatever stands behind. bytes.Repeat of one blank, at most four times. The law on the first value of a text. -/
import Derived.Test.YtekmminmgjoabaaDoorZSv
import Derived.Deep.RegionHeld3
import Derived.Laws.CopyRow
import Derived.Lib.MakeNoZero
namespace Go.Proofs.YtekmminmgjoabaaDoor.Js
open Go.RowKit Go.Proofs.YtekmminmgjoabaaDoorW.PrintWords Go.Proofs.YtekmminmgjoabaaDoorW.PrintLast Go.Proofs.YtekmminmgjoabaaDoorW.PrintMore Go.Proofs.YtekmminmgjoabaaDoor.PFnJSTokens
set_option linter.unusedVariables false
set_option linter.unusedSimpArgs false
theorem append_none {P : Program} (t ty e : TypeId) (i : TypeInfo) (z : Value) (ht : P.underlying t = some (.slice e)) (hi : P.info? e = some i) (hz : i.zero = some z) (A : Option Addr) (c : Nat) (w : World) : (Builtin.append_ #[t, t] ty #[.slice none 0 0, .slice A 0 c]).run P w = .ok (.slice none 0 0) w := by
  cases A with
  | none => simp [Builtin.append_, run_underlying ht, sizeOf, typeInfo, zeroValue, hi, hz, Builtin.lenOf, run_firstCells_none]
  | some a =>
    have hf := run_firstCells_some (P := P) w i.size 0 a 0 c [] (by simp) (by simp)
    simp [Builtin.append_, run_underlying ht, sizeOf, typeInfo, zeroValue, hi, hz, Builtin.lenOf, hf]
/-- A slice that lies at or above L, in a block of its own. -/
def Cl (L : Nat) (w : World) (v : Value) (zs : List Int) : Prop := (zs = [] ∧ v = .slice none 0 0) ∨ ∃ g cap cs, L ≤ g ∧ v = .slice (some ⟨g, 0, none⟩) zs.length cap ∧ zs.length ≤ cap ∧ w.heap[g]? = some (.cells ((zs.map fun x => Value.int .u8 x).toArray ++ cs) 5)
theorem Cl.below {L : Nat} {w w' : World} {v : Value} {zs : List Int} (h : Cl L w v zs) (hb : Below w.heap.size w w') : Cl L w' v zs := by
  rcases h with h | ⟨g, cap, cs, h1, h2, h3, h4⟩
  · exact .inl h
  · exact .inr ⟨g, cap, cs, h1, h2, h3, blk_below h4 hb⟩
theorem Cl.keep {L : Nat} {w w' : World} {v : Value} {zs : List Int} {T : Nat} (h : Cl L w v zs) (hk : KeepBut w w' T none) (hT : T < L) : Cl L w' v zs := by
  rcases h with h | ⟨g, cap, cs, h1, h2, h3, h4⟩
  · exact .inl h
  · exact .inr ⟨g, cap, cs, h1, h2, h3, (hk.2 g (blk_lt h4) (by omega) (by simp)).trans h4⟩
theorem Cl.sl {L : Nat} {w : World} {v : Value} {zs : List Int} (h : Cl L w v zs) (hl : zs.length ≤ 4000000000) : Sl w w.heap.size v zs := by
  rcases h with ⟨rfl, rfl⟩ | ⟨g, cap, cs, h1, rfl, h3, h4⟩
  · exact Sl.nil _ _
  · refine ⟨_, cap, rfl, h3, fun hne ad he => ?_, Kd.C_of_reads (enc := Value.int .u8) (d := (0 : Int)) (h1 := fun _ => rfl) ⟨rfl, by omega, fun hn => ⟨⟨g, 0, none⟩, rfl, fun j hj => ?_⟩⟩⟩
    · injection he with he
      subst he
      exact blk_lt h4
    · have e1 := blk_cell h4 j
      have e2 : ((zs.map fun x => Value.int .u8 x).toArray ++ cs)[j]? = some (.int .u8 (zs.getD j 0)) := by
        rw [Array.getElem?_append_left (by simp; omega)]
        simp [List.getD_eq_getElem?_getD, List.getElem?_eq_getElem hj]
      have e3 : (⟨g, 0, none⟩ : Addr).add j = ⟨g, j, none⟩ := by
        simp only [Addr.add]
        split
        · rename_i h4
          rw [h4]
        · rw [Nat.zero_add]
      rw [e3]
      exact e1.trans e2
end Go.Proofs.YtekmminmgjoabaaDoor.Js

namespace Go.Proofs.YtekmminmgjoabaaDoor.Js
open Go.RowKit Go.Proofs.YtekmminmgjoabaaDoorW.PrintWords Go.Proofs.YtekmminmgjoabaaDoorW.PrintLast Go.Proofs.YtekmminmgjoabaaDoorW.PrintMore Go.Proofs.YtekmminmgjoabaaDoor.PFnJSTokens
set_option linter.unusedVariables false
set_option linter.unusedSimpArgs false
end Go.Proofs.YtekmminmgjoabaaDoor.Js

namespace Go.Proofs.YtekmminmgjoabaaDoor.Js
open Go.RowKit Go.Proofs.YtekmminmgjoabaaDoorW.PrintWords Go.Proofs.YtekmminmgjoabaaDoorW.PrintLast Go.Proofs.YtekmminmgjoabaaDoorW.PrintMore Go.Proofs.YtekmminmgjoabaaDoor.PFnJSTokens
set_option linter.unusedVariables false
set_option linter.unusedSimpArgs false
/-- A row of bytes of which the first j are blanks. -/
def Rpt (w W : World) (j n : Nat) : Prop := ∃ cur : Array Value, W.heap[w.heap.size]? = some (.cells cur 5) ∧ n ≤ cur.size ∧ (∀ i, i < j → cur[i]? = some (.int .u8 32)) ∧ Below w.heap.size w W
theorem Rpt.sl {w W : World} {n : Nat} (h : Rpt w W n n) (hn : n ≤ 4) : Sl W W.heap.size (.slice (some ⟨w.heap.size, 0, none⟩) n n) (List.replicate n 32) := by
  obtain ⟨cur, h1, h2, h3, h4⟩ := h
  refine ⟨_, n, by rw [List.length_replicate], by rw [List.length_replicate]; exact Nat.le_refl _, fun hne ad he => ?_, Kd.C_of_reads (enc := Value.int .u8) (d := (0 : Int)) (h1 := fun _ => rfl) ⟨rfl, by rw [List.length_replicate]; omega, fun hn => ⟨⟨w.heap.size, 0, none⟩, rfl, fun j hj => ?_⟩⟩⟩
  · injection he with he
    subst he
    exact blk_lt h1
  · rw [List.length_replicate] at hj
    have e1 := blk_cell h1 j
    have e3 : (⟨w.heap.size, 0, none⟩ : Addr).add j = ⟨w.heap.size, j, none⟩ := by
      simp only [Addr.add]
      split
      · rename_i h4
        rw [h4]
      · rw [Nat.zero_add]
    rw [e3, e1, h3 j hj]
    simp [List.getD_eq_getElem?_getD, List.getElem?_replicate, hj]
end Go.Proofs.YtekmminmgjoabaaDoor.Js

namespace Go.Proofs.YtekmminmgjoabaaDoor.Js
open Go.RowKit Go.Proofs.YtekmminmgjoabaaDoorW.PrintWords Go.Proofs.YtekmminmgjoabaaDoorW.PrintLast Go.Proofs.YtekmminmgjoabaaDoorW.PrintMore Go.Proofs.YtekmminmgjoabaaDoor.PFnJSTokens
set_option linter.unusedVariables false
set_option linter.unusedSimpArgs false
end Go.Proofs.YtekmminmgjoabaaDoor.Js

