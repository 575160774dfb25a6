/- A listed array of whole numbers lies in its cells; general. And the table's entries. -/
import Derived.Test.YtekmminmgjoabaaDoorYRb
import Derived.ProofKit
import Derived.ChangeArms
import Derived.OpenShut
import Derived.WalkSmall
import Derived.Carry
import Derived.ChangeOld
namespace Go.Proofs.YtekmminmgjoabaaDoor.Js
open Go.RowKit Go.Proofs.YtekmminmgjoabaaDoorW.PrintWords
set_option linter.unusedVariables false
theorem laid_ints {P : Program} {W : World} {k : IntKind} {n : String} {g : Nat} {t e : TypeId} {N : Nat} (vals : List Int) (hg : P.globalNamed n = some g) (ht : (P.globals[g]?).map (·.type) = some t) (hu : P.underlying t = some (.array N e)) (he : P.underlying e = some (.int k)) (hc : P.cellsOf e = 1) :
    ∀ {l : List (String × DataW Unit)} {ps : List MemPlace}, (n, .agg (vals.map fun v => .lit (.int k v))) ∈ l → DataW.LaidVars P W l ps → ∀ (i : Nat) (v : Int), vals[i]? = some v → i < N → W.cell? ⟨g, i, none⟩ = some (.int k v)
  | [], _, hm, _ => absurd hm (by simp)
  | (m, d) :: r, ps, hm, h => by
    obtain ⟨g', t', cs, fuel, p, q, hg', ht', hvar, hd, hr, rfl⟩ := h
    rcases List.mem_cons.1 hm with e0 | hm
    · obtain ⟨rfl, rfl⟩ := Prod.mk.inj e0
      obtain rfl := Option.some.inj (hg.symm.trans hg')
      obtain rfl := Option.some.inj (ht.symm.trans ht')
      intro i v hv hi
      obtain ⟨xs, m, rfl, hx, hl, hN, hat⟩ := DataW.trod_array hu hd
      have hxs : vals.map (fun v => (DataW.lit (.int k v) : DataW Unit)) = xs.map (·.1) := by
        have := congrArg Prod.fst hx
        injection this
      have h1 := hat i hi
      rw [List.getElem?_eq_getElem (show i < xs.length by omega), hc, Nat.mul_one] at h1
      obtain ⟨z, e1, e2⟩ := DataW.trod_int he h1
      have h2 : (vals.map (fun v => (DataW.lit (.int k v) : DataW Unit)))[i]? = (xs.map (·.1))[i]? := by rw [hxs]
      rw [List.getElem?_map, List.getElem?_map, hv, List.getElem?_eq_getElem (show i < xs.length by omega)] at h2
      simp only [Option.map_some, Option.some.injEq] at h2
      have h3 : xs[i].1 = DataW.lit (.int k z) := by rw [e2.1]
      rw [← h2] at h3
      injection h3 with h3
      injection h3 with _ h3
      subst h3
      have hce := World.var?_cell hg hvar i
      have h4 : cs[i]? = some (.int k v) := by
        have := congrArg (fun l => l[0]?) e1
        simp only [List.getElem?_cons_zero] at this
        rw [List.getElem?_take_of_lt (by decide), List.getElem?_drop, Nat.add_zero] at this
        simpa using this
      rw [← h4]
      exact hce
    · exact laid_ints vals hg ht hu he hc hm hr
/-- The table's entries. -/
def tab64 : List Int := [0, 1, 56, 2, 57, 49, 28, 3, 61, 58, 42, 50, 38, 29, 17, 4, 62, 47, 59, 36, 45, 43, 51, 22, 53, 39, 33, 30, 24, 18, 12, 5, 63, 55, 48, 27, 60, 41, 37, 16, 46, 35, 44, 21, 52, 32, 23, 11, 54, 26, 40, 15, 34, 20, 31, 10, 25, 14, 19, 9, 13, 8, 7, 6]
end Go.Proofs.YtekmminmgjoabaaDoor.Js

