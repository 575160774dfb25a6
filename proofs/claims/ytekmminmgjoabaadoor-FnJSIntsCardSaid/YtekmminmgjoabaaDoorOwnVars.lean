/- Two general laws on listed package variables: they read behind a call that only makes memory as before it; and a listed whole number lies in its cell. For every program; the conditions are the premises that each names. -/
import Derived.ProofKit
import Derived.ChangeArms
import Derived.WalkSmall
import Derived.Carry
import Derived.ChangeOld
namespace Go.Proofs.YtekmminmgjoabaaDoor.OwnVars
open Go.RowKit Go.WideElems

/-- Are the listed variables of kinds that can be read? -/
def varsOk (P : Program) (ns : List String) : Bool := ns.all fun n => match P.globalNamed n with
  | some g => (match (P.globals[g]?).map (·.type) with | some t => P.readableRec t && decide (t < P.types.size) | none => false)
  | none => false

theorem vars_below {H : Type} {enc : TypeId × Value → H} {P : Program} (hl : laidOutB P = true) {W W' : World} (hb : Below W.heap.size W W') :
    ∀ {ns : List String} {ds : List (DataW H)} {ps : List MemPlace}, varsOk P ns = true → DataW.TrodVars enc P W (fun _ => true) ns ds ps →
      DataW.TrodVars enc P W' (fun b => decide (b < W.heap.size)) ns ds ps
  | [], [], ps, _, h => h
  | [], _ :: _, ps, _, h => h.elim
  | _ :: _, [], ps, _, h => h.elim
  | n :: ns, d :: ds, ps, hv, h => by
    have hlt := DataW.TrodVars.lt h
    obtain ⟨g, t, cs, fuel, p, q, hg, ht, hvar, hd, hr, rfl⟩ := h
    simp only [varsOk, List.all_cons, Bool.and_eq_true] at hv
    obtain ⟨hv1, hv2⟩ := hv
    rw [hg] at hv1
    simp only [ht, Bool.and_eq_true, decide_eq_true_eq] at hv1
    have hgB : g < W.heap.size := by
      rcases Nat.lt_or_ge g W.heap.size with h | h
      · exact h
      · simp [World.var?, hg, Array.getElem?_eq_none h] at hvar
    have hT : DataW.Trod enc P W 0 (fun _ => true) true t (.agg cs) d p := ⟨fuel, hd⟩
    obtain ⟨fuel', hd'⟩ := Below.trod hl hv1.1 hv1.2 hT hb (fun x hx => hlt x (by simp [hx]))
    exact ⟨g, t, cs, fuel', p, q, hg, ht, var?_below hb hg hgB hvar, hd', vars_below hl hb hv2 hr, rfl⟩

theorem vars_len {H : Type} {enc : TypeId × Value → H} {P : Program} {W : World} {sp : Nat → Bool} : ∀ {ns : List String} {ds : List (DataW H)} {ps : List MemPlace}, DataW.TrodVars enc P W sp ns ds ps → ds.length = ns.length
  | [], [], _, _ => rfl
  | [], _ :: _, _, h => h.elim
  | _ :: _, [], _, h => h.elim
  | _ :: _, _ :: _, _, h => by
    obtain ⟨_, _, _, _, _, _, _, _, _, _, hr, _⟩ := h
    simp only [List.length_cons, vars_len hr]

/-- A listed whole number lies in its cell, and the cell may be written by nobody else's word: it is not frozen. -/
theorem laid_int {P : Program} {W : World} {k : IntKind} {v : Int} {n : String} {g : Nat} {t : TypeId} (hg : P.globalNamed n = some g) (ht : (P.globals[g]?).map (·.type) = some t) (hu : P.underlying t = some (.int k)) :
    ∀ {l : List (String × DataW Unit)} {ps : List MemPlace}, (n, .lit (.int k v)) ∈ l → DataW.LaidVars P W l ps → W.cell? ⟨g, 0, none⟩ = some (.int k v)
  | [], _, hm, _ => absurd hm (by simp)
  | (m, d) :: r, ps, hm, h => by
    obtain ⟨g', t', cs, fuel, p, q, hg', ht', hvar, hd, hr, rfl⟩ := h
    rcases List.mem_cons.1 hm with e | hm
    · obtain ⟨rfl, rfl⟩ := Prod.mk.inj e
      obtain rfl := Option.some.inj (hg.symm.trans hg')
      obtain rfl := Option.some.inj (ht.symm.trans ht')
      obtain ⟨x, e1, e2, _⟩ := DataW.trod_int hu hd
      simp only [Prod.mk.injEq, DataW.lit.injEq, Lit.int.injEq, true_and] at e2
      obtain ⟨rfl, _⟩ := e2
      have := World.var?_cell hg hvar 0
      obtain ⟨l⟩ := cs
      simp at e1
      subst e1
      simpa using this
    · exact laid_int hg ht hu hm hr

theorem of_met {P : Program} {W : World} {l : List (String × DataW Unit)} (hno : (l.filter fun x => x.2.handleName?.isSome) = []) (h : laidMetH P l W) : ∃ ps, DataW.LaidVars P W l ps := by
  unfold laidMetH at h
  rw [hno] at h
  obtain ⟨ps, h, _⟩ := h
  exact ⟨ps, h⟩
end Go.Proofs.YtekmminmgjoabaaDoor.OwnVars
