/- The walks of the law on fields of each kind, given what its parts tell. -/
import Derived.Test.YtokediiehlnjkaaDoorPbFld
import Derived.Deep.RegionLaw
import Derived.Deep.AppendLies
import Derived.Deep.RegionHeld3
import Derived.BigQuiet
import Derived.Deep.RegionWith
import Derived.Deep.DeepCutAuto
namespace Go.Proofs.YtokediiehlnjkaaDoor.Pb
open Go.RowKit Go.Proofs.YtokediiehlnjkaaDoorW.PrintWords Go.Proofs.YtokediiehlnjkaaDoorW.PrintLast Go.Proofs.YtokediiehlnjkaaDoorW.PrintMore Go.Proofs.YtokediiehlnjkaaDoor.PFnPBAppends
set_option linter.unusedVariables false
set_option linter.unusedSimpArgs false

/-- One cell of a block is stored. -/
theorem store_any {P : Program} {ops : Array Oper} {rest : List Oper} {o : Oper} {a : Act} {Q : Exit → Act → World → Prop} {W : World} (t : TypeId) (p v : Operand) (ho : o.op = .store t p v) (hN : o.dst = none) (hgd : o.guard = none)
    {G T i : Nat} {cs : Array Value} {u : Value} (hb : W.heap[G]? = some (.cells cs T (0, 0))) (hp : a.eval p = .pointer (some ⟨G, i, none⟩)) (hi : i < cs.size) (hu : a.eval v = u) (h1 : u.cells.toList = [u]) (h2 : u.oneCell' = true) (ht : (P.info? t).map (·.size) = some 1)
    (h : ∀ W1, W1.heap[G]? = some (.cells (cs.setIfInBounds i u) T (0, 0)) → KeepBut W W1 G none → Below G W W1 → wpList P ops Q rest a W1) :
    wpList P ops Q (o :: rest) a W := by
  refine wpList_plain hgd fun K hK => ?_
  unfold Oper.wp execOp
  have hrun := run_store_run (P := P) (w := W) t u [u] hb h1 ht (o := i) (by simp; omega) (by simpa using h2)
  simp only [ho, Sem.run_bind, Sem.run_pure, Result.andThen_ok, hp, hu, hrun]
  refine hK _ _ ?_
  rw [hN]
  exact h (W.setCell ⟨G, i, none⟩ u) (blk_set hb i _) ((KeepBut.refl W G none).set_ i _) ((Below.refl G W).setCell (Nat.le_refl _) _)
/-- A whole struct is stored over a block of as many cells. -/
theorem store_agg {P : Program} {ops : Array Oper} {rest : List Oper} {o : Oper} {a : Act} {Q : Exit → Act → World → Prop} {W : World} (t : TypeId) (p v : Operand) (ho : o.op = .store t p v) (hN : o.dst = none) (hgd : o.guard = none)
    {G T : Nat} {cur : Array Value} (l : List Value) (hb : W.heap[G]? = some (.cells cur T (0, 0))) (hp : a.eval p = .pointer (some ⟨G, 0, none⟩)) (hi : l.length = cur.size) (hu : a.eval v = .agg l.toArray) (ht : (P.info? t).map (·.size) = some l.length) (h1 : ∀ q ∈ l, q.oneCell' = true)
    (h : ∀ W1, W1.heap[G]? = some (.cells l.toArray T (0, 0)) → KeepBut W W1 G none → Below G W W1 → wpList P ops Q rest a W1) :
    wpList P ops Q (o :: rest) a W := by
  refine wpList_plain hgd fun K hK => ?_
  unfold Oper.wp execOp
  have hrun := run_store_run (P := P) (w := W) t (.agg l.toArray) l hb (by simp [Value.cells]) ht (o := 0) (by simp; omega) h1
  simp only [ho, Sem.run_bind, Sem.run_pure, Result.andThen_ok, hp, hu, hrun]
  refine hK _ _ ?_
  rw [hN]
  obtain ⟨cur', h1', h2, h3⟩ := setCells_row (g := G) l 0 W cur hb (by omega)
  obtain ⟨s1, s2, s3, s4⟩ := setCells_same G l 0 W
  have e : cur' = l.toArray := by
    refine Array.toList_inj.1 ?_
    rw [h3]
    simp
    omega
  exact h (W.setCells G 0 l) (e ▸ h1') ⟨by omega, fun i _ hi _ => setCells_far _ _ i hi⟩ ⟨s1, s2, s3, by omega, fun i hi => setCells_far _ _ i (by omega)⟩
end Go.Proofs.YtokediiehlnjkaaDoor.Pb
