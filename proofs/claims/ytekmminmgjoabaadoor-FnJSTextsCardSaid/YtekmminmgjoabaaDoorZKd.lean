/- A value as it lies in memory. The maker's values: what all of its cases share. -/
import Derived.Test.YtekmminmgjoabaaDoorZKc
import Derived.Deep.DeepCutAuto
import Derived.Deep.RegionLaw
namespace Go.Proofs.YtekmminmgjoabaaDoor.Js
open Go.RowKit Go.Proofs.YtekmminmgjoabaaDoorW.PrintWords Go.Proofs.YtekmminmgjoabaaDoorW.PrintLast Go.Proofs.YtekmminmgjoabaaDoorW.PrintMore
set_option linter.unusedVariables false
set_option linter.unusedSimpArgs false
def jparts (n : JN) : Int × ByteArray × List JN × List ByteArray := (n.kind, strOfNums n.text, n.items, n.keys.map strOfNums)
def FJ (d : Kd JN) : Kd JN := Kd.iso (Kd.pair (Kd.int .i64) (Kd.pair Kd.string (Kd.pair (Kd.slice 29 d) (Kd.slice 9 Kd.string)))) jparts
theorem FJ_sub : Kd.Sub FJ [29, 9] := Kd.sub_iso _ (Kd.sub_pair (Kd.sub_const _ (fun q h => by cases h)) (Kd.sub_pair (Kd.sub_const _ (fun q h => by cases h)) (Kd.sub_pair (Kd.sub_slice 29 (by decide) Kd.sub_id) (Kd.sub_const _ (fun q h => by
  rcases List.mem_cons.1 h with rfl | h
  · decide
  · cases h)))))
theorem FJ_sz : ∀ n, (Kd.upto FJ 4 [29, 9] n).sz = 4 := Kd.upto_sz (fun d => rfl)
/-- A value's four cells. -/
def kJ : Kd JN := Kd.fix FJ 4 [29, 9] FJ_sz (Kd.upto_E FJ_sub)
theorem MadeAt.cells {w : World} {B m : Nat} {code : List Int} {left : Int} (h : MadeAt w B m code left) : ∃ cs, w.heap[m]? = some (.cells cs 45 (0, 0)) := by
  obtain ⟨cv, h, -⟩ := h
  exact ⟨_, h⟩
end Go.Proofs.YtekmminmgjoabaaDoor.Js



namespace Go.Proofs.YtekmminmgjoabaaDoor.Js
open Go.RowKit Go.Proofs.YtekmminmgjoabaaDoorW.PrintWords Go.Proofs.YtekmminmgjoabaaDoorW.PrintLast Go.Proofs.YtekmminmgjoabaaDoorW.PrintMore
set_option linter.unusedVariables false
set_option linter.unusedSimpArgs false
theorem store_agg {P : Program} {ops : Array Oper} {rest : List Oper} {o : Oper} {a : Act} {Q : Exit → Act → World → Prop} {W : World} (t : TypeId) (p v : Operand) (ho : o.op = .store t p v) (hN : o.dst = none) (hgd : o.guard = none)
    {G T : Nat} {cur : Array Value} (l : List Value) (hb : W.heap[G]? = some (.cells cur T (0, 0))) (hp : a.eval p = .pointer (some ⟨G, 0, none⟩)) (hi : l.length = cur.size) (hu : a.eval v = .agg l.toArray) (ht : (P.info? t).map (·.size) = some l.length) (h1 : ∀ q ∈ l, q.oneCell' = true)
    (h : ∀ W1, W1.heap[G]? = some (.cells l.toArray T (0, 0)) → KeepBut W W1 G none → Below G W W1 → wpList P ops Q rest a W1) :
    wpList P ops Q (o :: rest) a W := by
  refine wpList_plain hgd fun K hK => ?_
  unfold Oper.wp execOp
  have hrun := run_store_run (P := P) (w := W) t (.agg l.toArray) l hb (by simp [Value.cells]) ht (o := 0) (by simp; omega) h1
  simp only [ho, Sem.run_bind, Sem.run_pure, Result.andThen_ok, hp, hu, hrun]
  refine hK _ _ ?_
  rw [hN]
  obtain ⟨cur', h1', h2, h3⟩ := setCells_row (g := G) l 0 W cur hb (by omega)
  obtain ⟨s1, s2, s3, s4⟩ := setCells_same G l 0 W
  have e : cur' = l.toArray := by
    refine Array.toList_inj.1 ?_
    rw [h3]
    simp
    omega
  exact h (W.setCells G 0 l) (e ▸ h1') ⟨by omega, fun i _ hi _ => setCells_far _ _ i hi⟩ ⟨s1, s2, s3, by omega, fun i hi => setCells_far _ _ i (by omega)⟩
theorem Mv.setNew {w w2 W3 : World} {m G : Nat} (h : Mv w w2 m) (hk : KeepBut w2 W3 G none) (hg : Below G w2 W3) (hG : w.heap.size ≤ G) (hm : m < w.heap.size) : Mv w W3 m :=
  ⟨⟨Nat.le_trans h.keep.1 hk.1, fun i hi hne hr => (hk.2 i (by have := h.keep.1; omega) (by omega) hr).trans (h.keep.2 i hi hne hr)⟩, h.below.trans (hg.mono (by omega))⟩
end Go.Proofs.YtekmminmgjoabaaDoor.Js

