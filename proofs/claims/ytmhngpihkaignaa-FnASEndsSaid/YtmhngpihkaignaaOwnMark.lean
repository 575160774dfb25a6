/- What a constant text that is turned into bytes leaves behind: the row of its bytes, which bears the run-time's mark behind its last cell, still reads as these bytes; for every program, with no condition but the row itself. -/
import Derived.Test.YtmhngpihkaignaaWMore
import Derived.Test.YtmhngpihkaignaaWRepsOne
import Derived.Laws.IdiomStrings
namespace Go.Proofs.Ytmhngpihkaignaa.OwnMark
open Go.RowKit Go.Proofs.YtmhngpihkaignaaW.PrintWords Go.Proofs.YtmhngpihkaignaaW.PrintLast Go.Proofs.YtmhngpihkaignaaW.PrintMore

/-- A row's last-cell mark, as a world. -/
def marked (W : World) (g n : Nat) : World := W.freeze ⟨g, n, none⟩ 1

theorem marked_heap (W : World) (g n k : Nat) (h : k ≠ g) : (marked W g n).heap[k]? = W.heap[k]? := by
  unfold marked World.freeze
  rw [if_neg (by decide)]
  simp only [Array.getElem?_modify]
  rw [if_neg (by omega)]

theorem marked_size (W : World) (g n : Nat) : (marked W g n).heap.size = W.heap.size := by
  unfold marked World.freeze
  rw [if_neg (by decide)]
  simp

theorem marked_cell (W : World) (g n : Nat) (a : Addr) : (marked W g n).cell? a = W.cell? a := by
  unfold marked World.freeze World.cell?
  rw [if_neg (by decide)]
  simp only [Array.getElem?_modify]
  by_cases h : g = a.block
  · subst h
    rw [if_pos rfl]
    cases h2 : W.heap[a.block]? with
    | none => simp
    | some o => cases o <;> simp
  · rw [if_neg h]

theorem marked_below (W : World) (g n base : Nat) (h : base ≤ g) : Below base W (marked W g n) :=
  ⟨by unfold marked World.freeze; rw [if_neg (by decide)], by unfold marked World.freeze; rw [if_neg (by decide)], by unfold marked World.freeze; rw [if_neg (by decide)], by rw [marked_size]; omega, fun k hk => marked_heap W g n k (by omega)⟩

/-- The conversion of a row of bytes to its own type: the row is marked, and still reads as it did. -/
theorem mark_run {P : Program} {t e : TypeId} {W : World} {base : Nat} {ok : Nat → Prop} {A : Option Addr} {n c : Nat} {xs : List Int}
    (ht : P.underlying t = some (.slice e)) (he : P.underlying e = some (.int .u8)) (hn : 0 < n)
    (hr : Kd.R (Kd.int .u8) e W base ok (.slice A n c) xs) :
    ∃ W', Sem.run P (convert t t (.slice A n c)) W = .ok (.slice A n c) W' ∧ Kd.C (Kd.int .u8) W' A n xs ∧ n ≤ c ∧ Below base W W' ∧ W'.heap.size = W.heap.size := by
  have hlen : xs.length = n := by
    obtain ⟨A', c', e'⟩ := Kd.R_slice hr
    injection e' with _ h2 _
    exact h2.symm
  have hread := (Kd.R_reads' (by rw [hlen]; exact hr : Kd.R (Kd.int .u8) e W base ok (.slice A xs.length c) xs))
  obtain ⟨hb, inner, ho, hrep⟩ := hr
  rcases ho.2 with ⟨h1, h2⟩ | ⟨g, cap, cur, h1, hbg, hh, hnc, hcm, hcs, htk⟩
  · exfalso
    rw [hlen] at h2
    omega
  · injection h1 with a1 a2 a3
    subst a1 a3
    have hsh : W.shape? g = some (e, cur.size) := by
      unfold World.shape?
      rw [hh]
    refine ⟨marked W g cur.size, ?_, ?_, ?_, marked_below _ _ _ _ hbg, marked_size _ _ _⟩
    · simp [convert, run_underlying ht, run_underlying he, markStringish, hsh, marked]
    · have := hread.2.2
      rw [hlen] at this
      refine ⟨this.1, this.2.1, fun h0 => ?_⟩
      obtain ⟨ad, e1, hc⟩ := this.2.2 h0
      refine ⟨ad, e1, fun j p hj => ?_⟩
      obtain ⟨cc, f1, f2, f3⟩ := hc j p hj
      exact ⟨cc, f1, f2, fun i u hi => by rw [marked_cell]; exact f3 i u hi⟩
    · rw [← hlen]; exact hread.2.1

/-- A constant text as bytes, at its literal: what its conversion (the next operation) comes to is told with it. -/
theorem mark_lit {P : Program} {ops : Array Oper} {Q : Exit → Act → World → Prop} {rest : List Oper} {o : Oper} {a : Act} {W w0 : World} {t e : TypeId} {xs : List Int}
    (ht : P.underlying t = some (.slice e)) (he : P.underlying e = some (.int .u8)) (hn : 0 < xs.length) (hm : xs.length ≤ 9223372036854775807)
    (hgd : o.guard = none) {N : Tmp} (hd : o.dst = some N) (HB : Below w0.heap.size w0 W)
    (hrun : (execOp a.eval o).run P W = .ok (.value (.slice (some ⟨W.heap.size, 0, none⟩) xs.length xs.length)) (W.alloc (.cells ((xs.map (Value.int .u8)).toArray) e)))
    (h : ∀ A c W1 W2, Sem.run P (convert t t (.slice A xs.length c)) W1 = .ok (.slice A xs.length c) W2 → Kd.C (Kd.int .u8) W2 A xs.length xs → xs.length ≤ c → Below W.heap.size W W2 → Below w0.heap.size w0 W2 → wpList P ops Q rest (a.put o.dst (.slice A xs.length c)) W1) :
    wpList P ops Q (o :: rest) a W := by
  refine Kd.R_lit (Kd.int .u8) (w0 := W) W.heap.size e hgd hd (xs := xs) (inner := xs.map (Value.int .u8)) (ok := fun _ => True) (okp := fun _ => True) hrun ?_ (fun _ hk => hk) trivial (Below.refl _ _) (Nat.le_refl _) hm ?_
  · clear h hrun hn hm
    induction xs with
    | nil => exact Reps.none _ _
    | cons x r ih => exact Reps.one (show Kd.M (Kd.int .u8) _ _ _ x [.int .u8 x] from rfl) ih
  · intro v1 w1 hr hb _ _
    obtain ⟨A, c, e1⟩ := Kd.R_slice hr
    subst e1
    obtain ⟨W2, h1, h2, h3, h4, _⟩ := mark_run ht he hn hr
    have h5 : Below W.heap.size W W2 := hb.trans h4
    exact h A c w1 W2 h1 h2 h3 h5 (below_step HB h5)
end Go.Proofs.Ytmhngpihkaignaa.OwnMark
