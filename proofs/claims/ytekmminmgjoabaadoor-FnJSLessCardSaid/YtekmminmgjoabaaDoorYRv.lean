/- The door to the tokens of a text. What a constant text that is turned into bytes leaves behind. (Own lines of the ASCII claims, for this seat.) -/
import Derived.Test.YtekmminmgjoabaaDoorYRu
import Derived.Test.YtekmminmgjoabaaDoorYRt
import Derived.Test.YtekmminmgjoabaaDoorYKa
import Derived.Test.YtekmminmgjoabaaDoorYKw0
import Derived.Laws.IdiomStrings
namespace Go.Proofs.YtekmminmgjoabaaDoor.Js
open Go.RowKit Go.Proofs.YtekmminmgjoabaaDoorW.PrintWords Go.Proofs.YtekmminmgjoabaaDoorW.PrintLast Go.Proofs.YtekmminmgjoabaaDoorW.PrintMore Go.Proofs.YtekmminmgjoabaaDoor.PFnJSTokens
set_option linter.unusedVariables false
set_option linter.unusedSimpArgs false
theorem end_last (W : World) (B T : Nat) (st : St) (zs : List Int) (p q : Bool) (hB : B ≤ T) (hs : TokSt W B T st zs p q) (hsp : ∀ c ∈ zs, isSp c = true) : Calls Tryd.prog 54 #[.pointer (some ⟨T, 0, none⟩)] W (LastPost W B T true) := by
  obtain ⟨d, vv, dp, ix, ik, js, sp, K, hk, hT, hJ, hS⟩ := hs.out
  refine (next_end W B T d dp ix ik st.isKey vv js sp _ zs hsp hB hT hJ).mono ?_
  rintro e w' ⟨rfl, ⟨p', q', h1⟩, h2⟩
  exact ⟨rfl, ⟨_, _, _, _, _, _, _, _, _, _, h1, .inl ⟨rfl, rfl⟩⟩, h2⟩
theorem tab_lt {w : World} (h : Tab w) : 3 < w.heap.size := World.block_lt_of_cell? w _ h.t0
set_option maxHeartbeats 4000000 in
set_option maxRecDepth 100000 in
theorem jsTok (w : World) (A : Option Addr) (n c : Nat) (zs rest : List Int) (st2 : St) (ls : List (Tk × Int)) (ok : Bool) (hs : Sl w w.heap.size (.slice A n c) zs) (hby : Bytes zs) (hl : zs.length ≤ 2000000000) (hrun : TokRun ⟨[], false⟩ zs ls st2 rest) (hll : ls.length ≤ 2200000000) (ht : Tab w)
    (hlast : ∀ (W : World) (T : Nat) (p q : Bool), w.heap.size ≤ T → Below w.heap.size w W → TokSt W w.heap.size T st2 rest p q → (q = true → 92 ∉ zs) → Calls Tryd.prog 54 #[.pointer (some ⟨T, 0, none⟩)] W (LastPost W w.heap.size T ok)) :
    Calls Tryd.prog 18 #[.slice A n c] w fun e w' => ∃ v, e = .returned (.tuple #[v, .bool ok]) ∧ k37.R 37 w' w.heap.size (fun _ => True) v (ls.map toS) ∧ Below w.heap.size w w' := by
  have HN := Aside0.mk (tnew w w.heap.size A n c zs hs hby (Nat.le_refl _) (by omega))
  have HGO := Aside0.mk (fun (W : World) (T : Nat) (p q : Bool) (hT : w.heap.size ≤ T) (ht1 : W.heap[T]? = some (.cells (tzr 0 (.slice none 0 0) .nilIface 0 0 false false (.slice A n c) (.pointer none) (flK p q 0)) 118 (0, 0))) (hf : FlagsOk zs p q) (hb : Below w.heap.size w W) =>
    tokens_go W w.heap.size T ⟨[], false⟩ st2 zs rest ls p q ok hT (tab_lt ht) ⟨⟨_, _, _, _, _, _, _, 0, by decide, ht1, hs.below hb, .inl ⟨rfl, rfl⟩⟩⟩ hrun ⟨by simp; omega, fun x hx => by simp at hx⟩ (ht.below hb) hby hf.2 hll (fun W' hW' hst => hlast W' T p q hT (hb.trans hW') hst hf.2))
  clear hs hby hl hrun hll ht hlast
  go_enter Tryd.func18, Tryd.ntmps18
  go_wp2_with (first
    | (go_at_call 45; (with_reducible refine HN.out.mono ?_); rintro e W1 ⟨T, p, q, rfl, hT, ht1, hf, hb1⟩; have HG1 := Aside0.mk (HGO.out W1 T p q hT ht1 hf hb1); have HB1 := Aside0.mk hb1; clear hT ht1 hf hb1)
    | (go_at_call 44; (with_reducible refine HG1.out.mono ?_); rintro e W2 ⟨v, rfl, hr, hk⟩; have HR := Aside0.mk hr; have HK := Aside0.mk hk; clear hr hk))
  go_ret2
  exact ⟨_, rfl, Kd.R_lower HR.out HB1.out.size, HB1.out.trans HK.out.below⟩
end Go.Proofs.YtekmminmgjoabaaDoor.Js



namespace Go.Proofs.YtekmminmgjoabaaDoor.Js
open Go.RowKit Go.Proofs.YtekmminmgjoabaaDoorW.PrintWords Go.Proofs.YtekmminmgjoabaaDoorW.PrintLast Go.Proofs.YtekmminmgjoabaaDoorW.PrintMore
/-- A row's last-cell mark, as a world. -/
def marked (W : World) (g n : Nat) : World := W.freeze ⟨g, n, none⟩ 1

theorem marked_heap (W : World) (g n k : Nat) (h : k ≠ g) : (marked W g n).heap[k]? = W.heap[k]? := by
  unfold marked World.freeze
  rw [if_neg (by decide)]
  simp only [Array.getElem?_modify]
  rw [if_neg (by omega)]

theorem marked_size (W : World) (g n : Nat) : (marked W g n).heap.size = W.heap.size := by
  unfold marked World.freeze
  rw [if_neg (by decide)]
  simp

theorem marked_cell (W : World) (g n : Nat) (a : Addr) : (marked W g n).cell? a = W.cell? a := by
  unfold marked World.freeze World.cell?
  rw [if_neg (by decide)]
  simp only [Array.getElem?_modify]
  by_cases h : g = a.block
  · subst h
    rw [if_pos rfl]
    cases h2 : W.heap[a.block]? with
    | none => simp
    | some o => cases o <;> simp
  · rw [if_neg h]

theorem marked_below (W : World) (g n base : Nat) (h : base ≤ g) : Below base W (marked W g n) :=
  ⟨by unfold marked World.freeze; rw [if_neg (by decide)], by unfold marked World.freeze; rw [if_neg (by decide)], by unfold marked World.freeze; rw [if_neg (by decide)], by rw [marked_size]; omega, fun k hk => marked_heap W g n k (by omega)⟩

/-- The conversion of a row of bytes to its own type: the row is marked, and still reads as it did. -/
theorem mark_run {P : Program} {t e : TypeId} {W : World} {base : Nat} {ok : Nat → Prop} {A : Option Addr} {n c : Nat} {xs : List Int}
    (ht : P.underlying t = some (.slice e)) (he : P.underlying e = some (.int .u8)) (hn : 0 < n)
    (hr : Kd.R (Kd.int .u8) e W base ok (.slice A n c) xs) :
    ∃ W', Sem.run P (convert t t (.slice A n c)) W = .ok (.slice A n c) W' ∧ Kd.C (Kd.int .u8) W' A n xs ∧ n ≤ c ∧ Below base W W' ∧ W'.heap.size = W.heap.size := by
  have hlen : xs.length = n := by
    obtain ⟨A', c', e'⟩ := Kd.R_slice hr
    injection e' with _ h2 _
    exact h2.symm
  have hread := (Kd.R_reads' (by rw [hlen]; exact hr : Kd.R (Kd.int .u8) e W base ok (.slice A xs.length c) xs))
  obtain ⟨hb, inner, ho, hrep⟩ := hr
  rcases ho.2 with ⟨h1, h2⟩ | ⟨g, cap, cur, h1, hbg, hh, hnc, hcm, hcs, htk⟩
  · exfalso
    rw [hlen] at h2
    omega
  · injection h1 with a1 a2 a3
    subst a1 a3
    have hsh : W.shape? g = some (e, cur.size) := by
      unfold World.shape?
      rw [hh]
    refine ⟨marked W g cur.size, ?_, ?_, ?_, marked_below _ _ _ _ hbg, marked_size _ _ _⟩
    · simp [convert, run_underlying ht, run_underlying he, markStringish, hsh, marked]
    · have := hread.2.2
      rw [hlen] at this
      refine ⟨this.1, this.2.1, fun h0 => ?_⟩
      obtain ⟨ad, e1, hc⟩ := this.2.2 h0
      refine ⟨ad, e1, fun j p hj => ?_⟩
      obtain ⟨cc, f1, f2, f3⟩ := hc j p hj
      exact ⟨cc, f1, f2, fun i u hi => by rw [marked_cell]; exact f3 i u hi⟩
    · rw [← hlen]; exact hread.2.1

/-- A constant text as bytes, at its literal: what its conversion (the next operation) comes to is told with it. -/
theorem mark_lit {P : Program} {ops : Array Oper} {Q : Exit → Act → World → Prop} {rest : List Oper} {o : Oper} {a : Act} {W w0 : World} {t e : TypeId} {xs : List Int}
    (ht : P.underlying t = some (.slice e)) (he : P.underlying e = some (.int .u8)) (hn : 0 < xs.length) (hm : xs.length ≤ 9223372036854775807)
    (hgd : o.guard = none) {N : Tmp} (hd : o.dst = some N) (HB : Below w0.heap.size w0 W)
    (hrun : (execOp a.eval o).run P W = .ok (.value (.slice (some ⟨W.heap.size, 0, none⟩) xs.length xs.length)) (W.alloc (.cells ((xs.map (Value.int .u8)).toArray) e)))
    (h : ∀ A c W1 W2, Sem.run P (convert t t (.slice A xs.length c)) W1 = .ok (.slice A xs.length c) W2 → Kd.C (Kd.int .u8) W2 A xs.length xs → xs.length ≤ c → Below W.heap.size W W2 → Below w0.heap.size w0 W2 → wpList P ops Q rest (a.put o.dst (.slice A xs.length c)) W1) :
    wpList P ops Q (o :: rest) a W := by
  refine Kd.R_lit (Kd.int .u8) (w0 := W) W.heap.size e hgd hd (xs := xs) (inner := xs.map (Value.int .u8)) (ok := fun _ => True) (okp := fun _ => True) hrun ?_ (fun _ hk => hk) trivial (Below.refl _ _) (Nat.le_refl _) hm ?_
  · clear h hrun hn hm
    induction xs with
    | nil => exact Reps.none _ _
    | cons x r ih => exact Reps.one (show Kd.M (Kd.int .u8) _ _ _ x [.int .u8 x] from rfl) ih
  · intro v1 w1 hr hb _ _
    obtain ⟨A, c, e1⟩ := Kd.R_slice hr
    subst e1
    obtain ⟨W2, h1, h2, h3, h4, _⟩ := mark_run ht he hn hr
    have h5 : Below W.heap.size W W2 := hb.trans h4
    exact h A c w1 W2 h1 h2 h3 h5 (below_step HB h5)
theorem bytesOf_str {zs : List Int} (h : Bytes zs) : Go.Proofs.YtekmminmgjoabaaDoorW.PrintWords.bytesOf (strOfNums zs) = zs := by
  unfold Go.Proofs.YtekmminmgjoabaaDoorW.PrintWords.bytesOf strOfNums
  simp only [List.map_map]
  rw [List.map_congr_left (g := id), List.map_id]
  intro x hx
  have := h x hx
  simp
  omega
/-- A text as bytes. -/
theorem text_bytes (W : World) (zs : List Int) (h : Bytes zs) (hl : zs.length ≤ 9223372036854775807) : ∃ c W', (convert 9 22 (.string (strOfNums zs))).run Tryd.prog W = .ok (.slice (some ⟨W.heap.size, 0, none⟩) zs.length c) W' ∧ Sl W' W'.heap.size (.slice (some ⟨W.heap.size, 0, none⟩) zs.length c) zs ∧ Below W.heap.size W W' := by
  have e := print_bytes (P := Tryd.prog) 9 22 5 Tryd.underlying9 Tryd.underlying22 Tryd.underlying5 (strOfNums zs) W
  have hr := bytes_reads W 5 (strOfNums zs) (by rw [strOf_size]; exact hl)
  rw [bytesOf_str h, strOf_size] at hr
  rw [strOf_size] at e
  have hc := Kd.C_of_reads (enc := Value.int .u8) (d := (0 : Int)) (h1 := fun _ => rfl) hr
  have hcap : zs.length ≤ grownCap W zs.length 0 5 := grownCap_ge W zs.length 0 5
  refine ⟨_, _, e, ⟨_, _, rfl, hcap, fun hne ad he => ?_, hc⟩, bytes_below (Below.refl _ _) (Nat.le_refl _) 5 _⟩
  injection he with he
  subst he
  rw [Lib.bytesWorld_size]
  exact Nat.lt_succ_self _
end Go.Proofs.YtekmminmgjoabaaDoor.Js

