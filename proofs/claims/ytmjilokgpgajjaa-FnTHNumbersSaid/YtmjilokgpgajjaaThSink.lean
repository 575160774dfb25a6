/- The writing of bytes into a sink behind a writer's interface: what is written stands behind what was written; for all bytes. -/
import Derived.Test.YtmjilokgpgajjaaChecked
import Derived.Test.YtmjilokgpgajjaaWMore
import Derived.Test.YtmjilokgpgajjaaWShare
import Derived.Test.YtmjilokgpgajjaaWKept
import Derived.Handy
import Derived.BigQuiet
import Derived.Deep.RegionWith
namespace Go.Proofs.Ytmjilokgpgajjaa.Th
open Go.RowKit Go.Proofs.YtmjilokgpgajjaaW.PrintWords Go.Proofs.YtmjilokgpgajjaaW.PrintLast Go.Proofs.YtmjilokgpgajjaaW.PrintMore
set_option linter.unusedVariables false
set_option linter.unusedSimpArgs false
theorem info5 : (Try.prog.info? 5).map (fun i => (i.zero, i.size, i.bytes)) = some (some (.int .u8 0), 1, 1) := by kernel_rfl
theorem gate_st {P : Program} {ops : Array Oper} {rest : List Oper} {o : Oper} {a : Act} {Q : Exit → Act → World → Prop} {W : World} {t : TypeId} {p v : Operand} (_ho : o.op = .store t p v) (h : wpList P ops Q (o :: rest) a W) : wpList P ops Q (o :: rest) a W := h
/-- One cell of a block is stored. -/
theorem store_any {P : Program} {ops : Array Oper} {rest : List Oper} {o : Oper} {a : Act} {Q : Exit → Act → World → Prop} {W : World} (t : TypeId) (p v : Operand) (ho : o.op = .store t p v) (hN : o.dst = none) (hgd : o.guard = none)
    {G T i : Nat} {cs : Array Value} {u : Value} (hb : W.heap[G]? = some (.cells cs T (0, 0))) (hp : a.eval p = .pointer (some ⟨G, i, none⟩)) (hi : i < cs.size) (hu : a.eval v = u) (h1 : u.cells.toList = [u]) (h2 : u.oneCell' = true) (ht : (P.info? t).map (·.size) = some 1)
    (h : ∀ W1, W1.heap[G]? = some (.cells (cs.setIfInBounds i u) T (0, 0)) → KeepBut W W1 G none → Below G W W1 → wpList P ops Q rest a W1) :
    wpList P ops Q (o :: rest) a W := by
  refine wpList_plain hgd fun K hK => ?_
  unfold Oper.wp execOp
  have hrun := run_store_run (P := P) (w := W) t u [u] hb h1 ht (o := i) (by simp; omega) (by simpa using h2)
  simp only [ho, Sem.run_bind, Sem.run_pure, Result.andThen_ok, hp, hu, hrun]
  refine hK _ _ ?_
  rw [hN]
  exact h (W.setCell ⟨G, i, none⟩ u) (blk_set hb i _) ((KeepBut.refl W G none).set_ i _) ((Below.refl G W).setCell (Nat.le_refl _) _)
theorem own_kept {W : World} {v v1 : Value} (hat : v1.ownBlock = v.ownBlock ∨ ∃ b, v1.ownBlock = some b ∧ W.heap.size ≤ b) : ∀ g, g < W.heap.size → some g ≠ v.ownBlock → some g ≠ v1.ownBlock := by
  intro g h1 h2 h3
  rcases hat with e | ⟨b, e, hle⟩
  · exact h2 (h3.trans e)
  · rw [e] at h3
    injection h3 with h3
    omega
/-- Nothing has turned but the sink's cell and its row. -/
def Keep2 (w w' : World) (S : Nat) (v : Value) : Prop := w.heap.size ≤ w'.heap.size ∧ ∀ k, k < w.heap.size → k ≠ S → some k ≠ v.ownBlock → w'.heap[k]? = w.heap[k]?
set_option maxHeartbeats 4000000 in
set_option maxRecDepth 100000 in
theorem sink_write (w : World) (Sg base : Nat) (v : Value) (xs ys : List Int) (A : Option Addr) (c : Nat) (hs : w.heap[Sg]? = some (.cells #[v] 53 (0, 0))) (hr : (Kd.int .u8).R 5 w base (fun _ => True) v xs) (hy : (Kd.int .u8).C w A ys.length ys) (hbS : base ≤ Sg) (hb : base ≤ w.heap.size) (hl : xs.length + ys.length < 100000000000) :
    Calls Try.prog 147 #[.pointer (some ⟨Sg, 0, none⟩), .slice A ys.length c] w fun e w' => e = .returned (.tuple #[.int .i64 (ys.length : Int), .nilIface]) ∧ Keep2 w w' Sg v ∧ Below base w w' ∧ ∃ v', w'.heap[Sg]? = some (.cells #[v'] 53 (0, 0)) ∧ (Kd.int .u8).R 5 w' base (fun _ => True) v' (xs ++ ys) ∧ ∀ g, g < w.heap.size → some g ≠ v.ownBlock → some g ≠ v'.ownBlock := by
  have hc0 : w.cell? ⟨Sg, 0, none⟩ = some v := (blk_cell hs 0).trans rfl
  have hne := Kd.R_ne hr hs (by decide)
  have HS := Aside0.mk hs
  have HR := Aside0.mk hr
  have HY := Aside0.mk hy
  have HNE := Aside0.mk hne
  clear hs hr hy hne
  go_enter Try.func147, Try.ntmps147
  go_wp2_with (first | ((with_reducible refine gate_builtin (b := .append) (xs := #[.tmp 10, .tmp 11]) rfl ?_); at_builtin; refine Kd.R_append_rows (Kd.int .u8) (w0 := w) base rfl (.tmp 10) (.tmp 11) 26 5 (.int .u8 0) 1 rfl Try.underlying26 info5 rfl (by decide) (by decide) v xs ys A ys.length c (fun _ => True) (fun _ => False) rfl rfl HR.out HY.out (fun _ _ h => h) (fun _ h => h.elim) (fun _ _ => trivial) (Below.refl _ _) hb (by omega) ?_; intro v1 w1 ho hb1 hg hat; obtain ⟨A1, c1, rfl, hc1, hC1⟩ := Kd.R_reads ho; rw [List.length_append] at ho; have HO := Aside0.mk ho; have HB := Aside0.mk hb1; have HG := Aside0.mk hg; have HS1 := Aside0.mk (blk_grown HS.out hg HNE.out); rw [List.length_append] at hat; have HAT := Aside0.mk (own_kept hat); clear ho hb1 hg hat hC1) | ((with_reducible refine gate_st rfl ?_); refine store_any _ _ _ rfl rfl rfl HS1.out rfl (by simp) rfl rfl rfl (by kernel_rfl) ?_; intro W2 hb2 hk2 hg2; have HS2 := Aside0.mk hb2; have HK2 := Aside0.mk hk2; have HG2 := Aside0.mk hg2; clear hb2 hk2 hg2))
  go_returns
  refine ⟨rfl, ⟨Nat.le_trans HG.out.size HK2.out.1, fun k h1 h2 h3 => ?_⟩, HB.out.trans (HG2.out.mono hbS), ⟨.slice A1 (xs.length + ys.length) c1, HS2.out, ?_, ?_⟩⟩
  · rw [HK2.out.2 k (Nat.lt_of_lt_of_le h1 HG.out.size) h2 (by simp)]
    exact HG.out.block k h1 h3
  · exact Kd.R_mono (Kd.R_keep (Kd.R_types HO.out HS1.out (by decide)) HK2.out (fun _ hk => hk.2)) (fun _ _ => trivial)
  · exact HAT.out
set_option maxHeartbeats 4000000 in
set_option maxRecDepth 100000 in
theorem sink_byte (w : World) (Sg base : Nat) (v : Value) (xs : List Int) (b : Int) (hs : w.heap[Sg]? = some (.cells #[v] 53 (0, 0))) (hr : (Kd.int .u8).R 5 w base (fun _ => True) v xs) (hbS : base ≤ Sg) (hb : base ≤ w.heap.size) (hl : xs.length < 100000000000) :
    Calls Try.prog 43 #[.pointer (some ⟨Sg, 0, none⟩), .int .u8 b] w fun e w' => e = .returned .nilIface ∧ Keep2 w w' Sg v ∧ Below base w w' ∧ ∃ v', w'.heap[Sg]? = some (.cells #[v'] 53 (0, 0)) ∧ (Kd.int .u8).R 5 w' base (fun _ => True) v' (xs ++ [b]) ∧ ∀ g, g < w.heap.size → some g ≠ v.ownBlock → some g ≠ v'.ownBlock := by
  have hc0 : w.cell? ⟨Sg, 0, none⟩ = some v := (blk_cell hs 0).trans rfl
  have hne := Kd.R_ne hr hs (by decide)
  have HS := Aside0.mk hs
  have HR := Aside0.mk hr
  have HNE := Aside0.mk hne
  clear hs hr hne
  go_enter Try.func43, Try.ntmps43
  go_wp2_with (first | ((with_reducible refine gate_builtin (b := .append) (xs := #[.tmp 9, .tmp 11]) rfl ?_); at_builtin; refine Kd.R_append (Kd.int .u8) (w0 := w) base rfl (.tmp 9) (.tmp 11) 26 5 (.int .u8 0) 1 rfl Try.underlying26 info5 rfl (by decide) (by decide) v xs b [.int .u8 b] (fun _ => True) (fun _ => False) rfl rfl rfl (fun _ hk => hk.elim) (fun _ _ => trivial) HR.out (Below.refl _ _) hb (by omega) ?_; intro v1 w1 ho hb1 hg hat; obtain ⟨A1, c1, rfl, hc1, hC1⟩ := Kd.R_reads ho; rw [List.length_append] at ho; have HO := Aside0.mk ho; have HB := Aside0.mk hb1; have HG := Aside0.mk hg; have HS1 := Aside0.mk (blk_grown HS.out hg HNE.out); rw [List.length_append] at hat; have HAT := Aside0.mk (own_kept hat); clear ho hb1 hg hat hC1) | ((with_reducible refine gate_st rfl ?_); refine store_any _ _ _ rfl rfl rfl HS1.out rfl (by simp) rfl rfl rfl (by kernel_rfl) ?_; intro W2 hb2 hk2 hg2; have HS2 := Aside0.mk hb2; have HK2 := Aside0.mk hk2; have HG2 := Aside0.mk hg2; clear hb2 hk2 hg2))
  go_returns
  refine ⟨rfl, ⟨Nat.le_trans HG.out.size HK2.out.1, fun k h1 h2 h3 => ?_⟩, HB.out.trans (HG2.out.mono hbS), ⟨.slice A1 (xs.length + 1) c1, HS2.out, ?_, ?_⟩⟩
  · rw [HK2.out.2 k (Nat.lt_of_lt_of_le h1 HG.out.size) h2 (by simp)]
    exact HG.out.block k h1 h3
  · exact Kd.R_mono (Kd.R_keep (Kd.R_types HO.out HS1.out (by decide)) HK2.out (fun _ hk => hk.2)) (fun _ _ => trivial)
  · exact HAT.out
end Go.Proofs.Ytmjilokgpgajjaa.Th
