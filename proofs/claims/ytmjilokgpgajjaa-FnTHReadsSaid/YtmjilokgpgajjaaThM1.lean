/- Merged by merge.py (wip/tpl) out of ThSink, ThArr, ThCl, ThWrite, ThBin, ThBin2, ThMsg, ThFloat, ThUvar, ThComp, ThZig, ThComp2: The writing of bytes into a sink behind a writer's interface: what is written stands behind what was written; for all bytes. Bytes that are written into an array within a block, and read again; and the writing of numbers there, the highest byte first. Calls, as data; a whole struct is stored; what is said of a call's making, its bytes, and its writing. What a writer over a sink does with bytes, one byte, a text: they stand behind what was written. What a binary writer's calls write. What a binary writer's further calls write. What a binary writer's call for a message writes. What a binary writer's call for a number with parts of 1 writes. The writing of a number in parts of seven bits. What a compact writer's numbers write. What a compact writer's whole numbers write. What a compact writer's calls write. -/
import Derived.Test.YtmjilokgpgajjaaChecked
import Derived.Test.YtmjilokgpgajjaaWMore
import Derived.Test.YtmjilokgpgajjaaWShare
import Derived.Test.YtmjilokgpgajjaaWKept
import Derived.Handy
import Derived.BigQuiet
import Derived.Deep.RegionWith
import Derived.Laws.Entries
import Derived.Stop.Asserts
import Derived.Laws.Externs
import Derived.Test.YtmjilokgpgajjaaPFnTHWritesx2
namespace Go.Proofs.Ytmjilokgpgajjaa.Th
open Go.RowKit Go.Proofs.YtmjilokgpgajjaaW.PrintWords Go.Proofs.YtmjilokgpgajjaaW.PrintLast Go.Proofs.YtmjilokgpgajjaaW.PrintMore
set_option linter.unusedVariables false
set_option linter.unusedSimpArgs false
theorem info5 : (Try.prog.info? 5).map (fun i => (i.zero, i.size, i.bytes)) = some (some (.int .u8 0), 1, 1) := by kernel_rfl
theorem gate_st {P : Program} {ops : Array Oper} {rest : List Oper} {o : Oper} {a : Act} {Q : Exit → Act → World → Prop} {W : World} {t : TypeId} {p v : Operand} (_ho : o.op = .store t p v) (h : wpList P ops Q (o :: rest) a W) : wpList P ops Q (o :: rest) a W := h
/-- One cell of a block is stored. -/
theorem store_any {P : Program} {ops : Array Oper} {rest : List Oper} {o : Oper} {a : Act} {Q : Exit → Act → World → Prop} {W : World} (t : TypeId) (p v : Operand) (ho : o.op = .store t p v) (hN : o.dst = none) (hgd : o.guard = none)
    {G T i : Nat} {cs : Array Value} {u : Value} (hb : W.heap[G]? = some (.cells cs T (0, 0))) (hp : a.eval p = .pointer (some ⟨G, i, none⟩)) (hi : i < cs.size) (hu : a.eval v = u) (h1 : u.cells.toList = [u]) (h2 : u.oneCell' = true) (ht : (P.info? t).map (·.size) = some 1)
    (h : ∀ W1, W1.heap[G]? = some (.cells (cs.setIfInBounds i u) T (0, 0)) → KeepBut W W1 G none → Below G W W1 → wpList P ops Q rest a W1) :
    wpList P ops Q (o :: rest) a W := by
  refine wpList_plain hgd fun K hK => ?_
  unfold Oper.wp execOp
  have hrun := run_store_run (P := P) (w := W) t u [u] hb h1 ht (o := i) (by simp; omega) (by simpa using h2)
  simp only [ho, Sem.run_bind, Sem.run_pure, Result.andThen_ok, hp, hu, hrun]
  refine hK _ _ ?_
  rw [hN]
  exact h (W.setCell ⟨G, i, none⟩ u) (blk_set hb i _) ((KeepBut.refl W G none).set_ i _) ((Below.refl G W).setCell (Nat.le_refl _) _)
theorem own_kept {W : World} {v v1 : Value} (hat : v1.ownBlock = v.ownBlock ∨ ∃ b, v1.ownBlock = some b ∧ W.heap.size ≤ b) : ∀ g, g < W.heap.size → some g ≠ v.ownBlock → some g ≠ v1.ownBlock := by
  intro g h1 h2 h3
  rcases hat with e | ⟨b, e, hle⟩
  · exact h2 (h3.trans e)
  · rw [e] at h3
    injection h3 with h3
    omega
/-- Nothing has turned but the sink's cell and its row. -/
def Keep2 (w w' : World) (S : Nat) (v : Value) : Prop := w.heap.size ≤ w'.heap.size ∧ ∀ k, k < w.heap.size → k ≠ S → some k ≠ v.ownBlock → w'.heap[k]? = w.heap[k]?
set_option maxHeartbeats 4000000 in
set_option maxRecDepth 100000 in
theorem sink_write (w : World) (Sg base : Nat) (v : Value) (xs ys : List Int) (A : Option Addr) (c : Nat) (hs : w.heap[Sg]? = some (.cells #[v] 53 (0, 0))) (hr : (Kd.int .u8).R 5 w base (fun _ => True) v xs) (hy : (Kd.int .u8).C w A ys.length ys) (hbS : base ≤ Sg) (hb : base ≤ w.heap.size) (hl : xs.length + ys.length < 100000000000) :
    Calls Try.prog 147 #[.pointer (some ⟨Sg, 0, none⟩), .slice A ys.length c] w fun e w' => e = .returned (.tuple #[.int .i64 (ys.length : Int), .nilIface]) ∧ Keep2 w w' Sg v ∧ Below base w w' ∧ ∃ v', w'.heap[Sg]? = some (.cells #[v'] 53 (0, 0)) ∧ (Kd.int .u8).R 5 w' base (fun _ => True) v' (xs ++ ys) ∧ ∀ g, g < w.heap.size → some g ≠ v.ownBlock → some g ≠ v'.ownBlock := by
  have hc0 : w.cell? ⟨Sg, 0, none⟩ = some v := (blk_cell hs 0).trans rfl
  have hne := Kd.R_ne hr hs (by decide)
  have HS := Aside0.mk hs
  have HR := Aside0.mk hr
  have HY := Aside0.mk hy
  have HNE := Aside0.mk hne
  clear hs hr hy hne
  go_enter Try.func147, Try.ntmps147
  go_wp2_with (first | ((with_reducible refine gate_builtin (b := .append) (xs := #[.tmp 10, .tmp 11]) rfl ?_); at_builtin; refine Kd.R_append_rows (Kd.int .u8) (w0 := w) base rfl (.tmp 10) (.tmp 11) 26 5 (.int .u8 0) 1 rfl Try.underlying26 info5 rfl (by decide) (by decide) v xs ys A ys.length c (fun _ => True) (fun _ => False) rfl rfl HR.out HY.out (fun _ _ h => h) (fun _ h => h.elim) (fun _ _ => trivial) (Below.refl _ _) hb (by omega) ?_; intro v1 w1 ho hb1 hg hat; obtain ⟨A1, c1, rfl, hc1, hC1⟩ := Kd.R_reads ho; rw [List.length_append] at ho; have HO := Aside0.mk ho; have HB := Aside0.mk hb1; have HG := Aside0.mk hg; have HS1 := Aside0.mk (blk_grown HS.out hg HNE.out); rw [List.length_append] at hat; have HAT := Aside0.mk (own_kept hat); clear ho hb1 hg hat hC1) | ((with_reducible refine gate_st rfl ?_); refine store_any _ _ _ rfl rfl rfl HS1.out rfl (by simp) rfl rfl rfl (by kernel_rfl) ?_; intro W2 hb2 hk2 hg2; have HS2 := Aside0.mk hb2; have HK2 := Aside0.mk hk2; have HG2 := Aside0.mk hg2; clear hb2 hk2 hg2))
  go_returns
  refine ⟨rfl, ⟨Nat.le_trans HG.out.size HK2.out.1, fun k h1 h2 h3 => ?_⟩, HB.out.trans (HG2.out.mono hbS), ⟨.slice A1 (xs.length + ys.length) c1, HS2.out, ?_, ?_⟩⟩
  · rw [HK2.out.2 k (Nat.lt_of_lt_of_le h1 HG.out.size) h2 (by simp)]
    exact HG.out.block k h1 h3
  · exact Kd.R_mono (Kd.R_keep (Kd.R_types HO.out HS1.out (by decide)) HK2.out (fun _ hk => hk.2)) (fun _ _ => trivial)
  · exact HAT.out
set_option maxHeartbeats 4000000 in
set_option maxRecDepth 100000 in
theorem sink_byte (w : World) (Sg base : Nat) (v : Value) (xs : List Int) (b : Int) (hs : w.heap[Sg]? = some (.cells #[v] 53 (0, 0))) (hr : (Kd.int .u8).R 5 w base (fun _ => True) v xs) (hbS : base ≤ Sg) (hb : base ≤ w.heap.size) (hl : xs.length < 100000000000) :
    Calls Try.prog 43 #[.pointer (some ⟨Sg, 0, none⟩), .int .u8 b] w fun e w' => e = .returned .nilIface ∧ Keep2 w w' Sg v ∧ Below base w w' ∧ ∃ v', w'.heap[Sg]? = some (.cells #[v'] 53 (0, 0)) ∧ (Kd.int .u8).R 5 w' base (fun _ => True) v' (xs ++ [b]) ∧ ∀ g, g < w.heap.size → some g ≠ v.ownBlock → some g ≠ v'.ownBlock := by
  have hc0 : w.cell? ⟨Sg, 0, none⟩ = some v := (blk_cell hs 0).trans rfl
  have hne := Kd.R_ne hr hs (by decide)
  have HS := Aside0.mk hs
  have HR := Aside0.mk hr
  have HNE := Aside0.mk hne
  clear hs hr hne
  go_enter Try.func43, Try.ntmps43
  go_wp2_with (first | ((with_reducible refine gate_builtin (b := .append) (xs := #[.tmp 9, .tmp 11]) rfl ?_); at_builtin; refine Kd.R_append (Kd.int .u8) (w0 := w) base rfl (.tmp 9) (.tmp 11) 26 5 (.int .u8 0) 1 rfl Try.underlying26 info5 rfl (by decide) (by decide) v xs b [.int .u8 b] (fun _ => True) (fun _ => False) rfl rfl rfl (fun _ hk => hk.elim) (fun _ _ => trivial) HR.out (Below.refl _ _) hb (by omega) ?_; intro v1 w1 ho hb1 hg hat; obtain ⟨A1, c1, rfl, hc1, hC1⟩ := Kd.R_reads ho; rw [List.length_append] at ho; have HO := Aside0.mk ho; have HB := Aside0.mk hb1; have HG := Aside0.mk hg; have HS1 := Aside0.mk (blk_grown HS.out hg HNE.out); rw [List.length_append] at hat; have HAT := Aside0.mk (own_kept hat); clear ho hb1 hg hat hC1) | ((with_reducible refine gate_st rfl ?_); refine store_any _ _ _ rfl rfl rfl HS1.out rfl (by simp) rfl rfl rfl (by kernel_rfl) ?_; intro W2 hb2 hk2 hg2; have HS2 := Aside0.mk hb2; have HK2 := Aside0.mk hk2; have HG2 := Aside0.mk hg2; clear hb2 hk2 hg2))
  go_returns
  refine ⟨rfl, ⟨Nat.le_trans HG.out.size HK2.out.1, fun k h1 h2 h3 => ?_⟩, HB.out.trans (HG2.out.mono hbS), ⟨.slice A1 (xs.length + 1) c1, HS2.out, ?_, ?_⟩⟩
  · rw [HK2.out.2 k (Nat.lt_of_lt_of_le h1 HG.out.size) h2 (by simp)]
    exact HG.out.block k h1 h3
  · exact Kd.R_mono (Kd.R_keep (Kd.R_types HO.out HS1.out (by decide)) HK2.out (fun _ hk => hk.2)) (fun _ _ => trivial)
  · exact HAT.out
end Go.Proofs.Ytmjilokgpgajjaa.Th

namespace Go.Proofs.Ytmjilokgpgajjaa.Th
open Go.RowKit Go.Proofs.YtmjilokgpgajjaaW.PrintWords Go.Proofs.YtmjilokgpgajjaaW.PrintLast Go.Proofs.YtmjilokgpgajjaaW.PrintMore
set_option linter.unusedVariables false
set_option linter.unusedSimpArgs false
/-- The cells with the given bytes from place o on. -/
def setBytes (ws : Array Value) (o : Nat) : List Int → Array Value
  | [] => ws
  | b :: r => setBytes (ws.setIfInBounds o (.int .u8 b)) (o + 1) r
theorem setBytes_size : ∀ (bs : List Int) (ws : Array Value) (o : Nat), (setBytes ws o bs).size = ws.size
  | [], ws, o => rfl
  | b :: r, ws, o => by rw [setBytes, setBytes_size r]; simp
theorem setBytes_other : ∀ (bs : List Int) (ws : Array Value) (o j : Nat), (j < o ∨ o + bs.length ≤ j) → (setBytes ws o bs)[j]? = ws[j]?
  | [], ws, o, j, _ => rfl
  | b :: r, ws, o, j, h => by
    rw [setBytes, setBytes_other r _ (o + 1) j (by simp at h; omega)]
    rw [Array.getElem?_setIfInBounds_ne (by simp at h; omega)]
theorem setBytes_at : ∀ (bs : List Int) (ws : Array Value) (o i : Nat), o + bs.length ≤ ws.size → i < bs.length → (setBytes ws o bs)[o + i]? = some (.int .u8 (bs.getD i 0))
  | b :: r, ws, o, 0, h, _ => by
    rw [setBytes, setBytes_other r _ (o + 1) (o + 0) (by omega)]
    simp at h
    rw [Nat.add_zero, Array.getElem?_setIfInBounds_self_of_lt (by omega)]
    simp
  | b :: r, ws, o, i + 1, h, hi => by
    have := setBytes_at r (ws.setIfInBounds o (.int .u8 b)) (o + 1) i (by simp at h ⊢; omega) (by simpa using hi)
    rw [setBytes, show o + (i + 1) = o + 1 + i by omega, this]
    simp
theorem cells_C {W : World} {G T o n : Nat} {ws : Array Value} {bs : List Int} (hb : W.heap[G]? = some (.cells ws T (0, 0))) (hl : bs.length = n) (hn : n < 1000) (h : ∀ i, i < n → ws[o + i]? = some (.int .u8 (bs.getD i 0))) : (Kd.int .u8).C W (some ⟨G, o, none⟩) n bs := by
  refine Kd.C_of_reads (d := 0) ⟨hl, by omega, fun _ => ⟨_, rfl, fun j hj => ?_⟩⟩
  have := h j hj
  unfold World.cell?
  rw [show ((⟨G, o, none⟩ : Addr).add j).block = G from by unfold Addr.add; split <;> simp_all, hb]
  rw [show (⟨G, o, none⟩ : Addr).add j = ⟨G, o + j, none⟩ from by unfold Addr.add; split <;> simp_all]
  simpa using this

set_option maxHeartbeats 4000000 in
set_option maxRecDepth 100000 in
theorem bput16 (v : Int) (h0 : 0 ≤ v) (h1 : v < 65536) (G T o c : Nat) (ws : Array Value) (w : World) (hb : w.heap[G]? = some (.cells ws T (0, 0))) (hsz : o + 2 ≤ ws.size) (b0 : Int) (hc : w.cell? ⟨G, o + 1, none⟩ = some (.int .u8 b0)) :
    Calls Try.prog 98 #[.agg #[], .slice (some ⟨G, o, none⟩) 2 c, .int .u16 v] w fun e w' => e = .returned (.tuple #[]) ∧ w'.heap[G]? = some (.cells (setBytes ws o [v / 256 % 256, v % 256]) T (0, 0)) ∧ KeepBut w w' G none ∧ Below G w w' := by
  have hlt := blk_lt hb
  have BK := Aside0.mk hb
  have HC := Aside0.mk hc
  have HK := Aside0.mk (KeepBut.refl w G none)
  have HG := Aside0.mk (Below.refl G w)
  have hm : v / 256 % 256 = v / 256 := by omega
  have HM := Aside0.mk hm
  clear hb hc hm
  go_enter Try.func98, Try.ntmps98
  go_wp2_with (first | ((with_reducible refine gate_dst (N := 3) rfl ?_); refine box_event ?xhg (N := 3) ?xhd (cs := #[]) (t := 180) ?xhr ?_; (case xhd => rfl); (case xhg => rfl); (case xhr => first | (go_simp; done) | (go_simp; rfl)); intro G2 hG2 W1 hb1 hg1; have n1 := Aside0.mk (blk_below BK.out hg1); have n2 := Aside0.mk (HK.out.trans (KeepBut.of_below hg1 G none) (.inl rfl)); have n3 := Aside0.mk (HG.out.trans (hg1.mono (Nat.le_of_lt hlt))); have hcc := pw_cell_below hg1 HC.out; clear BK HG HK hb1 hg1 hG2; have BK := n1; have HK := n2; have HG := n3; clear n1 n2 n3) | ((with_reducible refine gate_st rfl ?_); refine store_any _ _ _ rfl rfl rfl BK.out rfl (by (try simp only [Array.size_setIfInBounds]); omega) rfl rfl rfl (by kernel_rfl) ?_; intro W1 hb1 hk1 hg1; have n1 := Aside0.mk hb1; have n2 := Aside0.mk (HK.out.trans hk1 (.inl rfl)); have n3 := Aside0.mk (HG.out.trans hg1); clear BK HK HG hb1 hk1 hg1; have BK := n1; have HK := n2; have HG := n3; clear n1 n2 n3))
  go_returns
  refine ⟨rfl, ?_, HK.out, HG.out⟩
  have hm := HM.out
  simp only [setBytes, Nat.add_assoc, Nat.reduceAdd, hm]
  exact BK.out

set_option maxHeartbeats 4000000 in
set_option maxRecDepth 100000 in
theorem bput32 (v : Int) (h0 : 0 ≤ v) (h1 : v < 4294967296) (G T o c : Nat) (ws : Array Value) (w : World) (hb : w.heap[G]? = some (.cells ws T (0, 0))) (hsz : o + 4 ≤ ws.size) (b0 : Int) (hc : w.cell? ⟨G, o + 3, none⟩ = some (.int .u8 b0)) :
    Calls Try.prog 99 #[.agg #[], .slice (some ⟨G, o, none⟩) 4 c, .int .u32 v] w fun e w' => e = .returned (.tuple #[]) ∧ w'.heap[G]? = some (.cells (setBytes ws o [v / 16777216 % 256, v / 65536 % 256, v / 256 % 256, v % 256]) T (0, 0)) ∧ KeepBut w w' G none ∧ Below G w w' := by
  have hlt := blk_lt hb
  have BK := Aside0.mk hb
  have HC := Aside0.mk hc
  have HK := Aside0.mk (KeepBut.refl w G none)
  have HG := Aside0.mk (Below.refl G w)
  have hm : v / 16777216 % 256 = v / 16777216 := by omega
  have HM := Aside0.mk hm
  clear hb hc hm
  go_enter Try.func99, Try.ntmps99
  go_wp2_with (first | ((with_reducible refine gate_dst (N := 3) rfl ?_); refine box_event ?xhg (N := 3) ?xhd (cs := #[]) (t := 180) ?xhr ?_; (case xhd => rfl); (case xhg => rfl); (case xhr => first | (go_simp; done) | (go_simp; rfl)); intro G2 hG2 W1 hb1 hg1; have n1 := Aside0.mk (blk_below BK.out hg1); have n2 := Aside0.mk (HK.out.trans (KeepBut.of_below hg1 G none) (.inl rfl)); have n3 := Aside0.mk (HG.out.trans (hg1.mono (Nat.le_of_lt hlt))); have hcc := pw_cell_below hg1 HC.out; clear BK HG HK hb1 hg1 hG2; have BK := n1; have HK := n2; have HG := n3; clear n1 n2 n3) | ((with_reducible refine gate_st rfl ?_); refine store_any _ _ _ rfl rfl rfl BK.out rfl (by (try simp only [Array.size_setIfInBounds]); omega) rfl rfl rfl (by kernel_rfl) ?_; intro W1 hb1 hk1 hg1; have n1 := Aside0.mk hb1; have n2 := Aside0.mk (HK.out.trans hk1 (.inl rfl)); have n3 := Aside0.mk (HG.out.trans hg1); clear BK HK HG hb1 hk1 hg1; have BK := n1; have HK := n2; have HG := n3; clear n1 n2 n3))
  go_returns
  refine ⟨rfl, ?_, HK.out, HG.out⟩
  have hm := HM.out
  simp only [setBytes, Nat.add_assoc, Nat.reduceAdd, hm]
  exact BK.out

set_option maxHeartbeats 4000000 in
set_option maxRecDepth 100000 in
theorem bput64 (v : Int) (h0 : 0 ≤ v) (h1 : v < 18446744073709551616) (G T o c : Nat) (ws : Array Value) (w : World) (hb : w.heap[G]? = some (.cells ws T (0, 0))) (hsz : o + 8 ≤ ws.size) (b0 : Int) (hc : w.cell? ⟨G, o + 7, none⟩ = some (.int .u8 b0)) :
    Calls Try.prog 97 #[.agg #[], .slice (some ⟨G, o, none⟩) 8 c, .int .u64 v] w fun e w' => e = .returned (.tuple #[]) ∧ w'.heap[G]? = some (.cells (setBytes ws o [v / 72057594037927936 % 256, v / 281474976710656 % 256, v / 1099511627776 % 256, v / 4294967296 % 256, v / 16777216 % 256, v / 65536 % 256, v / 256 % 256, v % 256]) T (0, 0)) ∧ KeepBut w w' G none ∧ Below G w w' := by
  have hlt := blk_lt hb
  have BK := Aside0.mk hb
  have HC := Aside0.mk hc
  have HK := Aside0.mk (KeepBut.refl w G none)
  have HG := Aside0.mk (Below.refl G w)
  have hm : v / 72057594037927936 % 256 = v / 72057594037927936 := by omega
  have HM := Aside0.mk hm
  clear hb hc hm
  go_enter Try.func97, Try.ntmps97
  go_wp2_with (first | ((with_reducible refine gate_dst (N := 3) rfl ?_); refine box_event ?xhg (N := 3) ?xhd (cs := #[]) (t := 180) ?xhr ?_; (case xhd => rfl); (case xhg => rfl); (case xhr => first | (go_simp; done) | (go_simp; rfl)); intro G2 hG2 W1 hb1 hg1; have n1 := Aside0.mk (blk_below BK.out hg1); have n2 := Aside0.mk (HK.out.trans (KeepBut.of_below hg1 G none) (.inl rfl)); have n3 := Aside0.mk (HG.out.trans (hg1.mono (Nat.le_of_lt hlt))); have hcc := pw_cell_below hg1 HC.out; clear BK HG HK hb1 hg1 hG2; have BK := n1; have HK := n2; have HG := n3; clear n1 n2 n3) | ((with_reducible refine gate_st rfl ?_); refine store_any _ _ _ rfl rfl rfl BK.out rfl (by (try simp only [Array.size_setIfInBounds]); omega) rfl rfl rfl (by kernel_rfl) ?_; intro W1 hb1 hk1 hg1; have n1 := Aside0.mk hb1; have n2 := Aside0.mk (HK.out.trans hk1 (.inl rfl)); have n3 := Aside0.mk (HG.out.trans hg1); clear BK HK HG hb1 hk1 hg1; have BK := n1; have HK := n2; have HG := n3; clear n1 n2 n3))
  go_returns
  refine ⟨rfl, ?_, HK.out, HG.out⟩
  have hm := HM.out
  simp only [setBytes, Nat.add_assoc, Nat.reduceAdd, hm]
  exact BK.out
end Go.Proofs.Ytmjilokgpgajjaa.Th

namespace Go.Proofs.Ytmjilokgpgajjaa.Th
open Go.RowKit Go.Proofs.YtmjilokgpgajjaaW.PrintWords Go.Proofs.YtmjilokgpgajjaaW.PrintLast Go.Proofs.YtmjilokgpgajjaaW.PrintMore
set_option linter.unusedVariables false
set_option linter.unusedSimpArgs false
/-- A call. -/
structure Cl where
  op : Int
  n : Int
  S : ByteArray
  a : Int
  b : Int
  d : Bool
theorem store_agg {P : Program} {ops : Array Oper} {rest : List Oper} {o : Oper} {a : Act} {Q : Exit → Act → World → Prop} {W : World} (t : TypeId) (p v : Operand) (ho : o.op = .store t p v) (hN : o.dst = none) (hgd : o.guard = none)
    {G T : Nat} {cur : Array Value} (l : List Value) (hb : W.heap[G]? = some (.cells cur T (0, 0))) (hp : a.eval p = .pointer (some ⟨G, 0, none⟩)) (hi : l.length = cur.size) (hu : a.eval v = .agg l.toArray) (ht : (P.info? t).map (·.size) = some l.length) (h1 : ∀ q ∈ l, q.oneCell' = true)
    (h : ∀ W1, W1.heap[G]? = some (.cells l.toArray T (0, 0)) → KeepBut W W1 G none → Below G W W1 → wpList P ops Q rest a W1) :
    wpList P ops Q (o :: rest) a W := by
  refine wpList_plain hgd fun K hK => ?_
  unfold Oper.wp execOp
  have hrun := run_store_run (P := P) (w := W) t (.agg l.toArray) l hb (by simp [Value.cells]) ht (o := 0) (by simp; omega) h1
  simp only [ho, Sem.run_bind, Sem.run_pure, Result.andThen_ok, hp, hu, hrun]
  refine hK _ _ ?_
  rw [hN]
  obtain ⟨cur', h1', h2, h3⟩ := setCells_row (g := G) l 0 W cur hb (by omega)
  obtain ⟨s1, s2, s3, s4⟩ := setCells_same G l 0 W
  have e : cur' = l.toArray := by
    refine Array.toList_inj.1 ?_
    rw [h3]
    simp
    omega
  exact h (W.setCells G 0 l) (e ▸ h1') ⟨by omega, fun i _ hi _ => setCells_far _ _ i hi⟩ ⟨s1, s2, s3, by omega, fun i hi => setCells_far _ _ i (by omega)⟩
/-- What wrCall makes. -/
def Mk (g n : Int) (S : ByteArray) (x y : Int) (d : Bool) (c : Cl) : Prop := ∀ w : World, Calls Try.prog 12 #[.int .u8 g, .int .i64 n, .string S, .agg #[.int .u8 x, .int .u8 y], .bool d] w fun e w' => e = .returned (.agg #[.int .i64 c.op, .int .i64 c.n, .string c.S, .int .i64 c.a, .int .i64 c.b, .bool c.d]) ∧ Below w.heap.size w w'
/-- What the definition tells of a call. -/
def Sp (p : Int) (c : Cl) (zs : List Int) : Prop := ∀ w : World, Calls Try.prog 13 #[.int .i64 p, .agg #[.int .i64 c.op, .int .i64 c.n, .string c.S, .int .i64 c.a, .int .i64 c.b, .bool c.d]] w fun e w' => ∃ v, e = .returned v ∧ (Kd.int .u8).R 5 w' w.heap.size (fun _ => True) v zs ∧ Below w.heap.size w w'
/-- What THWrite writes of one call. -/
def One (p : Int) (c : Cl) (zs : List Int) : Prop := ∀ (w : World) (B C : Nat), B < w.heap.size → w.heap[B]? = some (.cells #[.int .i64 c.op, .int .i64 c.n, .string c.S, .int .i64 c.a, .int .i64 c.b, .bool c.d] 30 (0, 0)) →
    Calls Try.prog 9 #[.int .i64 p, .slice (some ⟨B, 0, none⟩) 1 C] w fun e w' => ∃ (A : Option Addr) (c : Nat), e = .returned (.tuple #[.slice A zs.length c, .int .i64 1]) ∧ (Kd.int .u8).R 5 w' w.heap.size (fun _ => True) (.slice A zs.length c) zs ∧ Below w.heap.size w w'
theorem Mk.at_ {g n : Int} {S : ByteArray} {x y : Int} {d : Bool} {c : Cl} (h : Mk g n S x y d c) (w : World) : Calls Try.prog 12 #[.int .u8 g, .int .i64 n, .string S, .agg #[.int .u8 x, .int .u8 y], .bool d] w fun e w' => e = .returned (.agg #[.int .i64 c.op, .int .i64 c.n, .string c.S, .int .i64 c.a, .int .i64 c.b, .bool c.d]) ∧ Below w.heap.size w w' := h w
theorem Sp.at_ {p : Int} {c : Cl} {zs : List Int} (h : Sp p c zs) (w : World) : Calls Try.prog 13 #[.int .i64 p, .agg #[.int .i64 c.op, .int .i64 c.n, .string c.S, .int .i64 c.a, .int .i64 c.b, .bool c.d]] w fun e w' => ∃ v, e = .returned v ∧ (Kd.int .u8).R 5 w' w.heap.size (fun _ => True) v zs ∧ Below w.heap.size w w' := h w
theorem One.at_ {p : Int} {c : Cl} {zs : List Int} (h : One p c zs) (w : World) (B C : Nat) (hB : B < w.heap.size) (hl : w.heap[B]? = some (.cells #[.int .i64 c.op, .int .i64 c.n, .string c.S, .int .i64 c.a, .int .i64 c.b, .bool c.d] 30 (0, 0))) :
    Calls Try.prog 9 #[.int .i64 p, .slice (some ⟨B, 0, none⟩) 1 C] w fun e w' => ∃ (A : Option Addr) (c : Nat), e = .returned (.tuple #[.slice A zs.length c, .int .i64 1]) ∧ (Kd.int .u8).R 5 w' w.heap.size (fun _ => True) (.slice A zs.length c) zs ∧ Below w.heap.size w w' := h w B C hB hl
end Go.Proofs.Ytmjilokgpgajjaa.Th

namespace Go.Proofs.Ytmjilokgpgajjaa.Th
open Go.RowKit Go.Proofs.YtmjilokgpgajjaaW.PrintWords Go.Proofs.YtmjilokgpgajjaaW.PrintLast Go.Proofs.YtmjilokgpgajjaaW.PrintMore
set_option linter.unusedVariables false
set_option linter.unusedSimpArgs false
/-- A writer's block, its sink, its protocol's block, and what was written; the writer's fields begin at place off of a block of SZ cells. -/
structure St (w : World) (base Sg Wg T off SZ Pg PT : Nat) (ps : Array Value) (pv : Value) (xs : List Int) : Prop where
  hS : ∃ v, w.heap[Sg]? = some (.cells #[v] 53 (0, 0)) ∧ (Kd.int .u8).R 5 w base (fun _ => True) v xs
  hW : ∃ ws : Array Value, w.heap[Wg]? = some (.cells ws T (0, 0)) ∧ ws.size = SZ ∧ ws[off]? = some pv ∧ ws[off + 9]? = some (.iface 51 (.pointer (some ⟨Sg, 0, none⟩))) ∧ (∀ i, i < 8 → ∃ b, ws[off + 1 + i]? = some (.int .u8 b))
  hP : w.heap[Pg]? = some (.cells ps PT (0, 0))
  hZ : off + 10 ≤ SZ
  t5 : T ≠ 5
  p5 : PT ≠ 5
  n1 : Sg ≠ Wg
  n2 : Sg ≠ Pg
  n3 : Wg ≠ Pg
  b1 : base ≤ Sg
  b2 : base ≤ Wg
  b3 : base ≤ w.heap.size
/-- All other blocks are as they were, and are none of the sink's row. -/
def Rest (w w' : World) (Sg Wg : Nat) : Prop := w.heap.size ≤ w'.heap.size ∧ ∀ v, w.heap[Sg]? = some (.cells #[v] 53 (0, 0)) → ∃ v', w'.heap[Sg]? = some (.cells #[v'] 53 (0, 0)) ∧ ∀ g, g < w.heap.size → g ≠ Sg → g ≠ Wg → some g ≠ v.ownBlock → w'.heap[g]? = w.heap[g]? ∧ some g ≠ v'.ownBlock
theorem Rest.below {w w' : World} {Sg Wg : Nat} (hb : Below w.heap.size w w') : Rest w w' Sg Wg := ⟨hb.size, fun v hv => ⟨v, blk_below hv hb, fun g h1 _ _ h4 => ⟨hb.block g h1, h4⟩⟩⟩
theorem Rest.trans {w w1 w2 : World} {Sg Wg : Nat} (h : Rest w w1 Sg Wg) (k : Rest w1 w2 Sg Wg) : Rest w w2 Sg Wg := by
  refine ⟨Nat.le_trans h.1 k.1, fun v hv => ?_⟩
  obtain ⟨v1, h1, h2⟩ := h.2 v hv
  obtain ⟨v2, k1, k2⟩ := k.2 v1 h1
  refine ⟨v2, k1, fun g g1 g2 g3 g4 => ?_⟩
  obtain ⟨a1, a2⟩ := h2 g g1 g2 g3 g4
  obtain ⟨c1, c2⟩ := k2 g (Nat.lt_of_lt_of_le g1 h.1) g2 g3 a2
  exact ⟨c1.trans a1, c2⟩
theorem Rest.sink {w w' : World} {Sg Wg : Nat} {v v' : Value} (h1 : w.heap[Sg]? = some (.cells #[v] 53 (0, 0))) (hk : Keep2 w w' Sg v) (h2 : w'.heap[Sg]? = some (.cells #[v'] 53 (0, 0))) (ha : ∀ g, g < w.heap.size → some g ≠ v.ownBlock → some g ≠ v'.ownBlock) : Rest w w' Sg Wg := by
  refine ⟨hk.1, fun u hu => ?_⟩
  obtain rfl : v = u := by
    have := h1.symm.trans hu
    injection this with this
    injection this with this
    have := congrArg (fun a : Array Value => a[0]?) this
    simpa using this
  exact ⟨v', h2, fun g g1 g2 _ g4 => ⟨hk.2 g g1 g2 g4, ha g g1 g4⟩⟩
theorem Rest.bytes {w w' : World} {Sg Wg : Nat} (hn : Sg ≠ Wg) (hk : KeepBut w w' Wg none) : Rest w w' Sg Wg :=
  ⟨hk.1, fun v hv => ⟨v, (hk.2 Sg (blk_lt hv) hn (by simp)).trans hv, fun g g1 _ g3 g4 => ⟨hk.2 g g1 g3 (by simp), g4⟩⟩⟩
/-- A block that is no byte block of the sink's row stands. -/
theorem Rest.blk {w w' : World} {Sg Wg g : Nat} {o : Obj} {v : Value} (h : Rest w w' Sg Wg) (hv : w.heap[Sg]? = some (.cells #[v] 53 (0, 0))) (ho : w.heap[g]? = some o) (h1 : g ≠ Sg) (h2 : g ≠ Wg) (h3 : some g ≠ v.ownBlock) : w'.heap[g]? = some o := by
  obtain ⟨v', _, h4⟩ := h.2 v hv
  exact (h4 g (blk_lt ho) h1 h2 h3).1.trans ho
section
variable {w w' : World} {base Sg Wg T off SZ Pg PT : Nat} {ps : Array Value} {pv : Value} {xs : List Int}
theorem ne5 {t : Nat} (h : t ≠ 5) : ∀ q, q ∈ 5 :: (Kd.int .u8).E → q ≠ t := fun q hq => by
  have hq2 : q = 5 := List.mem_singleton.1 hq
  rw [hq2]
  exact Ne.symm h
/-- A call that only makes memory leaves it. -/
theorem St.below (h : St w base Sg Wg T off SZ Pg PT ps pv xs) (hb : Below w.heap.size w w') : St w' base Sg Wg T off SZ Pg PT ps pv xs := by
  obtain ⟨v, h1, h2⟩ := h.hS
  obtain ⟨ws, h3, h4⟩ := h.hW
  exact ⟨⟨v, blk_below h1 hb, Kd.R_below h2 hb⟩, ⟨ws, blk_below h3 hb, h4⟩, blk_below h.hP hb, h.hZ, h.t5, h.p5, h.n1, h.n2, h.n3, h.b1, h.b2, Nat.le_trans h.b3 hb.size⟩
/-- The sink's own writing. -/
theorem St.sink (h : St w base Sg Wg T off SZ Pg PT ps pv xs) {v v' : Value} {ys : List Int} (h1 : w.heap[Sg]? = some (.cells #[v] 53 (0, 0))) (hr : (Kd.int .u8).R 5 w base (fun _ => True) v xs) (hk : Keep2 w w' Sg v) (h2 : w'.heap[Sg]? = some (.cells #[v'] 53 (0, 0))) (h3 : (Kd.int .u8).R 5 w' base (fun _ => True) v' ys) : St w' base Sg Wg T off SZ Pg PT ps pv ys := by
  obtain ⟨ws, h4, h5⟩ := h.hW
  have k1 : some Wg ≠ v.ownBlock := Kd.R_ne hr h4 (Ne.symm h.t5)
  have k2 : some Pg ≠ v.ownBlock := Kd.R_ne hr h.hP (Ne.symm h.p5)
  exact ⟨⟨v', h2, h3⟩, ⟨ws, (hk.2 Wg (blk_lt h4) (Ne.symm h.n1) k1).trans h4, h5⟩, (hk.2 Pg (blk_lt h.hP) (Ne.symm h.n2) k2).trans h.hP, h.hZ, h.t5, h.p5, h.n1, h.n2, h.n3, h.b1, h.b2, Nat.le_trans h.b3 hk.1⟩
/-- Bytes written into the writer's own array. -/
theorem St.bytes (h : St w base Sg Wg T off SZ Pg PT ps pv xs) {ws : Array Value} (hw : w.heap[Wg]? = some (.cells ws T (0, 0))) (o : Nat) (bs : List Int) (hb1 : w'.heap[Wg]? = some (.cells (setBytes ws (off + 1 + o) bs) T (0, 0))) (hl : o + bs.length ≤ 8) (hk : KeepBut w w' Wg none) : St w' base Sg Wg T off SZ Pg PT ps pv xs := by
  obtain ⟨v, h1, h2⟩ := h.hS
  obtain ⟨ws', h3, h4, h5, h6, h7⟩ := h.hW
  obtain rfl : ws' = ws := by
    have := h3.symm.trans hw
    injection this with this
    injection this
  have hz := h.hZ
  refine ⟨⟨v, (hk.2 Sg (blk_lt h1) h.n1 (by simp)).trans h1, Kd.R_mono (Kd.R_keep (Kd.R_types h2 h3 (ne5 h.t5)) hk (fun _ hk => hk.2)) (fun _ _ => trivial)⟩, ⟨_, hb1, by rw [setBytes_size, h4], by rw [setBytes_other _ _ _ _ (by omega)]; exact h5, by rw [setBytes_other _ _ _ _ (by omega)]; exact h6, fun i hi => ?_⟩, (hk.2 Pg (blk_lt h.hP) (Ne.symm h.n3) (by simp)).trans h.hP, h.hZ, h.t5, h.p5, h.n1, h.n2, h.n3, h.b1, h.b2, Nat.le_trans h.b3 hk.1⟩
  by_cases hi2 : i < o ∨ o + bs.length ≤ i
  · rw [setBytes_other _ _ _ _ (by omega)]
    exact h7 i hi
  · have := setBytes_at bs ws' (off + 1 + o) (i - o) (by omega) (by omega)
    rw [show off + 1 + o + (i - o) = off + 1 + i by omega] at this
    exact ⟨_, this⟩
end
set_option maxRecDepth 100000 in
theorem is_byte (S : Nat) (w : World) : Sem.run Try.prog (Instr.typeAssert (.iface 51 (.pointer (some ⟨S, 0, none⟩))) 155 199 true) w = .ok (.tuple #[.iface 51 (.pointer (some ⟨S, 0, none⟩)), .bool true]) w := by kernel_rfl
set_option maxRecDepth 100000 in
theorem no_string (S : Nat) (w : World) : Sem.run Try.prog (Instr.typeAssert (.iface 51 (.pointer (some ⟨S, 0, none⟩))) 155 202 true) w = .ok (.tuple #[.nilIface, .bool false]) w := run_typeAssert_lacksB (want := #[("WriteString", 204)]) (by kernel_rfl) (by kernel_rfl) (by kernel_rfl) _ _ w
set_option maxHeartbeats 4000000 in
set_option maxRecDepth 100000 in
theorem w_write (w : World) (base Sg Wg T off SZ Pg PT : Nat) (ps : Array Value) (pv : Value) (xs ys : List Int) (A : Option Addr) (c : Nat) (hst : St w base Sg Wg T off SZ Pg PT ps pv xs) (hy : (Kd.int .u8).C w A ys.length ys) (hl : xs.length + ys.length < 100000000000) :
    Calls Try.prog 96 #[.pointer (some ⟨Wg, off, none⟩), .slice A ys.length c] w fun e w' => e = .returned .nilIface ∧ St w' base Sg Wg T off SZ Pg PT ps pv (xs ++ ys) ∧ Below base w w' ∧ Rest w w' Sg Wg := by
  obtain ⟨v, h1, h2⟩ := hst.hS
  obtain ⟨ws, h3, h4, h5, h6, h7⟩ := hst.hW
  have hc9 : w.cell? ⟨Wg, off + 9, none⟩ = some (.iface 51 (.pointer (some ⟨Sg, 0, none⟩))) := (blk_cell h3 (off + 9)).trans h6
  have HW := Aside0.mk (sink_write w Sg base v xs ys A c h1 h2 hy hst.b1 hst.b3 hl)
  have HST := Aside0.mk hst
  have H1 := Aside0.mk h1
  have H2 := Aside0.mk h2
  clear hst h1 h2 h3 h4 h5 h6 h7 hy
  go_enter Try.func96, Try.ntmps96
  go_wp2_with (go_at_call 147; (with_reducible refine HW.out.mono ?_); rintro e w1 ⟨rfl, hk, hb, v', hs', hr', ha'⟩; have HS2 := Aside0.mk (HST.out.sink H1.out H2.out hk hs' hr'); have HB := Aside0.mk hb; have HRS := Aside0.mk (Rest.sink (Wg := Wg) H1.out hk hs' ha'); clear hk hb hs' hr' ha')
  go_ret
  exact ⟨rfl, HS2.out, HB.out, HRS.out⟩
set_option maxHeartbeats 4000000 in
set_option maxRecDepth 100000 in
theorem w_byte (w : World) (base Sg Wg T off SZ Pg PT : Nat) (ps : Array Value) (pv : Value) (xs : List Int) (b : Int) (hst : St w base Sg Wg T off SZ Pg PT ps pv xs) (hl : xs.length < 100000000000) :
    Calls Try.prog 95 #[.pointer (some ⟨Wg, off, none⟩), .int .u8 b] w fun e w' => e = .returned .nilIface ∧ St w' base Sg Wg T off SZ Pg PT ps pv (xs ++ [b]) ∧ Below base w w' ∧ Rest w w' Sg Wg := by
  obtain ⟨v, h1, h2⟩ := hst.hS
  obtain ⟨ws, h3, h4, h5, h6, h7⟩ := hst.hW
  have hc9 : w.cell? ⟨Wg, off + 9, none⟩ = some (.iface 51 (.pointer (some ⟨Sg, 0, none⟩))) := (blk_cell h3 (off + 9)).trans h6
  have hta := is_byte Sg
  have HW := Aside0.mk (sink_byte w Sg base v xs b h1 h2 hst.b1 hst.b3 hl)
  have HST := Aside0.mk hst
  have H1 := Aside0.mk h1
  have H2 := Aside0.mk h2
  clear hst h1 h2 h3 h4 h5 h6 h7
  go_enter Try.func95, Try.ntmps95
  go_wp2_with (go_at_call 43; (with_reducible refine HW.out.mono ?_); rintro e w1 ⟨rfl, hk, hb, v', hs', hr', ha'⟩; have HS2 := Aside0.mk (HST.out.sink H1.out H2.out hk hs' hr'); have HB := Aside0.mk hb; have HRS := Aside0.mk (Rest.sink (Wg := Wg) H1.out hk hs' ha'); clear hk hb hs' hr' ha')
  go_ret
  exact ⟨rfl, HS2.out, HB.out, HRS.out⟩
set_option maxHeartbeats 4000000 in
set_option maxRecDepth 100000 in
theorem w_string (w : World) (base Sg Wg T off SZ Pg PT : Nat) (ps : Array Value) (pv : Value) (xs : List Int) (S : ByteArray) (hst : St w base Sg Wg T off SZ Pg PT ps pv xs) (hl : xs.length + S.size < 100000000000) :
    Calls Try.prog 100 #[.pointer (some ⟨Wg, off, none⟩), .string S] w fun e w' => e = .returned .nilIface ∧ St w' base Sg Wg T off SZ Pg PT ps pv (xs ++ bytesOf S) ∧ Below base w w' ∧ Rest w w' Sg Wg := by
  obtain ⟨v, h1, h2⟩ := hst.hS
  obtain ⟨ws, h3, h4, h5, h6, h7⟩ := hst.hW
  have hc9 : w.cell? ⟨Wg, off + 9, none⟩ = some (.iface 51 (.pointer (some ⟨Sg, 0, none⟩))) := (blk_cell h3 (off + 9)).trans h6
  have kb := print_bytes (P := Try.prog) 9 26 5 Try.underlying9 Try.underlying26 Try.underlying5 S w
  have hrd := bytes_reads w 5 S (by omega)
  have hbw := bytes_below (Below.refl w.heap.size w) (Nat.le_refl _) 5 S
  have hlen := bytesOf_length S
  obtain ⟨C, hC⟩ : ∃ C, C = grownCap w S.size 0 5 := ⟨_, rfl⟩
  obtain ⟨W, hW⟩ : ∃ W, W = Lib.bytesWorld w 5 S := ⟨_, rfl⟩
  rw [← hC, ← hW] at kb
  rw [← hW] at hrd hbw
  have hst2 := hst.below hbw
  have hCw : (Kd.int .u8).C W (some ⟨w.heap.size, 0, none⟩) (bytesOf S).length (bytesOf S) := by rw [hlen]; exact Kd.C_of_reads (d := 0) hrd
  have h1W := blk_below h1 hbw
  have h2W := Kd.R_below h2 hbw
  have hta := no_string Sg
  have HW := Aside0.mk (sink_write W Sg base v xs (bytesOf S) (some ⟨w.heap.size, 0, none⟩) C h1W h2W hCw hst.b1 (Nat.le_trans hst.b3 hbw.size) (by omega))
  rw [hlen] at HW
  have HST := Aside0.mk hst2
  have H1 := Aside0.mk h1W
  have H2 := Aside0.mk h2W
  have HRW := Aside0.mk (Rest.below (Sg := Sg) (Wg := Wg) hbw)
  have HBW := Aside0.mk (hbw.mono hst.b3)
  clear hst h1 h2 h3 h4 h5 h6 h7 hC hW hrd hbw hst2 hCw h1W h2W hlen
  go_enter Try.func100, Try.ntmps100
  go_wp2_with (first | (go_at_call 147; (with_reducible refine HW.out.mono ?_); rintro e w1 ⟨rfl, hk, hb, v', hs', hr', ha'⟩; have HS2 := Aside0.mk (HST.out.sink H1.out H2.out hk hs' hr'); have HB := Aside0.mk (HBW.out.trans hb); have HRS := Aside0.mk (Rest.sink (Wg := Wg) H1.out hk hs' ha'); clear hk hb hs' hr' ha') | go_in)
  go_ret
  exact ⟨rfl, HS2.out, HB.out, HRW.out.trans HRS.out⟩
end Go.Proofs.Ytmjilokgpgajjaa.Th

namespace Go.Proofs.Ytmjilokgpgajjaa.Th
open Go.RowKit Go.Proofs.YtmjilokgpgajjaaW.PrintWords Go.Proofs.YtmjilokgpgajjaaW.PrintLast Go.Proofs.YtmjilokgpgajjaaW.PrintMore
set_option linter.unusedVariables false
set_option linter.unusedSimpArgs false
/-- The k lowest bytes of a number, the highest one of them first. -/
def hib : Nat → Int → List Int
  | 0, _ => []
  | k + 1, u => u / 256 ^ k % 256 :: hib k u
theorem hib_len : ∀ (k : Nat) (u : Int), (hib k u).length = k
  | 0, _ => rfl
  | k + 1, u => by simp [hib, hib_len k]

set_option maxHeartbeats 4000000 in
set_option maxRecDepth 100000 in
theorem w_int16 (w : World) (base Sg Wg T off SZ Pg PT : Nat) (ps : Array Value) (pv : Value) (xs : List Int) (v : Int) (hst : St w base Sg Wg T off SZ Pg PT ps pv xs) (h0 : -32768 ≤ v) (h1 : v < 32768) (hl : xs.length < 10000000000) :
    Calls Try.prog 84 #[.pointer (some ⟨Wg, off, none⟩), .int .i16 v] w fun e w' => e = .returned .nilIface ∧ St w' base Sg Wg T off SZ Pg PT ps pv (xs ++ hib 2 v) ∧ Below base w w' ∧ Rest w w' Sg Wg := by
  obtain ⟨ws, h3, h4, h5, h6, h7⟩ := hst.hW
  have hz := hst.hZ
  obtain ⟨b0, hb0⟩ := h7 1 (by decide)
  have hc : w.cell? ⟨Wg, off + 1 + 1, none⟩ = some (.int .u8 b0) := (blk_cell h3 _).trans hb0
  obtain ⟨u, hu⟩ : ∃ u, u = IntKind.u16.wrap v := ⟨_, rfl⟩
  have hur : u = v % 65536 := by rw [hu, IntKind.wrap_u16]
  have hbs : [u / 256 % 256, u % 256] = hib 2 v := by
    simp only [hib]
    rw [hur]
    simp only [List.cons.injEq, and_true]
    refine ⟨by omega, by omega⟩
  have HPUT := Aside0.mk (fun (c : Nat) => bput16 u (by omega) (by omega) Wg T (off + 1) c ws w.drew (blk_drew h3) (by omega) b0 hc)
  rw [hbs] at HPUT
  have HWS := Aside0.mk (show off + 1 + 2 ≤ ws.size by omega)
  have HST := Aside0.mk hst
  have H3 := Aside0.mk h3
  have HB0 := Aside0.mk (Below.refl w.heap.size w)
  have hlen := hib_len 2 v
  generalize hib 2 v = bs at *
  have HL := Aside0.mk hlen
  clear hst h3 h4 h5 h6 h7 hb0 hc hur hbs hlen
  rw [hu] at HPUT
  clear hu
  go_enter Try.func84, Try.ntmps84
  go_upto_region 1 with fail
  go_region_with (go_at_call 98; (with_reducible refine (HPUT.out _).mono ?_); rintro e w2 ⟨rfl, hw2, hk2, hb2⟩; have HST2 := Aside0.mk ((HST.out.below (below_drew HB0.out)).bytes (blk_drew H3.out) 0 bs hw2 (by rw [HL.out]; decide) hk2); have HC2 := Aside0.mk (cells_C (n := bs.length) (bs := bs) (o := off + 1) hw2 rfl (by rw [HL.out]; decide) (fun i hi => setBytes_at bs ws (off + 1) i (by rw [HL.out]; exact HWS.out) hi)); have HB2 := Aside0.mk ((HB0.out.mono HST.out.b3).drew.trans (hb2.mono HST.out.b2)); have HR2 := Aside0.mk ((Rest.below (Sg := Sg) (Wg := Wg) (below_drew HB0.out)).trans (Rest.bytes HST.out.n1 hk2)); clear hw2 hk2 hb2)
  have hbl := HL.out
  have HWR := Aside0.mk (w_write w2 base Sg Wg T off SZ Pg PT ps pv xs bs (some ⟨Wg, off + 1, none⟩) 8 HST2.out HC2.out (by omega))
  rw [hbl] at HWR
  clear hbl
  go_wp2_with (go_at_call 96; (with_reducible refine HWR.out.mono ?_); rintro e w3 ⟨rfl, hs3, hb3, hr3⟩; have HR3 := Aside0.mk (HR2.out.trans hr3); have HS3 := Aside0.mk hs3; have HB3 := Aside0.mk (HB2.out.trans hb3); clear hs3 hb3 hr3)
  go_ret
  exact ⟨rfl, HS3.out, HB3.out, HR3.out⟩

set_option maxHeartbeats 4000000 in
set_option maxRecDepth 100000 in
theorem w_int32 (w : World) (base Sg Wg T off SZ Pg PT : Nat) (ps : Array Value) (pv : Value) (xs : List Int) (v : Int) (hst : St w base Sg Wg T off SZ Pg PT ps pv xs) (h0 : -2147483648 ≤ v) (h1 : v < 2147483648) (hl : xs.length < 10000000000) :
    Calls Try.prog 85 #[.pointer (some ⟨Wg, off, none⟩), .int .i32 v] w fun e w' => e = .returned .nilIface ∧ St w' base Sg Wg T off SZ Pg PT ps pv (xs ++ hib 4 v) ∧ Below base w w' ∧ Rest w w' Sg Wg := by
  obtain ⟨ws, h3, h4, h5, h6, h7⟩ := hst.hW
  have hz := hst.hZ
  obtain ⟨b0, hb0⟩ := h7 3 (by decide)
  have hc : w.cell? ⟨Wg, off + 1 + 3, none⟩ = some (.int .u8 b0) := (blk_cell h3 _).trans hb0
  obtain ⟨u, hu⟩ : ∃ u, u = IntKind.u32.wrap v := ⟨_, rfl⟩
  have hur : u = v % 4294967296 := by rw [hu, IntKind.wrap_u32]
  have hbs : [u / 16777216 % 256, u / 65536 % 256, u / 256 % 256, u % 256] = hib 4 v := by
    simp only [hib]
    rw [hur]
    simp only [List.cons.injEq, and_true]
    refine ⟨by omega, by omega, by omega, by omega⟩
  have HPUT := Aside0.mk (fun (c : Nat) => bput32 u (by omega) (by omega) Wg T (off + 1) c ws w.drew (blk_drew h3) (by omega) b0 hc)
  rw [hbs] at HPUT
  have HWS := Aside0.mk (show off + 1 + 4 ≤ ws.size by omega)
  have HST := Aside0.mk hst
  have H3 := Aside0.mk h3
  have HB0 := Aside0.mk (Below.refl w.heap.size w)
  have hlen := hib_len 4 v
  generalize hib 4 v = bs at *
  have HL := Aside0.mk hlen
  clear hst h3 h4 h5 h6 h7 hb0 hc hur hbs hlen
  rw [hu] at HPUT
  clear hu
  go_enter Try.func85, Try.ntmps85
  go_upto_region 1 with fail
  go_region_with (go_at_call 99; (with_reducible refine (HPUT.out _).mono ?_); rintro e w2 ⟨rfl, hw2, hk2, hb2⟩; have HST2 := Aside0.mk ((HST.out.below (below_drew HB0.out)).bytes (blk_drew H3.out) 0 bs hw2 (by rw [HL.out]; decide) hk2); have HC2 := Aside0.mk (cells_C (n := bs.length) (bs := bs) (o := off + 1) hw2 rfl (by rw [HL.out]; decide) (fun i hi => setBytes_at bs ws (off + 1) i (by rw [HL.out]; exact HWS.out) hi)); have HB2 := Aside0.mk ((HB0.out.mono HST.out.b3).drew.trans (hb2.mono HST.out.b2)); have HR2 := Aside0.mk ((Rest.below (Sg := Sg) (Wg := Wg) (below_drew HB0.out)).trans (Rest.bytes HST.out.n1 hk2)); clear hw2 hk2 hb2)
  have hbl := HL.out
  have HWR := Aside0.mk (w_write w2 base Sg Wg T off SZ Pg PT ps pv xs bs (some ⟨Wg, off + 1, none⟩) 8 HST2.out HC2.out (by omega))
  rw [hbl] at HWR
  clear hbl
  go_wp2_with (go_at_call 96; (with_reducible refine HWR.out.mono ?_); rintro e w3 ⟨rfl, hs3, hb3, hr3⟩; have HR3 := Aside0.mk (HR2.out.trans hr3); have HS3 := Aside0.mk hs3; have HB3 := Aside0.mk (HB2.out.trans hb3); clear hs3 hb3 hr3)
  go_ret
  exact ⟨rfl, HS3.out, HB3.out, HR3.out⟩

set_option maxHeartbeats 4000000 in
set_option maxRecDepth 100000 in
theorem w_int64 (w : World) (base Sg Wg T off SZ Pg PT : Nat) (ps : Array Value) (pv : Value) (xs : List Int) (v : Int) (hst : St w base Sg Wg T off SZ Pg PT ps pv xs) (h0 : -9223372036854775808 ≤ v) (h1 : v < 9223372036854775808) (hl : xs.length < 10000000000) :
    Calls Try.prog 86 #[.pointer (some ⟨Wg, off, none⟩), .int .i64 v] w fun e w' => e = .returned .nilIface ∧ St w' base Sg Wg T off SZ Pg PT ps pv (xs ++ hib 8 v) ∧ Below base w w' ∧ Rest w w' Sg Wg := by
  obtain ⟨ws, h3, h4, h5, h6, h7⟩ := hst.hW
  have hz := hst.hZ
  obtain ⟨b0, hb0⟩ := h7 7 (by decide)
  have hc : w.cell? ⟨Wg, off + 1 + 7, none⟩ = some (.int .u8 b0) := (blk_cell h3 _).trans hb0
  obtain ⟨u, hu⟩ : ∃ u, u = IntKind.u64.wrap v := ⟨_, rfl⟩
  have hur : u = v % 18446744073709551616 := by rw [hu, IntKind.wrap_u64]
  have hbs : [u / 72057594037927936 % 256, u / 281474976710656 % 256, u / 1099511627776 % 256, u / 4294967296 % 256, u / 16777216 % 256, u / 65536 % 256, u / 256 % 256, u % 256] = hib 8 v := by
    simp only [hib]
    rw [hur]
    simp only [List.cons.injEq, and_true]
    refine ⟨by omega, by omega, by omega, by omega, by omega, by omega, by omega, by omega⟩
  have HPUT := Aside0.mk (fun (c : Nat) => bput64 u (by omega) (by omega) Wg T (off + 1) c ws w.drew (blk_drew h3) (by omega) b0 hc)
  rw [hbs] at HPUT
  have HWS := Aside0.mk (show off + 1 + 8 ≤ ws.size by omega)
  have HST := Aside0.mk hst
  have H3 := Aside0.mk h3
  have HB0 := Aside0.mk (Below.refl w.heap.size w)
  have hlen := hib_len 8 v
  generalize hib 8 v = bs at *
  have HL := Aside0.mk hlen
  clear hst h3 h4 h5 h6 h7 hb0 hc hur hbs hlen
  rw [hu] at HPUT
  clear hu
  go_enter Try.func86, Try.ntmps86
  go_upto_region 1 with fail
  go_region_with (go_at_call 97; (with_reducible refine (HPUT.out _).mono ?_); rintro e w2 ⟨rfl, hw2, hk2, hb2⟩; have HST2 := Aside0.mk ((HST.out.below (below_drew HB0.out)).bytes (blk_drew H3.out) 0 bs hw2 (by rw [HL.out]; decide) hk2); have HC2 := Aside0.mk (cells_C (n := bs.length) (bs := bs) (o := off + 1) hw2 rfl (by rw [HL.out]; decide) (fun i hi => setBytes_at bs ws (off + 1) i (by rw [HL.out]; exact HWS.out) hi)); have HB2 := Aside0.mk ((HB0.out.mono HST.out.b3).drew.trans (hb2.mono HST.out.b2)); have HR2 := Aside0.mk ((Rest.below (Sg := Sg) (Wg := Wg) (below_drew HB0.out)).trans (Rest.bytes HST.out.n1 hk2)); clear hw2 hk2 hb2)
  have hbl := HL.out
  have HWR := Aside0.mk (w_write w2 base Sg Wg T off SZ Pg PT ps pv xs bs (some ⟨Wg, off + 1, none⟩) 8 HST2.out HC2.out (by omega))
  rw [hbl] at HWR
  clear hbl
  go_wp2_with (go_at_call 96; (with_reducible refine HWR.out.mono ?_); rintro e w3 ⟨rfl, hs3, hb3, hr3⟩; have HR3 := Aside0.mk (HR2.out.trans hr3); have HS3 := Aside0.mk hs3; have HB3 := Aside0.mk (HB2.out.trans hb3); clear hs3 hb3 hr3)
  go_ret
  exact ⟨rfl, HS3.out, HB3.out, HR3.out⟩
end Go.Proofs.Ytmjilokgpgajjaa.Th

namespace Go.Proofs.Ytmjilokgpgajjaa.Th
open Go.RowKit Go.Proofs.YtmjilokgpgajjaaW.PrintWords Go.Proofs.YtmjilokgpgajjaaW.PrintLast Go.Proofs.YtmjilokgpgajjaaW.PrintMore
set_option linter.unusedVariables false
set_option linter.unusedSimpArgs false
/-- A block that was made ahead of the calls stands behind them. -/
theorem St.held {w W1 w' : World} {base Sg Wg T off SZ Pg PT : Nat} {ps : Array Value} {pv : Value} {xs : List Int} {B : Nat} {o : Obj} (h : St w base Sg Wg T off SZ Pg PT ps pv xs) (hb : Below w.heap.size w W1) (hB : W1.heap[B]? = some o) (hn : w.heap.size ≤ B) (hr : Rest W1 w' Sg Wg) : w'.heap[B]? = some o := by
  obtain ⟨v, h1, h2⟩ := h.hS
  obtain ⟨ws, h3, _⟩ := h.hW
  exact hr.blk (blk_below h1 hb) hB (fun e => by have := blk_lt h1; omega) (fun e => by have := blk_lt h3; omega) (fun e => by have := Kd.R_lt h2 B e.symm; omega)
/-- So does a block that was there, if it is none of the sink's. -/
theorem St.kept {w w' : World} {base Sg Wg T off SZ Pg PT : Nat} {ps : Array Value} {pv : Value} {xs : List Int} {A : Option Addr} {n : Nat} {ys : List Int} (h : St w base Sg Wg T off SZ Pg PT ps pv xs) (hy : Kd.F (Kd.int .u8) w (fun k => k ≠ Sg ∧ k ≠ Wg ∧ ∀ v, w.heap[Sg]? = some (.cells #[v] 53 (0, 0)) → some k ≠ v.ownBlock) A n ys) (hr : Rest w w' Sg Wg) : (Kd.int .u8).C w' A n ys := by
  obtain ⟨v, h1, h2⟩ := h.hS
  obtain ⟨v', _, h4⟩ := hr.2 v h1
  exact hy w' (fun k hk hlt => (h4 k hlt hk.1 hk.2.1 (hk.2.2 v h1)).1)

set_option maxHeartbeats 4000000 in
set_option maxRecDepth 100000 in
theorem w_bool_true (w : World) (base Sg Wg T off SZ Pg PT : Nat) (ps : Array Value) (pv : Value) (xs : List Int)  (hst : St w base Sg Wg T off SZ Pg PT ps pv xs)  (hl : xs.length < 1000000000) :
    Calls Try.prog 80 #[.pointer (some ⟨Wg, off, none⟩), .bool true] w fun e w' => e = .returned .nilIface ∧ St w' base Sg Wg T off SZ Pg PT ps pv (xs ++ [1]) ∧ Below base w w' ∧ Rest w w' Sg Wg := by
  have HST := Aside0.mk hst
  have HS1 := Aside0.mk hst
  have HB1 := Aside0.mk (Below.refl base w)
  have HR1 := Aside0.mk (Rest.below (Sg := Sg) (Wg := Wg) (Below.refl w.heap.size w))
  clear hst
  go_enter Try.func80, Try.ntmps80
  go_wp2_with (first | (go_at_call 95; (with_reducible refine (w_byte _ base Sg Wg T off SZ Pg PT ps pv _ _ HS1.out (by (try simp only [List.length_append, List.length_cons, List.length_nil, hib_len]); omega)).mono ?_); rintro e w2 ⟨rfl, hs, hb, hr⟩; have HS2 := Aside0.mk hs; have HB2 := Aside0.mk (HB1.out.trans hb); have HR2 := Aside0.mk (HR1.out.trans hr); clear hs hb hr))
  go_ret
  exact ⟨rfl, by have h := HS2.out; (try simp only [List.append_assoc, List.cons_append, List.nil_append] at h); exact h, HB2.out, HR2.out⟩

set_option maxHeartbeats 4000000 in
set_option maxRecDepth 100000 in
theorem w_bool_false (w : World) (base Sg Wg T off SZ Pg PT : Nat) (ps : Array Value) (pv : Value) (xs : List Int)  (hst : St w base Sg Wg T off SZ Pg PT ps pv xs)  (hl : xs.length < 1000000000) :
    Calls Try.prog 80 #[.pointer (some ⟨Wg, off, none⟩), .bool false] w fun e w' => e = .returned .nilIface ∧ St w' base Sg Wg T off SZ Pg PT ps pv (xs ++ [0]) ∧ Below base w w' ∧ Rest w w' Sg Wg := by
  have HST := Aside0.mk hst
  have HS1 := Aside0.mk hst
  have HB1 := Aside0.mk (Below.refl base w)
  have HR1 := Aside0.mk (Rest.below (Sg := Sg) (Wg := Wg) (Below.refl w.heap.size w))
  clear hst
  go_enter Try.func80, Try.ntmps80
  go_wp2_with (first | (go_at_call 95; (with_reducible refine (w_byte _ base Sg Wg T off SZ Pg PT ps pv _ _ HS1.out (by (try simp only [List.length_append, List.length_cons, List.length_nil, hib_len]); omega)).mono ?_); rintro e w2 ⟨rfl, hs, hb, hr⟩; have HS2 := Aside0.mk hs; have HB2 := Aside0.mk (HB1.out.trans hb); have HR2 := Aside0.mk (HR1.out.trans hr); clear hs hb hr))
  go_ret
  exact ⟨rfl, by have h := HS2.out; (try simp only [List.append_assoc, List.cons_append, List.nil_append] at h); exact h, HB2.out, HR2.out⟩

set_option maxHeartbeats 4000000 in
set_option maxRecDepth 100000 in
theorem w_int8 (w : World) (base Sg Wg T off SZ Pg PT : Nat) (ps : Array Value) (pv : Value) (xs : List Int) (v : Int) (hst : St w base Sg Wg T off SZ Pg PT ps pv xs)  (hl : xs.length < 1000000000) :
    Calls Try.prog 87 #[.pointer (some ⟨Wg, off, none⟩), .int .i8 v] w fun e w' => e = .returned .nilIface ∧ St w' base Sg Wg T off SZ Pg PT ps pv (xs ++ [IntKind.u8.wrap v]) ∧ Below base w w' ∧ Rest w w' Sg Wg := by
  have HST := Aside0.mk hst
  have HS1 := Aside0.mk hst
  have HB1 := Aside0.mk (Below.refl base w)
  have HR1 := Aside0.mk (Rest.below (Sg := Sg) (Wg := Wg) (Below.refl w.heap.size w))
  clear hst
  go_enter Try.func87, Try.ntmps87
  go_wp2_with (first | (go_at_call 95; (with_reducible refine (w_byte _ base Sg Wg T off SZ Pg PT ps pv _ _ HS1.out (by (try simp only [List.length_append, List.length_cons, List.length_nil, hib_len]); omega)).mono ?_); rintro e w2 ⟨rfl, hs, hb, hr⟩; have HS2 := Aside0.mk hs; have HB2 := Aside0.mk (HB1.out.trans hb); have HR2 := Aside0.mk (HR1.out.trans hr); clear hs hb hr))
  go_ret
  exact ⟨rfl, by have h := HS2.out; (try simp only [List.append_assoc, List.cons_append, List.nil_append] at h); exact h, HB2.out, HR2.out⟩

set_option maxHeartbeats 4000000 in
set_option maxRecDepth 100000 in
theorem w_len (w : World) (base Sg Wg T off SZ Pg PT : Nat) (ps : Array Value) (pv : Value) (xs : List Int) (n : Int) (hst : St w base Sg Wg T off SZ Pg PT ps pv xs) (h0' : 0 ≤ n) (h1' : n < 2147483648) (hl : xs.length < 1000000000) :
    Calls Try.prog 88 #[.pointer (some ⟨Wg, off, none⟩), .int .i64 n] w fun e w' => e = .returned .nilIface ∧ St w' base Sg Wg T off SZ Pg PT ps pv (xs ++ hib 4 n) ∧ Below base w w' ∧ Rest w w' Sg Wg := by
  have HST := Aside0.mk hst
  have HS1 := Aside0.mk hst
  have HB1 := Aside0.mk (Below.refl base w)
  have HR1 := Aside0.mk (Rest.below (Sg := Sg) (Wg := Wg) (Below.refl w.heap.size w))
  have h0 : -2147483648 ≤ n := by omega
  have h1 : n < 2147483648 := h1'
  have d0 : decide (n < 0) = false := by simp; omega
  have d1 : decide (2147483647 < n) = false := by simp; omega
  clear hst
  go_enter Try.func88, Try.ntmps88
  go_wp2_with (first | (go_at_call 85; (with_reducible refine (w_int32 _ base Sg Wg T off SZ Pg PT ps pv _ n HS1.out h0 h1 (by (try simp only [List.length_append, List.length_cons, List.length_nil, hib_len]); omega)).mono ?_); rintro e w2 ⟨rfl, hs, hb, hr⟩; have HS2 := Aside0.mk hs; have HB2 := Aside0.mk (HB1.out.trans hb); have HR2 := Aside0.mk (HR1.out.trans hr); clear hs hb hr))
  go_ret
  exact ⟨rfl, by have h := HS2.out; (try simp only [List.append_assoc, List.cons_append, List.nil_append] at h); exact h, HB2.out, HR2.out⟩

set_option maxHeartbeats 4000000 in
set_option maxRecDepth 100000 in
theorem w_field (w : World) (base Sg Wg T off SZ Pg PT : Nat) (ps : Array Value) (pv : Value) (xs : List Int) (id ty : Int) (dl : Bool) (hst : St w base Sg Wg T off SZ Pg PT ps pv xs) (h0 : -32768 ≤ id) (h1 : id < 32768) (hl : xs.length < 1000000000) :
    Calls Try.prog 82 #[.pointer (some ⟨Wg, off, none⟩), .agg #[.int .i16 id, .int .i8 ty, .bool dl]] w fun e w' => e = .returned .nilIface ∧ St w' base Sg Wg T off SZ Pg PT ps pv (xs ++ (IntKind.u8.wrap ty :: hib 2 id)) ∧ Below base w w' ∧ Rest w w' Sg Wg := by
  have HST := Aside0.mk hst
  clear hst
  go_enter Try.func82, Try.ntmps82
  go_wp2_with (first | ((with_reducible refine gate_dst (N := 3) rfl ?_); refine box_event ?xhg (N := 3) ?xhd (cs := #[.int .i16 id, .int .i8 ty, .bool dl]) (t := 117) ?xhr ?_; (case xhd => rfl); (case xhg => rfl); (case xhr => first | (go_simp; done) | (go_simp; rfl)); intro Bg hG w1 hb1 hg1; have HHELD := Aside0.mk (fun w' (hr : Rest w1 w' Sg Wg) => HST.out.held hg1 hb1 (Nat.le_of_eq hG.symm) hr); have HS1 := Aside0.mk (HST.out.below hg1); have HB1 := Aside0.mk (hg1.mono HST.out.b3); have HR1 := Aside0.mk (Rest.below (Sg := Sg) (Wg := Wg) (Below.refl w1.heap.size w1)); have HR0 := Aside0.mk (Rest.below (Sg := Sg) (Wg := Wg) hg1); have c1_0 : w1.cell? ⟨Bg, 0, none⟩ = some (.int .i16 id) := (blk_cell hb1 0).trans rfl; have c1_1 : w1.cell? ⟨Bg, 1, none⟩ = some (.int .i8 ty) := (blk_cell hb1 1).trans rfl; have c1_2 : w1.cell? ⟨Bg, 2, none⟩ = some (.bool dl) := (blk_cell hb1 2).trans rfl; clear hb1 hg1 hG) | (go_at_call 95; (with_reducible refine (w_byte _ base Sg Wg T off SZ Pg PT ps pv _ _ HS1.out (by (try simp only [List.length_append, List.length_cons, List.length_nil, hib_len]); omega)).mono ?_); rintro e w2 ⟨rfl, hs, hb, hr⟩; have HS2 := Aside0.mk hs; have HB2 := Aside0.mk (HB1.out.trans hb); have HR2 := Aside0.mk (HR1.out.trans hr); have HK2 := Aside0.mk (HHELD.out _ HR2.out); have c2_0 : w2.cell? ⟨Bg, 0, none⟩ = some (.int .i16 id) := (blk_cell HK2.out 0).trans rfl; have c2_1 : w2.cell? ⟨Bg, 1, none⟩ = some (.int .i8 ty) := (blk_cell HK2.out 1).trans rfl; have c2_2 : w2.cell? ⟨Bg, 2, none⟩ = some (.bool dl) := (blk_cell HK2.out 2).trans rfl; clear hs hb hr) | (go_at_call 84; (with_reducible refine (w_int16 _ base Sg Wg T off SZ Pg PT ps pv _ id HS2.out h0 h1 (by (try simp only [List.length_append, List.length_cons, List.length_nil, hib_len]); omega)).mono ?_); rintro e w3 ⟨rfl, hs, hb, hr⟩; have HS3 := Aside0.mk hs; have HB3 := Aside0.mk (HB2.out.trans hb); have HR3 := Aside0.mk (HR2.out.trans hr); have HK3 := Aside0.mk (HHELD.out _ HR3.out); have c3_0 : w3.cell? ⟨Bg, 0, none⟩ = some (.int .i16 id) := (blk_cell HK3.out 0).trans rfl; have c3_1 : w3.cell? ⟨Bg, 1, none⟩ = some (.int .i8 ty) := (blk_cell HK3.out 1).trans rfl; have c3_2 : w3.cell? ⟨Bg, 2, none⟩ = some (.bool dl) := (blk_cell HK3.out 2).trans rfl; clear hs hb hr))
  go_ret
  exact ⟨rfl, by have h := HS3.out; (try simp only [List.append_assoc, List.cons_append, List.nil_append] at h); exact h, HB3.out, HR0.out.trans HR3.out⟩

set_option maxHeartbeats 4000000 in
set_option maxRecDepth 100000 in
theorem w_list (w : World) (base Sg Wg T off SZ Pg PT : Nat) (ps : Array Value) (pv : Value) (xs : List Int) (n ty : Int) (hst : St w base Sg Wg T off SZ Pg PT ps pv xs) (h0 : -2147483648 ≤ n) (h1 : n < 2147483648) (hl : xs.length < 1000000000) :
    Calls Try.prog 89 #[.pointer (some ⟨Wg, off, none⟩), .agg #[.int .i32 n, .int .i8 ty]] w fun e w' => e = .returned .nilIface ∧ St w' base Sg Wg T off SZ Pg PT ps pv (xs ++ (IntKind.u8.wrap ty :: hib 4 n)) ∧ Below base w w' ∧ Rest w w' Sg Wg := by
  have HST := Aside0.mk hst
  clear hst
  go_enter Try.func89, Try.ntmps89
  go_wp2_with (first | ((with_reducible refine gate_dst (N := 3) rfl ?_); refine box_event ?xhg (N := 3) ?xhd (cs := #[.int .i32 n, .int .i8 ty]) (t := 120) ?xhr ?_; (case xhd => rfl); (case xhg => rfl); (case xhr => first | (go_simp; done) | (go_simp; rfl)); intro Bg hG w1 hb1 hg1; have HHELD := Aside0.mk (fun w' (hr : Rest w1 w' Sg Wg) => HST.out.held hg1 hb1 (Nat.le_of_eq hG.symm) hr); have HS1 := Aside0.mk (HST.out.below hg1); have HB1 := Aside0.mk (hg1.mono HST.out.b3); have HR1 := Aside0.mk (Rest.below (Sg := Sg) (Wg := Wg) (Below.refl w1.heap.size w1)); have HR0 := Aside0.mk (Rest.below (Sg := Sg) (Wg := Wg) hg1); have c1_0 : w1.cell? ⟨Bg, 0, none⟩ = some (.int .i32 n) := (blk_cell hb1 0).trans rfl; have c1_1 : w1.cell? ⟨Bg, 1, none⟩ = some (.int .i8 ty) := (blk_cell hb1 1).trans rfl; clear hb1 hg1 hG) | (go_at_call 95; (with_reducible refine (w_byte _ base Sg Wg T off SZ Pg PT ps pv _ _ HS1.out (by (try simp only [List.length_append, List.length_cons, List.length_nil, hib_len]); omega)).mono ?_); rintro e w2 ⟨rfl, hs, hb, hr⟩; have HS2 := Aside0.mk hs; have HB2 := Aside0.mk (HB1.out.trans hb); have HR2 := Aside0.mk (HR1.out.trans hr); have HK2 := Aside0.mk (HHELD.out _ HR2.out); have c2_0 : w2.cell? ⟨Bg, 0, none⟩ = some (.int .i32 n) := (blk_cell HK2.out 0).trans rfl; have c2_1 : w2.cell? ⟨Bg, 1, none⟩ = some (.int .i8 ty) := (blk_cell HK2.out 1).trans rfl; clear hs hb hr) | (go_at_call 85; (with_reducible refine (w_int32 _ base Sg Wg T off SZ Pg PT ps pv _ n HS2.out h0 h1 (by (try simp only [List.length_append, List.length_cons, List.length_nil, hib_len]); omega)).mono ?_); rintro e w3 ⟨rfl, hs, hb, hr⟩; have HS3 := Aside0.mk hs; have HB3 := Aside0.mk (HB2.out.trans hb); have HR3 := Aside0.mk (HR2.out.trans hr); have HK3 := Aside0.mk (HHELD.out _ HR3.out); have c3_0 : w3.cell? ⟨Bg, 0, none⟩ = some (.int .i32 n) := (blk_cell HK3.out 0).trans rfl; have c3_1 : w3.cell? ⟨Bg, 1, none⟩ = some (.int .i8 ty) := (blk_cell HK3.out 1).trans rfl; clear hs hb hr))
  go_ret
  exact ⟨rfl, by have h := HS3.out; (try simp only [List.append_assoc, List.cons_append, List.nil_append] at h); exact h, HB3.out, HR0.out.trans HR3.out⟩

set_option maxHeartbeats 4000000 in
set_option maxRecDepth 100000 in
theorem w_set (w : World) (base Sg Wg T off SZ Pg PT : Nat) (ps : Array Value) (pv : Value) (xs : List Int) (n ty : Int) (hst : St w base Sg Wg T off SZ Pg PT ps pv xs) (h0 : -2147483648 ≤ n) (h1 : n < 2147483648) (hl : xs.length < 1000000000) :
    Calls Try.prog 92 #[.pointer (some ⟨Wg, off, none⟩), .agg #[.int .i32 n, .int .i8 ty]] w fun e w' => e = .returned .nilIface ∧ St w' base Sg Wg T off SZ Pg PT ps pv (xs ++ (IntKind.u8.wrap ty :: hib 4 n)) ∧ Below base w w' ∧ Rest w w' Sg Wg := by
  have HST := Aside0.mk hst
  clear hst
  go_enter Try.func92, Try.ntmps92
  go_wp2_with (first | ((with_reducible refine gate_dst (N := 3) rfl ?_); refine box_event ?xhg (N := 3) ?xhd (cs := #[.int .i32 n, .int .i8 ty]) (t := 122) ?xhr ?_; (case xhd => rfl); (case xhg => rfl); (case xhr => first | (go_simp; done) | (go_simp; rfl)); intro Bg hG w1 hb1 hg1; have HHELD := Aside0.mk (fun w' (hr : Rest w1 w' Sg Wg) => HST.out.held hg1 hb1 (Nat.le_of_eq hG.symm) hr); have HS1 := Aside0.mk (HST.out.below hg1); have HB1 := Aside0.mk (hg1.mono HST.out.b3); have HR1 := Aside0.mk (Rest.below (Sg := Sg) (Wg := Wg) (Below.refl w1.heap.size w1)); have HR0 := Aside0.mk (Rest.below (Sg := Sg) (Wg := Wg) hg1); have c1_0 : w1.cell? ⟨Bg, 0, none⟩ = some (.int .i32 n) := (blk_cell hb1 0).trans rfl; have c1_1 : w1.cell? ⟨Bg, 1, none⟩ = some (.int .i8 ty) := (blk_cell hb1 1).trans rfl; clear hb1 hg1 hG) | (go_at_call 89; (with_reducible refine (w_list _ base Sg Wg T off SZ Pg PT ps pv _ n ty HS1.out h0 h1 (by (try simp only [List.length_append, List.length_cons, List.length_nil, hib_len]); omega)).mono ?_); rintro e w2 ⟨rfl, hs, hb, hr⟩; have HS2 := Aside0.mk hs; have HB2 := Aside0.mk (HB1.out.trans hb); have HR2 := Aside0.mk (HR1.out.trans hr); have HK2 := Aside0.mk (HHELD.out _ HR2.out); have c2_0 : w2.cell? ⟨Bg, 0, none⟩ = some (.int .i32 n) := (blk_cell HK2.out 0).trans rfl; have c2_1 : w2.cell? ⟨Bg, 1, none⟩ = some (.int .i8 ty) := (blk_cell HK2.out 1).trans rfl; clear hs hb hr))
  go_ret
  exact ⟨rfl, by have h := HS2.out; (try simp only [List.append_assoc, List.cons_append, List.nil_append] at h); exact h, HB2.out, HR0.out.trans HR2.out⟩

set_option maxHeartbeats 4000000 in
set_option maxRecDepth 100000 in
theorem w_map (w : World) (base Sg Wg T off SZ Pg PT : Nat) (ps : Array Value) (pv : Value) (xs : List Int) (n kt vt : Int) (hst : St w base Sg Wg T off SZ Pg PT ps pv xs) (h0 : -2147483648 ≤ n) (h1 : n < 2147483648) (hl : xs.length < 1000000000) :
    Calls Try.prog 90 #[.pointer (some ⟨Wg, off, none⟩), .agg #[.int .i32 n, .int .i8 kt, .int .i8 vt]] w fun e w' => e = .returned .nilIface ∧ St w' base Sg Wg T off SZ Pg PT ps pv (xs ++ (IntKind.u8.wrap kt :: IntKind.u8.wrap vt :: hib 4 n)) ∧ Below base w w' ∧ Rest w w' Sg Wg := by
  have HST := Aside0.mk hst
  clear hst
  go_enter Try.func90, Try.ntmps90
  go_wp2_with (first | ((with_reducible refine gate_dst (N := 3) rfl ?_); refine box_event ?xhg (N := 3) ?xhd (cs := #[.int .i32 n, .int .i8 kt, .int .i8 vt]) (t := 125) ?xhr ?_; (case xhd => rfl); (case xhg => rfl); (case xhr => first | (go_simp; done) | (go_simp; rfl)); intro Bg hG w1 hb1 hg1; have HHELD := Aside0.mk (fun w' (hr : Rest w1 w' Sg Wg) => HST.out.held hg1 hb1 (Nat.le_of_eq hG.symm) hr); have HS1 := Aside0.mk (HST.out.below hg1); have HB1 := Aside0.mk (hg1.mono HST.out.b3); have HR1 := Aside0.mk (Rest.below (Sg := Sg) (Wg := Wg) (Below.refl w1.heap.size w1)); have HR0 := Aside0.mk (Rest.below (Sg := Sg) (Wg := Wg) hg1); have c1_0 : w1.cell? ⟨Bg, 0, none⟩ = some (.int .i32 n) := (blk_cell hb1 0).trans rfl; have c1_1 : w1.cell? ⟨Bg, 1, none⟩ = some (.int .i8 kt) := (blk_cell hb1 1).trans rfl; have c1_2 : w1.cell? ⟨Bg, 2, none⟩ = some (.int .i8 vt) := (blk_cell hb1 2).trans rfl; clear hb1 hg1 hG) | (go_at_call 95; (with_reducible refine (w_byte _ base Sg Wg T off SZ Pg PT ps pv _ _ HS2.out (by (try simp only [List.length_append, List.length_cons, List.length_nil, hib_len]); omega)).mono ?_); rintro e w3 ⟨rfl, hs, hb, hr⟩; have HS3 := Aside0.mk hs; have HB3 := Aside0.mk (HB2.out.trans hb); have HR3 := Aside0.mk (HR2.out.trans hr); have HK3 := Aside0.mk (HHELD.out _ HR3.out); have c3_0 : w3.cell? ⟨Bg, 0, none⟩ = some (.int .i32 n) := (blk_cell HK3.out 0).trans rfl; have c3_1 : w3.cell? ⟨Bg, 1, none⟩ = some (.int .i8 kt) := (blk_cell HK3.out 1).trans rfl; have c3_2 : w3.cell? ⟨Bg, 2, none⟩ = some (.int .i8 vt) := (blk_cell HK3.out 2).trans rfl; clear hs hb hr) | (go_at_call 95; (with_reducible refine (w_byte _ base Sg Wg T off SZ Pg PT ps pv _ _ HS1.out (by (try simp only [List.length_append, List.length_cons, List.length_nil, hib_len]); omega)).mono ?_); rintro e w2 ⟨rfl, hs, hb, hr⟩; have HS2 := Aside0.mk hs; have HB2 := Aside0.mk (HB1.out.trans hb); have HR2 := Aside0.mk (HR1.out.trans hr); have HK2 := Aside0.mk (HHELD.out _ HR2.out); have c2_0 : w2.cell? ⟨Bg, 0, none⟩ = some (.int .i32 n) := (blk_cell HK2.out 0).trans rfl; have c2_1 : w2.cell? ⟨Bg, 1, none⟩ = some (.int .i8 kt) := (blk_cell HK2.out 1).trans rfl; have c2_2 : w2.cell? ⟨Bg, 2, none⟩ = some (.int .i8 vt) := (blk_cell HK2.out 2).trans rfl; clear hs hb hr) | (go_at_call 85; (with_reducible refine (w_int32 _ base Sg Wg T off SZ Pg PT ps pv _ n HS3.out h0 h1 (by (try simp only [List.length_append, List.length_cons, List.length_nil, hib_len]); omega)).mono ?_); rintro e w4 ⟨rfl, hs, hb, hr⟩; have HS4 := Aside0.mk hs; have HB4 := Aside0.mk (HB3.out.trans hb); have HR4 := Aside0.mk (HR3.out.trans hr); have HK4 := Aside0.mk (HHELD.out _ HR4.out); have c4_0 : w4.cell? ⟨Bg, 0, none⟩ = some (.int .i32 n) := (blk_cell HK4.out 0).trans rfl; have c4_1 : w4.cell? ⟨Bg, 1, none⟩ = some (.int .i8 kt) := (blk_cell HK4.out 1).trans rfl; have c4_2 : w4.cell? ⟨Bg, 2, none⟩ = some (.int .i8 vt) := (blk_cell HK4.out 2).trans rfl; clear hs hb hr))
  go_ret
  exact ⟨rfl, by have h := HS4.out; (try simp only [List.append_assoc, List.cons_append, List.nil_append] at h); exact h, HB4.out, HR0.out.trans HR4.out⟩

set_option maxHeartbeats 4000000 in
set_option maxRecDepth 100000 in
theorem w_text (w : World) (base Sg Wg T off SZ Pg PT : Nat) (ps : Array Value) (pv : Value) (xs : List Int) (S : ByteArray) (hst : St w base Sg Wg T off SZ Pg PT ps pv xs) (hS : S.size < 2147483648) (hl : xs.length < 1000000000) :
    Calls Try.prog 93 #[.pointer (some ⟨Wg, off, none⟩), .string S] w fun e w' => e = .returned .nilIface ∧ St w' base Sg Wg T off SZ Pg PT ps pv (xs ++ (hib 4 S.size ++ bytesOf S)) ∧ Below base w w' ∧ Rest w w' Sg Wg := by
  have HST := Aside0.mk hst
  have HS1 := Aside0.mk hst
  have HB1 := Aside0.mk (Below.refl base w)
  have HR1 := Aside0.mk (Rest.below (Sg := Sg) (Wg := Wg) (Below.refl w.heap.size w))
  clear hst
  go_enter Try.func93, Try.ntmps93
  go_wp2_with (first | (go_at_call 88; (with_reducible refine (w_len _ base Sg Wg T off SZ Pg PT ps pv _ (S.size : Int) HS1.out (by omega) (by omega) (by (try simp only [List.length_append, List.length_cons, List.length_nil, hib_len]); omega)).mono ?_); rintro e w2 ⟨rfl, hs, hb, hr⟩; have HS2 := Aside0.mk hs; have HB2 := Aside0.mk (HB1.out.trans hb); have HR2 := Aside0.mk (HR1.out.trans hr); clear hs hb hr) | (go_at_call 100; (with_reducible refine (w_string _ base Sg Wg T off SZ Pg PT ps pv _ S HS2.out (by (try simp only [List.length_append, List.length_cons, List.length_nil, hib_len]); omega)).mono ?_); rintro e w3 ⟨rfl, hs, hb, hr⟩; have HS3 := Aside0.mk hs; have HB3 := Aside0.mk (HB2.out.trans hb); have HR3 := Aside0.mk (HR2.out.trans hr); clear hs hb hr))
  go_ret
  exact ⟨rfl, by have h := HS3.out; (try simp only [List.append_assoc, List.cons_append, List.nil_append] at h); exact h, HB3.out, HR3.out⟩

set_option maxHeartbeats 4000000 in
set_option maxRecDepth 100000 in
theorem w_blob (w : World) (base Sg Wg T off SZ Pg PT : Nat) (ps : Array Value) (pv : Value) (xs : List Int) (ys : List Int) (A : Option Addr) (c : Nat) (hst : St w base Sg Wg T off SZ Pg PT ps pv xs) (hS : ys.length < 2147483648) (hy : Kd.F (Kd.int .u8) w (fun k => k ≠ Sg ∧ k ≠ Wg ∧ ∀ v, w.heap[Sg]? = some (.cells #[v] 53 (0, 0)) → some k ≠ v.ownBlock) A ys.length ys) (hl : xs.length < 1000000000) :
    Calls Try.prog 81 #[.pointer (some ⟨Wg, off, none⟩), .slice A ys.length c] w fun e w' => e = .returned .nilIface ∧ St w' base Sg Wg T off SZ Pg PT ps pv (xs ++ (hib 4 ys.length ++ ys)) ∧ Below base w w' ∧ Rest w w' Sg Wg := by
  have HST := Aside0.mk hst
  have HS1 := Aside0.mk hst
  have HB1 := Aside0.mk (Below.refl base w)
  have HR1 := Aside0.mk (Rest.below (Sg := Sg) (Wg := Wg) (Below.refl w.heap.size w))
  have HY := Aside0.mk hy
  clear hy
  clear hst
  go_enter Try.func81, Try.ntmps81
  go_wp2_with (first | (go_at_call 88; (with_reducible refine (w_len _ base Sg Wg T off SZ Pg PT ps pv _ (ys.length : Int) HS1.out (by omega) (by omega) (by (try simp only [List.length_append, List.length_cons, List.length_nil, hib_len]); omega)).mono ?_); rintro e w2 ⟨rfl, hs, hb, hr⟩; have HS2 := Aside0.mk hs; have HB2 := Aside0.mk (HB1.out.trans hb); have HR2 := Aside0.mk (HR1.out.trans hr); have HY2 := Aside0.mk (HST.out.kept HY.out HR2.out); clear hs hb hr) | (go_at_call 96; (with_reducible refine (w_write _ base Sg Wg T off SZ Pg PT ps pv _ ys A c HS2.out HY2.out (by (try simp only [List.length_append, List.length_cons, List.length_nil, hib_len]); omega)).mono ?_); rintro e w3 ⟨rfl, hs, hb, hr⟩; have HS3 := Aside0.mk hs; have HB3 := Aside0.mk (HB2.out.trans hb); have HR3 := Aside0.mk (HR2.out.trans hr); clear hs hb hr))
  go_ret
  exact ⟨rfl, by have h := HS3.out; (try simp only [List.append_assoc, List.cons_append, List.nil_append] at h); exact h, HB3.out, HR3.out⟩
end Go.Proofs.Ytmjilokgpgajjaa.Th

namespace Go.Proofs.Ytmjilokgpgajjaa.Th
open Go.RowKit Go.Proofs.YtmjilokgpgajjaaW.PrintWords Go.Proofs.YtmjilokgpgajjaaW.PrintLast Go.Proofs.YtmjilokgpgajjaaW.PrintMore
set_option linter.unusedVariables false
set_option linter.unusedSimpArgs false

set_option maxHeartbeats 4000000 in
set_option maxRecDepth 100000 in
theorem w_message_old (w : World) (base Sg Wg T off SZ Pg PT : Nat) (ps : Array Value) (pv : Value) (xs : List Int) (mt id : Int) (S : ByteArray) (hst : St w base Sg Wg T off SZ Pg PT ps pv xs) (h0 : -2147483648 ≤ id) (h1 : id < 2147483648) (hS : S.size < 2147483648) (hpv : pv = .pointer (some ⟨Pg, 0, none⟩)) (hps : ps[0]? = some (.bool true)) (hl : xs.length < 1000000000) :
    Calls Try.prog 91 #[.pointer (some ⟨Wg, off, none⟩), .agg #[.int .i8 mt, .string S, .int .i32 id]] w fun e w' => e = .returned .nilIface ∧ St w' base Sg Wg T off SZ Pg PT ps pv (xs ++ ((hib 4 S.size ++ bytesOf S) ++ (IntKind.u8.wrap mt :: hib 4 id))) ∧ Below base w w' ∧ Rest w w' Sg Wg := by
  have HST := Aside0.mk hst
  obtain ⟨ws, h3, h4, h5, h6, h7⟩ := hst.hW
  have CW := Aside0.mk (show w.cell? ⟨Wg, off, none⟩ = some (.pointer (some ⟨Pg, 0, none⟩)) from (blk_cell h3 off).trans (h5.trans (congrArg some hpv)))
  have CP := Aside0.mk (show w.cell? ⟨Pg, 0, none⟩ = some (.bool true) from (blk_cell hst.hP 0).trans hps)
  clear hst h3 h4 h5 h6 h7 hpv hps
  go_enter Try.func91, Try.ntmps91
  go_wp2_with (first | ((with_reducible refine gate_dst (N := 3) rfl ?_); refine box_event ?xhg (N := 3) ?xhd (cs := #[.int .i8 mt, .string S, .int .i32 id]) (t := 114) ?xhr ?_; (case xhd => rfl); (case xhg => rfl); (case xhr => first | (go_simp; done) | (go_simp; rfl)); intro Bg hG w1 hb1 hg1; have HHELD := Aside0.mk (fun w' (hr : Rest w1 w' Sg Wg) => HST.out.held hg1 hb1 (Nat.le_of_eq hG.symm) hr); have HS1 := Aside0.mk (HST.out.below hg1); have HB1 := Aside0.mk (hg1.mono HST.out.b3); have HR1 := Aside0.mk (Rest.below (Sg := Sg) (Wg := Wg) (Below.refl w1.heap.size w1)); have HR0 := Aside0.mk (Rest.below (Sg := Sg) (Wg := Wg) hg1); have c1_0 : w1.cell? ⟨Bg, 0, none⟩ = some (.int .i8 mt) := (blk_cell hb1 0).trans rfl; have c1_1 : w1.cell? ⟨Bg, 1, none⟩ = some (.string S) := (blk_cell hb1 1).trans rfl; have c1_2 : w1.cell? ⟨Bg, 2, none⟩ = some (.int .i32 id) := (blk_cell hb1 2).trans rfl; have cW1 := pw_cell_below hg1 CW.out; have cP1 := pw_cell_below hg1 CP.out; clear hb1 hg1 hG) | (go_at_call 93; (with_reducible refine (w_text _ base Sg Wg T off SZ Pg PT ps pv _ S HS1.out hS (by (try simp only [List.length_append, List.length_cons, List.length_nil, hib_len]); omega)).mono ?_); rintro e w2 ⟨rfl, hs, hb, hr⟩; have HS2 := Aside0.mk hs; have HB2 := Aside0.mk (HB1.out.trans hb); have HR2 := Aside0.mk (HR1.out.trans hr); have HK2 := Aside0.mk (HHELD.out _ HR2.out); have c2_0 : w2.cell? ⟨Bg, 0, none⟩ = some (.int .i8 mt) := (blk_cell HK2.out 0).trans rfl; have c2_1 : w2.cell? ⟨Bg, 1, none⟩ = some (.string S) := (blk_cell HK2.out 1).trans rfl; have c2_2 : w2.cell? ⟨Bg, 2, none⟩ = some (.int .i32 id) := (blk_cell HK2.out 2).trans rfl; clear hs hb hr) | (go_at_call 95; (with_reducible refine (w_byte _ base Sg Wg T off SZ Pg PT ps pv _ _ HS2.out (by have := hS; (try simp only [List.length_append, List.length_cons, List.length_nil, hib_len, bytesOf_length]); omega)).mono ?_); rintro e w3 ⟨rfl, hs, hb, hr⟩; have HS3 := Aside0.mk hs; have HB3 := Aside0.mk (HB2.out.trans hb); have HR3 := Aside0.mk (HR2.out.trans hr); have HK3 := Aside0.mk (HHELD.out _ HR3.out); have c3_0 : w3.cell? ⟨Bg, 0, none⟩ = some (.int .i8 mt) := (blk_cell HK3.out 0).trans rfl; have c3_1 : w3.cell? ⟨Bg, 1, none⟩ = some (.string S) := (blk_cell HK3.out 1).trans rfl; have c3_2 : w3.cell? ⟨Bg, 2, none⟩ = some (.int .i32 id) := (blk_cell HK3.out 2).trans rfl; clear hs hb hr) | (go_at_call 85; (with_reducible refine (w_int32 _ base Sg Wg T off SZ Pg PT ps pv _ id HS3.out h0 h1 (by have := hS; (try simp only [List.length_append, List.length_cons, List.length_nil, hib_len, bytesOf_length]); omega)).mono ?_); rintro e w4 ⟨rfl, hs, hb, hr⟩; have HS4 := Aside0.mk hs; have HB4 := Aside0.mk (HB3.out.trans hb); have HR4 := Aside0.mk (HR3.out.trans hr); have HK4 := Aside0.mk (HHELD.out _ HR4.out); have c4_0 : w4.cell? ⟨Bg, 0, none⟩ = some (.int .i8 mt) := (blk_cell HK4.out 0).trans rfl; have c4_1 : w4.cell? ⟨Bg, 1, none⟩ = some (.string S) := (blk_cell HK4.out 1).trans rfl; have c4_2 : w4.cell? ⟨Bg, 2, none⟩ = some (.int .i32 id) := (blk_cell HK4.out 2).trans rfl; clear hs hb hr))
  go_ret
  exact ⟨rfl, by have h := HS4.out; (try simp only [List.append_assoc, List.cons_append, List.nil_append] at h); exact h, HB4.out, HR0.out.trans HR4.out⟩

set_option maxHeartbeats 4000000 in
set_option maxRecDepth 100000 in
theorem w_message_new (w : World) (base Sg Wg T off SZ Pg PT : Nat) (ps : Array Value) (pv : Value) (xs : List Int) (mt id : Int) (S : ByteArray) (hst : St w base Sg Wg T off SZ Pg PT ps pv xs) (h0 : -2147483648 ≤ id) (h1 : id < 2147483648) (hS : S.size < 2147483648) (hpv : pv = .pointer (some ⟨Pg, 0, none⟩)) (hps : ps[0]? = some (.bool false)) (hl : xs.length < 1000000000) :
    Calls Try.prog 91 #[.pointer (some ⟨Wg, off, none⟩), .agg #[.int .i8 mt, .string S, .int .i32 id]] w fun e w' => e = .returned .nilIface ∧ St w' base Sg Wg T off SZ Pg PT ps pv (xs ++ ([128, 0, 0, Go.bits .and .u8 (IntKind.u8.wrap mt) 7] ++ (hib 4 S.size ++ (bytesOf S ++ hib 4 id)))) ∧ Below base w w' ∧ Rest w w' Sg Wg := by
  have HST := Aside0.mk hst
  obtain ⟨ws, h3, h4, h5, h6, h7⟩ := hst.hW
  have CW := Aside0.mk (show w.cell? ⟨Wg, off, none⟩ = some (.pointer (some ⟨Pg, 0, none⟩)) from (blk_cell h3 off).trans (h5.trans (congrArg some hpv)))
  have CP := Aside0.mk (show w.cell? ⟨Pg, 0, none⟩ = some (.bool false) from (blk_cell hst.hP 0).trans hps)
  have BKW := Aside0.mk h3
  have HI := Aside0.mk h7
  have HSZ := Aside0.mk (show off + 10 ≤ ws.size by have := hst.hZ; omega)
  clear hst h3 h4 h5 h6 h7 hpv hps
  go_enter Try.func91, Try.ntmps91
  go_upto_region 11 with (first | ((with_reducible refine gate_dst (N := 3) rfl ?_); refine box_event ?xhg (N := 3) ?xhd (cs := #[.int .i8 mt, .string S, .int .i32 id]) (t := 114) ?xhr ?_; (case xhd => rfl); (case xhg => rfl); (case xhr => first | (go_simp; done) | (go_simp; rfl)); intro Bg hG w1 hb1 hg1; have HHELD := Aside0.mk (fun w' (hr : Rest w1 w' Sg Wg) => HST.out.held hg1 hb1 (Nat.le_of_eq hG.symm) hr); have HS1 := Aside0.mk (HST.out.below hg1); have HB1 := Aside0.mk (hg1.mono HST.out.b3); have HR1 := Aside0.mk (Rest.below (Sg := Sg) (Wg := Wg) (Below.refl w1.heap.size w1)); have HR0 := Aside0.mk (Rest.below (Sg := Sg) (Wg := Wg) hg1); have c1_0 : w1.cell? ⟨Bg, 0, none⟩ = some (.int .i8 mt) := (blk_cell hb1 0).trans rfl; have c1_1 : w1.cell? ⟨Bg, 1, none⟩ = some (.string S) := (blk_cell hb1 1).trans rfl; have c1_2 : w1.cell? ⟨Bg, 2, none⟩ = some (.int .i32 id) := (blk_cell hb1 2).trans rfl; have cW1 := pw_cell_below hg1 CW.out; have cP1 := pw_cell_below hg1 CP.out; have BK := Aside0.mk (blk_below BKW.out hg1); have HKB := Aside0.mk (KeepBut.refl w1 Wg none); have HW1 := Aside0.mk (blk_below BKW.out hg1); have HGB := Aside0.mk (Below.refl Wg w1); clear hb1 hg1 hG) | ((with_reducible refine gate_st rfl ?_); refine store_any _ _ _ rfl rfl rfl BK.out rfl (by (try simp only [Array.size_setIfInBounds]); have := HSZ.out; omega) rfl rfl rfl (by kernel_rfl) ?_; intro W2 hb2 hk2 hg2; have n1 := Aside0.mk hb2; have n2 := Aside0.mk (HKB.out.trans hk2 (.inl rfl)); have n3 := Aside0.mk (HGB.out.trans hg2); clear BK HKB HGB hb2 hk2 hg2; have BK := n1; have HKB := n2; have HGB := n3; clear n1 n2 n3))
  have HRA := Aside0.mk (HR1.out.trans (Rest.bytes HST.out.n1 HKB.out))
  have HBA := Aside0.mk (HB1.out.trans (HGB.out.mono HST.out.b2))
  have HSA := Aside0.mk (HS1.out.bytes HW1.out 0 [128, 0, 0] BK.out (by decide) HKB.out)
  have HKA := Aside0.mk (HHELD.out _ HRA.out)
  obtain ⟨wz, hwz⟩ : ∃ wz, wz = setBytes ws (off + 1) [128, 0, 0] := ⟨_, rfl⟩
  have BKZ := Aside0.mk (show W2.heap[Wg]? = some (.cells wz T (0, 0)) by rw [hwz]; exact BK.out)
  have hz3 : wz[off + 1 + 3]? = ws[off + 1 + 3]? := by rw [hwz, setBytes_other _ _ _ _ (by right; simp)]
  obtain ⟨b3, hb3⟩ := HI.out 3 (by decide)
  have k0 : W2.cell? ⟨Bg, 0, none⟩ = some (.int .i8 mt) := (blk_cell HKA.out 0).trans rfl
  have k1 : W2.cell? ⟨Bg, 1, none⟩ = some (.string S) := (blk_cell HKA.out 1).trans rfl
  have k2 : W2.cell? ⟨Bg, 2, none⟩ = some (.int .i32 id) := (blk_cell HKA.out 2).trans rfl
  have k3 : W2.cell? ⟨Wg, off + 1 + 3, none⟩ = some (.int .u8 b3) := (blk_cell BKZ.out _).trans (hz3.trans hb3)
  have f3 := blk_frozen BKZ.out (off + 1 + 3)
  have HWZ := Aside0.mk hwz
  clear BK HKB HGB hwz hz3 hb3
  go_region_with fail
  obtain ⟨u, hu⟩ : ∃ u, u = Go.bits .and .u8 (IntKind.u8.wrap mt) 7 := ⟨_, rfl⟩
  obtain ⟨W3, hW3⟩ : ∃ W3, W3 = (W2.setCell ⟨Wg, off + 1 + 3, none⟩ (.int .u8 u)).drew := ⟨_, rfl⟩
  have BK3 := Aside0.mk (show W3.heap[Wg]? = some (.cells (setBytes wz (off + 1 + 3) [u]) T (0, 0)) by rw [hW3]; exact blk_set BKZ.out _ _)
  have HK3 := Aside0.mk (show KeepBut W2 W3 Wg none by rw [hW3]; exact (KeepBut.refl W2 Wg none).set_ _ _)
  have HB3 := Aside0.mk (HBA.out.trans (show Below base W2 W3 by rw [hW3]; exact below_drew ((Below.refl base W2).setCell HST.out.b2 _)))
  rw [← hu, ← hW3]
  have HS3 := Aside0.mk (HSA.out.bytes BKZ.out 3 [u] BK3.out (by simp) HK3.out)
  have HR3 := Aside0.mk (HRA.out.trans (Rest.bytes HST.out.n1 HK3.out))
  have HKB3 := Aside0.mk (HHELD.out _ HR3.out)
  obtain ⟨wy, hwy⟩ : ∃ wy, wy = setBytes wz (off + 1 + 3) [u] := ⟨_, rfl⟩
  rw [← hwy] at BK3
  have hy7 : wy[off + 1 + 7]? = ws[off + 1 + 7]? := by rw [hwy, setBytes_other _ _ _ _ (by right; simp), HWZ.out, setBytes_other _ _ _ _ (by right; simp)]
  obtain ⟨b7, hb7⟩ := HI.out 7 (by decide)
  have j1 : W3.cell? ⟨Bg, 1, none⟩ = some (.string S) := (blk_cell HKB3.out 1).trans rfl
  have hwysz : wy.size = ws.size := by rw [hwy, setBytes_size, HWZ.out, setBytes_size]
  obtain ⟨v, hv⟩ : ∃ v, v = IntKind.u32.wrap (S.size : Int) := ⟨_, rfl⟩
  have hvs : v = (S.size : Int) := by rw [hv, IntKind.wrap_u32]; omega
  have hbs : [v / 16777216 % 256, v / 65536 % 256, v / 256 % 256, v % 256] = hib 4 (S.size : Int) := by
    simp only [hib]
    rw [hvs]
    simp only [List.cons.injEq, and_true]
    refine ⟨by omega, by omega, by omega, by omega⟩
  have HPUT := Aside0.mk (fun (c : Nat) => bput32 v (by omega) (by omega) Wg T (off + 1 + 4) c wy W3.drew (blk_drew BK3.out) (by rw [hwysz]; have := HSZ.out; omega) b7 ((blk_cell BK3.out _).trans (hy7.trans hb7)))
  rw [hbs, hv] at HPUT
  have HU := Aside0.mk hu
  have HWY := Aside0.mk hwy
  have HYS := Aside0.mk hwysz
  clear k0 k1 k2 k3 f3 hu hW3 hwy hy7 hb7 hwysz hvs hbs hv
  go_upto_region 12 with fail
  go_region_with (go_at_call 99; (with_reducible refine (HPUT.out _).mono ?_); rintro e w4 ⟨rfl, hw4, hk4, hb4⟩; have BK4 := Aside0.mk hw4; have HK4 := Aside0.mk (show KeepBut W3 w4 Wg none from hk4); have HG4 := Aside0.mk (show Below base W3 w4 from (below_drew (Below.refl base W3)).trans (hb4.mono HST.out.b2)); clear hw4 hk4 hb4)
  all_goals
    have HS4 := Aside0.mk (HS3.out.bytes BK3.out 4 (hib 4 (S.size : Int)) BK4.out (by rw [hib_len]; decide) HK4.out)
    have HB4 := Aside0.mk (HB3.out.trans HG4.out)
    have HR4 := Aside0.mk (HR3.out.trans (Rest.bytes HST.out.n1 HK4.out))
    have HKB4 := Aside0.mk (HHELD.out _ HR4.out)
    have HC4 := Aside0.mk (show (Kd.int .u8).C w4 (some ⟨Wg, off + 1, none⟩) 8 ([128, 0, 0, u] ++ hib 4 (S.size : Int)) by
      refine cells_C (ws := setBytes wy (off + 1 + 4) (hib 4 (S.size : Int))) BK4.out (by simp [hib_len]) (by decide) (fun i hi => ?_)
      rcases Nat.lt_or_ge i 4 with h4 | h4
      · rw [setBytes_other _ _ _ _ (by left; omega), HWY.out]
        rcases Nat.lt_or_ge i 3 with h3 | h3
        · rw [setBytes_other _ _ _ _ (by left; omega), HWZ.out, setBytes_at [128, 0, 0] ws (off + 1) i (by have := HSZ.out; simp; omega) (by simpa using h3)]
          have : i = 0 ∨ i = 1 ∨ i = 2 := by omega
          rcases this with rfl | rfl | rfl <;> rfl
        · obtain rfl : i = 3 := by omega
          have := setBytes_at [u] wz (off + 1 + 3) 0 (by rw [HWZ.out, setBytes_size]; have := HSZ.out; simp; omega) (by simp)
          exact this
      · have := setBytes_at (hib 4 (S.size : Int)) wy (off + 1 + 4) (i - 4) (by rw [HYS.out, hib_len]; have := HSZ.out; omega) (by rw [hib_len]; omega)
        rw [show off + 1 + 4 + (i - 4) = off + 1 + i by omega] at this
        rw [this]
        congr 2
        have : i = 4 ∨ i = 5 ∨ i = 6 ∨ i = 7 := by omega
        rcases this with rfl | rfl | rfl | rfl <;> rfl)
    have c4_1 : w4.cell? ⟨Bg, 1, none⟩ = some (.string S) := (blk_cell HKB4.out 1).trans rfl
    have HWR := Aside0.mk (w_write w4 base Sg Wg T off SZ Pg PT ps pv xs ([128, 0, 0, u] ++ hib 4 (S.size : Int)) (some ⟨Wg, off + 1, none⟩) 8 HS4.out HC4.out (by simp [hib_len]; omega))
    rw [show ([128, 0, 0, u] ++ hib 4 (S.size : Int)).length = 8 by simp [hib_len]] at HWR
    go_wp2_with (first | (go_at_call 96; (with_reducible refine (HWR.out).mono ?_); rintro e w5 ⟨rfl, hs, hb, hr⟩; have HS5 := Aside0.mk hs; have HB5 := Aside0.mk (HB4.out.trans hb); have HR5 := Aside0.mk (HR4.out.trans hr); have HK5 := Aside0.mk (HHELD.out _ HR5.out); have c5_0 : w5.cell? ⟨Bg, 0, none⟩ = some (.int .i8 mt) := (blk_cell HK5.out 0).trans rfl; have c5_1 : w5.cell? ⟨Bg, 1, none⟩ = some (.string S) := (blk_cell HK5.out 1).trans rfl; have c5_2 : w5.cell? ⟨Bg, 2, none⟩ = some (.int .i32 id) := (blk_cell HK5.out 2).trans rfl; clear hs hb hr) | (go_at_call 100; (with_reducible refine (w_string _ base Sg Wg T off SZ Pg PT ps pv _ S HS5.out (by have := hS; (try simp only [List.length_append, List.length_cons, List.length_nil, hib_len, bytesOf_length]); omega)).mono ?_); rintro e w6 ⟨rfl, hs, hb, hr⟩; have HS6 := Aside0.mk hs; have HB6 := Aside0.mk (HB5.out.trans hb); have HR6 := Aside0.mk (HR5.out.trans hr); have HK6 := Aside0.mk (HHELD.out _ HR6.out); have c6_0 : w6.cell? ⟨Bg, 0, none⟩ = some (.int .i8 mt) := (blk_cell HK6.out 0).trans rfl; have c6_1 : w6.cell? ⟨Bg, 1, none⟩ = some (.string S) := (blk_cell HK6.out 1).trans rfl; have c6_2 : w6.cell? ⟨Bg, 2, none⟩ = some (.int .i32 id) := (blk_cell HK6.out 2).trans rfl; clear hs hb hr) | (go_at_call 85; (with_reducible refine (w_int32 _ base Sg Wg T off SZ Pg PT ps pv _ id HS6.out h0 h1 (by have := hS; (try simp only [List.length_append, List.length_cons, List.length_nil, hib_len, bytesOf_length]); omega)).mono ?_); rintro e w7 ⟨rfl, hs, hb, hr⟩; have HS7 := Aside0.mk hs; have HB7 := Aside0.mk (HB6.out.trans hb); have HR7 := Aside0.mk (HR6.out.trans hr); have HK7 := Aside0.mk (HHELD.out _ HR7.out); have c7_0 : w7.cell? ⟨Bg, 0, none⟩ = some (.int .i8 mt) := (blk_cell HK7.out 0).trans rfl; have c7_1 : w7.cell? ⟨Bg, 1, none⟩ = some (.string S) := (blk_cell HK7.out 1).trans rfl; have c7_2 : w7.cell? ⟨Bg, 2, none⟩ = some (.int .i32 id) := (blk_cell HK7.out 2).trans rfl; clear hs hb hr))
    go_ret
    exact ⟨rfl, by have h := HS7.out; (try simp only [List.append_assoc, List.cons_append, List.nil_append] at h ⊢); rw [HU.out] at h; exact h, HB7.out, HR0.out.trans HR7.out⟩
end Go.Proofs.Ytmjilokgpgajjaa.Th

namespace Go.Proofs.Ytmjilokgpgajjaa.Th
open Go.RowKit Go.Proofs.YtmjilokgpgajjaaW.PrintWords Go.Proofs.YtmjilokgpgajjaaW.PrintLast Go.Proofs.YtmjilokgpgajjaaW.PrintMore
set_option linter.unusedVariables false
set_option linter.unusedSimpArgs false

set_option maxHeartbeats 4000000 in
set_option maxRecDepth 100000 in
theorem w_float (w : World) (base Sg Wg T off SZ Pg PT : Nat) (ps : Array Value) (pv : Value) (xs : List Int) (m : Nat) (hst : St w base Sg Wg T off SZ Pg PT ps pv xs) (h1 : m < 18446744073709551616) (hl : xs.length < 10000000000) :
    Calls Try.prog 83 #[.pointer (some ⟨Wg, off, none⟩), .float .f64 m] w fun e w' => e = .returned .nilIface ∧ St w' base Sg Wg T off SZ Pg PT ps pv (xs ++ hib 8 (m : Int)) ∧ Below base w w' ∧ Rest w w' Sg Wg := by
  obtain ⟨ws, h3, h4, h5, h6, h7⟩ := hst.hW
  have hz := hst.hZ
  obtain ⟨b0, hb0⟩ := h7 7 (by decide)
  have hc : w.cell? ⟨Wg, off + 1 + 7, none⟩ = some (.int .u8 b0) := (blk_cell h3 _).trans hb0
  obtain ⟨u, hu⟩ : ∃ u : Int, u = (m : Int) := ⟨_, rfl⟩
  have hur : u = (m : Int) := hu
  have hbs : [u / 72057594037927936 % 256, u / 281474976710656 % 256, u / 1099511627776 % 256, u / 4294967296 % 256, u / 16777216 % 256, u / 65536 % 256, u / 256 % 256, u % 256] = hib 8 (m : Int) := by
    simp only [hib]
    rw [hur]
    simp only [List.cons.injEq, and_true]
    refine ⟨by omega, by omega, by omega, by omega, by omega, by omega, by omega, by omega⟩
  have HPUT := Aside0.mk (fun (c : Nat) => bput64 u (by omega) (by omega) Wg T (off + 1) c ws w.drew (blk_drew h3) (by omega) b0 hc)
  rw [hbs] at HPUT
  have HWS := Aside0.mk (show off + 1 + 8 ≤ ws.size by omega)
  have HST := Aside0.mk hst
  have H3 := Aside0.mk h3
  have HB0 := Aside0.mk (Below.refl w.heap.size w)
  have hlen := hib_len 8 (m : Int)
  generalize hib 8 (m : Int) = bs at *
  have HL := Aside0.mk hlen
  clear hst h3 h4 h5 h6 h7 hb0 hc hur hbs hlen
  rw [hu] at HPUT
  clear hu
  have hx : ∀ W, Sem.run Try.prog (callFunc 26 #[.float .f64 m]) W = .ok (.value (.int .u64 (m : Int))) W := fun W => by
    rw [run_callFunc_extern Try.func26 (by kernel_rfl) (by kernel_rfl) (by kernel_rfl) (e := Extern.MathFloatBits.float64bits) (by kernel_rfl)]
    rfl
  go_enter Try.func83, Try.ntmps83
  go_upto_region 1 with fail
  go_region_with (go_at_call 97; (with_reducible refine (HPUT.out _).mono ?_); rintro e w2 ⟨rfl, hw2, hk2, hb2⟩; have HST2 := Aside0.mk ((HST.out.below (below_drew HB0.out)).bytes (blk_drew H3.out) 0 bs hw2 (by rw [HL.out]; decide) hk2); have HC2 := Aside0.mk (cells_C (n := bs.length) (bs := bs) (o := off + 1) hw2 rfl (by rw [HL.out]; decide) (fun i hi => setBytes_at bs ws (off + 1) i (by rw [HL.out]; exact HWS.out) hi)); have HB2 := Aside0.mk ((HB0.out.mono HST.out.b3).drew.trans (hb2.mono HST.out.b2)); have HR2 := Aside0.mk ((Rest.below (Sg := Sg) (Wg := Wg) (below_drew HB0.out)).trans (Rest.bytes HST.out.n1 hk2)); clear hw2 hk2 hb2)
  all_goals
    have hbl := HL.out
    have HWR := Aside0.mk (w_write w2 base Sg Wg T off SZ Pg PT ps pv xs bs (some ⟨Wg, off + 1, none⟩) 8 HST2.out HC2.out (by omega))
    rw [hbl] at HWR
    clear hbl
    go_wp2_with (go_at_call 96; (with_reducible refine HWR.out.mono ?_); rintro e w3 ⟨rfl, hs3, hb3, hr3⟩; have HR3 := Aside0.mk (HR2.out.trans hr3); have HS3 := Aside0.mk hs3; have HB3 := Aside0.mk (HB2.out.trans hb3); clear hs3 hb3 hr3)
    go_ret
    exact ⟨rfl, HS3.out, HB3.out, HR3.out⟩
end Go.Proofs.Ytmjilokgpgajjaa.Th

namespace Go.Proofs.Ytmjilokgpgajjaa.Th
open Go.RowKit Go.Proofs.YtmjilokgpgajjaaW.PrintWords Go.Proofs.YtmjilokgpgajjaaW.PrintLast Go.Proofs.YtmjilokgpgajjaaW.PrintMore Go.Proofs.Ytmjilokgpgajjaa.PFnTHWrites
set_option linter.unusedVariables false
set_option linter.unusedSimpArgs false
/-- Is a number written with j bytes ahead of its last? -/
def nb : Nat → Int → Prop
  | 0, v => v ≤ 127
  | j + 1, v => 127 < v ∧ nb j (v / 128)
/-- The bytes of a number, j ahead of its last. -/
def vbytes : Nat → Int → List Int
  | 0, v => [v % 256]
  | j + 1, v => Go.bits .or .u8 (v % 256) 128 :: vbytes j (v / 128)
theorem vbytes_len : ∀ (j : Nat) (v : Int), (vbytes j v).length = j + 1
  | 0, _ => rfl
  | j + 1, v => by simp [vbytes, vbytes_len j]
theorem var_bytes : ∀ (j K : Nat) (v : Int) (acc : List Int), nb j v → j < K → acc.length + j < 1000 → spec_WRVar.l0 K v acc = some (acc ++ vbytes j v)
  | 0, K + 1, v, acc, h, _, hl => by
    simp only [nb] at h
    simp only [spec_WRVar.l0]
    rw [if_neg (by omega), if_pos (by omega)]
    rfl
  | j + 1, K + 1, v, acc, h, hk, hl => by
    simp only [nb] at h
    simp only [spec_WRVar.l0]
    rw [if_pos (by omega), if_pos (by omega), var_bytes j K (v / 128) _ h.2 (by omega) (by simp; omega)]
    simp [vbytes]
theorem wrvar (j K : Nat) (v : Int) (h : nb j v) (hk : j < K) (hj : j < 10) : spec_WRVar.f K v = some (vbytes j v) := by
  unfold spec_WRVar.f
  rw [var_bytes j K v [] h hk (by simp; omega)]
  rfl
theorem nb_some (v : Int) (h0 : 0 ≤ v) (h1 : v < 18446744073709551616) : ∃ j, j < 10 ∧ nb j v := by
  rcases Int.lt_or_le v 128 with h | h
  · exact ⟨0, by omega, by simp only [nb]; omega⟩
  rcases Int.lt_or_le v 16384 with h2 | h2
  · exact ⟨1, by omega, by simp only [nb]; omega⟩
  rcases Int.lt_or_le v 2097152 with h3 | h3
  · exact ⟨2, by omega, by simp only [nb]; omega⟩
  rcases Int.lt_or_le v 268435456 with h4 | h4
  · exact ⟨3, by omega, by simp only [nb]; omega⟩
  rcases Int.lt_or_le v 34359738368 with h5 | h5
  · exact ⟨4, by omega, by simp only [nb]; omega⟩
  rcases Int.lt_or_le v 4398046511104 with h6 | h6
  · exact ⟨5, by omega, by simp only [nb]; omega⟩
  rcases Int.lt_or_le v 562949953421312 with h7 | h7
  · exact ⟨6, by omega, by simp only [nb]; omega⟩
  rcases Int.lt_or_le v 72057594037927936 with h8 | h8
  · exact ⟨7, by omega, by simp only [nb]; omega⟩
  rcases Int.lt_or_le v 9223372036854775808 with h9 | h9
  · exact ⟨8, by omega, by simp only [nb]; omega⟩
  · exact ⟨9, by omega, by simp only [nb]; omega⟩
theorem setBytes_snoc : ∀ (bs : List Int) (ws : Array Value) (o : Nat) (b : Int), setBytes ws o (bs ++ [b]) = (setBytes ws o bs).setIfInBounds (o + bs.length) (.int .u8 b)
  | [], ws, o, b => rfl
  | a :: r, ws, o, b => by
    rw [List.cons_append, setBytes, setBytes_snoc r, setBytes, List.length_cons]
    congr 1
    omega
set_option maxHeartbeats 4000000 in
set_option maxRecDepth 100000 in
theorem uvar (v : Int) (h0 : 0 ≤ v) (h1 : v < 18446744073709551616) (j : Nat) (hj : j < 10) (hn : nb j v) (G T o c : Nat) (ws : Array Value) (w : World) (hb : w.heap[G]? = some (.cells ws T (0, 0))) (hsz : o + 10 ≤ ws.size) :
    Calls Try.prog 142 #[.slice (some ⟨G, o, none⟩) 10 c, .int .u64 v] w fun e w' => e = .returned (.int .i64 ((j + 1 : Nat) : Int)) ∧ w'.heap[G]? = some (.cells (setBytes ws o (vbytes j v)) T (0, 0)) ∧ KeepBut w w' G none ∧ Below G w w' := by
  obtain ⟨bs, hbs⟩ : ∃ bs, bs = vbytes j v := ⟨_, rfl⟩
  rw [← hbs]
  have BK0 := Aside0.mk hb
  have HN0 := Aside0.mk hn
  have HBS := Aside0.mk hbs
  have HV := Aside0.mk h1
  have HSZ := Aside0.mk hsz
  clear hb hn hbs hsz
  go_enter Try.func142, Try.ntmps142
  go_upto_region 2 with fail
  go_loopg [1, 5] j (fun kq v1 v5 w' => ∃ (k : Nat) (x : Int) (pre : List Int), v1 = .int .u64 x ∧ v5 = .int .i64 (k : Int) ∧ Aside0 (k + kq = j) ∧ Aside0 (nb kq x) ∧ Aside0 (0 ≤ x ∧ x < 18446744073709551616) ∧ Aside0 (pre.length = k ∧ pre ++ vbytes kq x = bs) ∧ Aside0 (w'.heap[G]? = some (.cells (setBytes ws o pre) T (0, 0))) ∧ Aside0 (KeepBut w w' G none) ∧ Aside0 (Below G w w'))
  case atStart => exact ⟨0, v, [], rfl, rfl, ⟨by omega⟩, HN0, ⟨h0, h1⟩, ⟨⟨rfl, HBS.out.symm⟩⟩, BK0, ⟨KeepBut.refl w G none⟩, ⟨Below.refl G w⟩⟩
  case round =>
    obtain ⟨k, x, pre, rfl, rfl, HK, HN, HX, HP, BK, HKB, HG⟩ := hrel
    have x0 := HX.out.1
    have x1 := HX.out.2
    have hk10 : k < 10 := by have := HK.out; omega
    clear BK0 HN0 h0 h1
    cases gk with
    | zero =>
      have hle := HN.out
      simp only [nb] at hle
      have d : decide (128 ≤ x) = false := by simp; omega
      have HLE := Aside0.mk hle
      clear hle
      go_wp2_with ((with_reducible refine gate_st rfl ?_); refine store_any _ _ _ rfl rfl rfl BK.out rfl (by rw [setBytes_size]; have := HSZ.out; omega) rfl rfl rfl (by kernel_rfl) ?_; intro W1 hb1 hk1 hg1; have n1 := Aside0.mk hb1; have n2 := Aside0.mk (HKB.out.trans hk1 (.inl rfl)); have n3 := Aside0.mk (HG.out.trans hg1); clear BK HKB HG hb1 hk1 hg1; have BK := n1; have HKB := n2; have HG := n3; clear n1 n2 n3)
      go_ret
      refine ⟨congrArg Ending.returned (congrArg (Value.int .i64) (by have := HK.out; omega)), ?_, HKB.out, HG.out⟩
      have hq : (setBytes ws o pre).setIfInBounds (o + k) (.int .u8 (x % 256)) = setBytes ws o bs := by
        rw [← HP.out.2]
        show _ = setBytes ws o (pre ++ [x % 256])
        rw [setBytes_snoc, HP.out.1]
      rw [← hq]
      exact BK.out
    | succ k1 =>
      have hle := HN.out
      simp only [nb] at hle
      have d : decide (128 ≤ x) = true := by simp; omega
      have HLE := Aside0.mk hle
      clear hle
      go_wp2_with ((with_reducible refine gate_st rfl ?_); refine store_any _ _ _ rfl rfl rfl BK.out rfl (by rw [setBytes_size]; have := HSZ.out; omega) rfl rfl rfl (by kernel_rfl) ?_; intro W1 hb1 hk1 hg1; have n1 := Aside0.mk hb1; have n2 := Aside0.mk (HKB.out.trans hk1 (.inl rfl)); have n3 := Aside0.mk (HG.out.trans hg1); clear BK HKB HG hb1 hk1 hg1; have BK := n1; have HKB := n2; have HG := n3; clear n1 n2 n3)
      go_roundg k1
      case measure => omega
      case rel => exact ⟨k + 1, x / 128, pre ++ [Go.bits .or .u8 (x % 256) 128], rfl, rfl, ⟨by have := HK.out; omega⟩, ⟨HLE.out.2⟩, ⟨by omega, by omega⟩, ⟨⟨by rw [List.length_append, HP.out.1]; rfl, by rw [List.append_assoc]; exact HP.out.2⟩⟩, ⟨by rw [setBytes_snoc, HP.out.1]; exact BK.out⟩, HKB, HG⟩
end Go.Proofs.Ytmjilokgpgajjaa.Th

namespace Go.Proofs.Ytmjilokgpgajjaa.Th
open Go.RowKit Go.Proofs.YtmjilokgpgajjaaW.PrintWords Go.Proofs.YtmjilokgpgajjaaW.PrintLast Go.Proofs.YtmjilokgpgajjaaW.PrintMore Go.Proofs.Ytmjilokgpgajjaa.PFnTHWrites
set_option linter.unusedVariables false
set_option linter.unusedSimpArgs false
theorem St.away {w w' : World} {base Sg Wg T off SZ Pg PT : Nat} {ps : Array Value} {pv : Value} {xs : List Int} (h : St w base Sg Wg T off SZ Pg PT ps pv xs) {ws : Array Value} (hw : w.heap[Wg]? = some (.cells ws T (0, 0))) (o : Nat) (bs : List Int) (hb1 : w'.heap[Wg]? = some (.cells (setBytes ws o bs) T (0, 0))) (hl : off + 10 ≤ o) (hk : KeepBut w w' Wg none) : St w' base Sg Wg T off SZ Pg PT ps pv xs := by
  obtain ⟨v, h1, h2⟩ := h.hS
  obtain ⟨ws', h3, h4, h5, h6, h7⟩ := h.hW
  obtain rfl : ws' = ws := by
    have := h3.symm.trans hw
    injection this with this
    injection this
  refine ⟨⟨v, (hk.2 Sg (blk_lt h1) h.n1 (by simp)).trans h1, Kd.R_mono (Kd.R_keep (Kd.R_types h2 h3 (ne5 h.t5)) hk (fun _ hk => hk.2)) (fun _ _ => trivial)⟩, ⟨_, hb1, by rw [setBytes_size, h4], by rw [setBytes_other _ _ _ _ (by omega)]; exact h5, by rw [setBytes_other _ _ _ _ (by omega)]; exact h6, fun i hi => by rw [setBytes_other _ _ _ _ (by omega)]; exact h7 i hi⟩, (hk.2 Pg (blk_lt h.hP) (Ne.symm h.n3) (by simp)).trans h.hP, h.hZ, h.t5, h.p5, h.n1, h.n2, h.n3, h.b1, h.b2, Nat.le_trans h.b3 hk.1⟩
theorem slice_first (T N : Nat) (ht : Try.prog.underlying T = some (.array (Try.prog.arrayLen T) (Try.prog.elem T))) (hN : Try.prog.arrayLen T = N) (hs : (Try.prog.info? (Try.prog.elem T)).map (·.size) = some 1) (a : Addr) (n : Nat) (hn : n ≤ N) (w : World) :
    Sem.run Try.prog (Instr.sliceAt T (.pointer (some a)) none (some (.int .i64 (n : Int))) none) w = .ok (.slice (some a) n N) w := by
  obtain ⟨i, hi, hz⟩ := Option.map_eq_some_iff.1 hs
  rw [run_sliceAt_array_h w T a ht .i64 (n : Int) (by omega) (by rw [hN]; omega)]
  simp [sizeOf, typeInfo, hi, hz, slicedAt, hN]
  intro h
  unfold Addr.add
  split <;> simp_all
set_option maxHeartbeats 4000000 in
set_option maxRecDepth 100000 in
theorem c_uvar (w : World) (base Sg Wg T Pg PT : Nat) (ps : Array Value) (pv : Value) (xs : List Int) (hst : St w base Sg Wg T 1 21 Pg PT ps pv xs) (v : Int) (h0 : 0 ≤ v) (h1 : v < 18446744073709551616) (j : Nat) (hj : j < 10) (hn : nb j v) (hl : xs.length < 10000000000) :
    Calls Try.prog 140 #[.pointer (some ⟨Wg, 0, none⟩), .int .u64 v] w fun e w' => e = .returned .nilIface ∧ St w' base Sg Wg T 1 21 Pg PT ps pv (xs ++ vbytes j v) ∧ Below base w w' ∧ Rest w w' Sg Wg := by
  obtain ⟨ws, h3, h4, h5, h6, h7⟩ := hst.hW
  have HU := Aside0.mk (fun (c : Nat) => uvar v h0 h1 j hj hn Wg T 11 c ws w h3 (by omega))
  have HST := Aside0.mk hst
  have H3 := Aside0.mk h3
  have HSZ := Aside0.mk h4
  obtain ⟨n, hnn⟩ : ∃ n, n = j + 1 := ⟨_, rfl⟩
  have hlen := vbytes_len j v
  rw [← hnn] at HU hlen
  generalize vbytes j v = bs at *
  have HL := Aside0.mk hlen
  have hn10 : n ≤ 10 := by omega
  have hsl := slice_first 170 10 (by kernel_rfl) (by kernel_rfl) (by kernel_rfl) ⟨Wg, 11, none⟩ n hn10
  clear hst h3 h4 h5 h6 h7 hlen hnn hj hn
  go_enter Try.func140, Try.ntmps140
  go_upto_region 2 with (go_at_call 142; (with_reducible refine (HU.out _).mono ?_); rintro e w1 ⟨rfl, hw1, hk1, hb1⟩; have HS1 := Aside0.mk (HST.out.away H3.out 11 bs hw1 (by decide) hk1); have HC1 := Aside0.mk (show (Kd.int .u8).C w1 (some ⟨Wg, 11, none⟩) n bs from cells_C hw1 HL.out (by omega) (fun i hi => setBytes_at bs ws 11 i (by rw [HL.out, HSZ.out]; omega) (by rw [HL.out]; exact hi))); have HB1 := Aside0.mk (hb1.mono HST.out.b2); have HR1 := Aside0.mk (Rest.bytes HST.out.n1 hk1); clear hw1 hk1 hb1)
  have HW := Aside0.mk (w_write w1.drew base Sg Wg T 1 21 Pg PT ps pv xs bs (some ⟨Wg, 11, none⟩) 10 (HS1.out.below (below_drew (Below.refl _ _))) (by rw [HL.out]; exact Kd.C_drew HC1.out) (by rw [HL.out]; omega))
  rw [HL.out] at HW
  have HBD := Aside0.mk (below_drew HB1.out)
  have HRD := Aside0.mk (HR1.out.trans (Rest.below (Sg := Sg) (Wg := Wg) (below_drew (Below.refl w1.heap.size w1))))
  go_region_with (go_at_call 96; (with_reducible refine HW.out.mono ?_); rintro e w3 ⟨rfl, hs3, hb3, hr3⟩; have HS3 := Aside0.mk hs3; have HB3 := Aside0.mk (HBD.out.trans hb3); have HR3 := Aside0.mk (HRD.out.trans hr3); clear hs3 hb3 hr3)
  all_goals
    go_wp2_with fail
    go_ret
    exact ⟨rfl, HS3.out, HB3.out, HR3.out⟩
end Go.Proofs.Ytmjilokgpgajjaa.Th

namespace Go.Proofs.Ytmjilokgpgajjaa.Th
open Go.RowKit Go.Proofs.YtmjilokgpgajjaaW.PrintWords Go.Proofs.YtmjilokgpgajjaaW.PrintLast Go.Proofs.YtmjilokgpgajjaaW.PrintMore Go.Proofs.Ytmjilokgpgajjaa.PFnTHWrites
set_option linter.unusedVariables false
set_option linter.unusedSimpArgs false
/-- A number whose sign is its lowest bit. -/
def zig (v : Int) : Int := if v < 0 then -2 * v - 1 else 2 * v
theorem zig_range (v : Int) (h0 : -9223372036854775808 ≤ v) (h1 : v < 9223372036854775808) : 0 ≤ zig v ∧ zig v < 18446744073709551616 := by
  unfold zig
  split <;> omega
theorem not_u64 (y : Int) (h0 : 0 ≤ y) (h1 : y < 18446744073709551616) : Go.bits .xor .u64 (if IntKind.u64.signed = true then -1 else IntKind.u64.max) y = 18446744073709551615 - y := by
  have e : (if IntKind.u64.signed = true then (-1 : Int) else IntKind.u64.max) = 18446744073709551615 := by decide
  rw [e]
  unfold Go.bits
  rw [IntKind.wrap_u64]
  have e2 : (BitVec.ofInt 64 y).toNat = y.toNat := by rw [BitVec.toNat_ofInt]; omega
  show ((((BitVec.ofInt 64 18446744073709551615) ^^^ (BitVec.ofInt 64 y)).toNat : Nat) : Int) % 18446744073709551616 = _
  rw [show BitVec.ofInt 64 18446744073709551615 = BitVec.allOnes 64 by decide, BitVec.allOnes_xor, BitVec.toNat_not, e2]
  omega
theorem zig_neg (v : Int) (h0 : -9223372036854775808 ≤ v) (h1 : v < 0) : Go.bits .xor .u64 (if IntKind.u64.signed = true then -1 else IntKind.u64.max) (IntKind.u64.wrap (IntKind.u64.wrap v * 2)) = zig v := by
  have e : IntKind.u64.wrap (IntKind.u64.wrap v * 2) = 18446744073709551616 + 2 * v := by simp only [IntKind.wrap_u64]; omega
  rw [e, not_u64 _ (by omega) (by omega)]
  unfold zig
  rw [if_pos h1]
  omega
theorem zig_pos (v : Int) (h0 : 0 ≤ v) (h1 : v < 9223372036854775808) : IntKind.u64.wrap (IntKind.u64.wrap v * 2) = zig v := by
  unfold zig
  rw [if_neg (by omega)]
  simp only [IntKind.wrap_u64]
  omega
set_option maxHeartbeats 4000000 in
set_option maxRecDepth 100000 in
theorem pvar (v : Int) (h0 : -9223372036854775808 ≤ v) (h1 : v < 9223372036854775808) (j : Nat) (hj : j < 10) (hn : nb j (zig v)) (G T o c : Nat) (ws : Array Value) (w : World) (hb : w.heap[G]? = some (.cells ws T (0, 0))) (hsz : o + 10 ≤ ws.size) :
    Calls Try.prog 141 #[.slice (some ⟨G, o, none⟩) 10 c, .int .i64 v] w fun e w' => e = .returned (.int .i64 ((j + 1 : Nat) : Int)) ∧ w'.heap[G]? = some (.cells (setBytes ws o (vbytes j (zig v))) T (0, 0)) ∧ KeepBut w w' G none ∧ Below G w w' := by
  obtain ⟨z0, z1⟩ := zig_range v h0 h1
  have HU := Aside0.mk (uvar (zig v) z0 z1 j hj hn G T o c ws w hb hsz)
  clear hn hb hsz z0 z1
  by_cases hv : v < 0
  · have HU2 := HU
    rw [← zig_neg v h0 hv] at HU2
    rw [← zig_neg v h0 hv]
    have d : decide (v < 0) = true := by simp; omega
    clear HU
    go_enter Try.func141, Try.ntmps141
    go_wp2_with (go_at_call 142; (with_reducible refine HU2.out.mono ?_); rintro e w1 ⟨rfl, h1, h2, h3⟩; have H1 := Aside0.mk h1; have H2 := Aside0.mk h2; have H3 := Aside0.mk h3; clear h1 h2 h3)
    go_ret
    exact ⟨rfl, H1.out, H2.out, H3.out⟩
  · have HU2 := HU
    rw [← zig_pos v (by omega) h1] at HU2
    rw [← zig_pos v (by omega) h1]
    have d : decide (v < 0) = false := by simp; omega
    clear HU h0 h1 hv
    go_enter Try.func141, Try.ntmps141
    go_wp2_with (go_at_call 142; (with_reducible refine HU2.out.mono ?_); rintro e w1 ⟨rfl, h1, h2, h3⟩; have H1 := Aside0.mk h1; have H2 := Aside0.mk h2; have H3 := Aside0.mk h3; clear h1 h2 h3)
    go_ret
    exact ⟨rfl, H1.out, H2.out, H3.out⟩
set_option maxHeartbeats 4000000 in
set_option maxRecDepth 100000 in
theorem c_var (w : World) (base Sg Wg T Pg PT : Nat) (ps : Array Value) (pv : Value) (xs : List Int) (hst : St w base Sg Wg T 1 21 Pg PT ps pv xs) (v : Int) (h0 : -9223372036854775808 ≤ v) (h1 : v < 9223372036854775808) (j : Nat) (hj : j < 10) (hn : nb j (zig v)) (hl : xs.length < 10000000000) :
    Calls Try.prog 139 #[.pointer (some ⟨Wg, 0, none⟩), .int .i64 v] w fun e w' => e = .returned .nilIface ∧ St w' base Sg Wg T 1 21 Pg PT ps pv (xs ++ vbytes j (zig v)) ∧ Below base w w' ∧ Rest w w' Sg Wg := by
  obtain ⟨ws, h3, h4, h5, h6, h7⟩ := hst.hW
  have HU := Aside0.mk (fun (c : Nat) => pvar v h0 h1 j hj hn Wg T 11 c ws w h3 (by omega))
  have HST := Aside0.mk hst
  have H3 := Aside0.mk h3
  have HSZ := Aside0.mk h4
  obtain ⟨n, hnn⟩ : ∃ n, n = j + 1 := ⟨_, rfl⟩
  have hlen := vbytes_len j (zig v)
  rw [← hnn] at HU hlen
  generalize vbytes j (zig v) = bs at *
  have HL := Aside0.mk hlen
  have hn10 : n ≤ 10 := by omega
  have hsl := slice_first 170 10 (by kernel_rfl) (by kernel_rfl) (by kernel_rfl) ⟨Wg, 11, none⟩ n hn10
  clear hst h3 h4 h5 h6 h7 hlen hnn hj hn
  go_enter Try.func139, Try.ntmps139
  go_upto_region 2 with (go_at_call 141; (with_reducible refine (HU.out _).mono ?_); rintro e w1 ⟨rfl, hw1, hk1, hb1⟩; have HS1 := Aside0.mk (HST.out.away H3.out 11 bs hw1 (by decide) hk1); have HC1 := Aside0.mk (show (Kd.int .u8).C w1 (some ⟨Wg, 11, none⟩) n bs from cells_C hw1 HL.out (by omega) (fun i hi => setBytes_at bs ws 11 i (by rw [HL.out, HSZ.out]; omega) (by rw [HL.out]; exact hi))); have HB1 := Aside0.mk (hb1.mono HST.out.b2); have HR1 := Aside0.mk (Rest.bytes HST.out.n1 hk1); clear hw1 hk1 hb1)
  have HW := Aside0.mk (w_write w1.drew base Sg Wg T 1 21 Pg PT ps pv xs bs (some ⟨Wg, 11, none⟩) 10 (HS1.out.below (below_drew (Below.refl _ _))) (by rw [HL.out]; exact Kd.C_drew HC1.out) (by rw [HL.out]; omega))
  rw [HL.out] at HW
  have HBD := Aside0.mk (below_drew HB1.out)
  have HRD := Aside0.mk (HR1.out.trans (Rest.below (Sg := Sg) (Wg := Wg) (below_drew (Below.refl w1.heap.size w1))))
  go_region_with (go_at_call 96; (with_reducible refine HW.out.mono ?_); rintro e w3 ⟨rfl, hs3, hb3, hr3⟩; have HS3 := Aside0.mk hs3; have HB3 := Aside0.mk (HBD.out.trans hb3); have HR3 := Aside0.mk (HRD.out.trans hr3); clear hs3 hb3 hr3)
  all_goals
    go_wp2_with fail
    go_ret
    exact ⟨rfl, HS3.out, HB3.out, HR3.out⟩
end Go.Proofs.Ytmjilokgpgajjaa.Th

namespace Go.Proofs.Ytmjilokgpgajjaa.Th
open Go.RowKit Go.Proofs.YtmjilokgpgajjaaW.PrintWords Go.Proofs.YtmjilokgpgajjaaW.PrintLast Go.Proofs.YtmjilokgpgajjaaW.PrintMore Go.Proofs.Ytmjilokgpgajjaa.PFnTHWrites
set_option linter.unusedVariables false
set_option linter.unusedSimpArgs false

set_option maxHeartbeats 4000000 in
set_option maxRecDepth 100000 in
theorem c_bool_true (w : World) (base Sg Wg T Pg PT : Nat) (ps : Array Value) (pv : Value) (xs : List Int)  (hst : St w base Sg Wg T 1 21 Pg PT ps pv xs)  (hl : xs.length < 1000000000) :
    Calls Try.prog 124 #[.pointer (some ⟨Wg, 0, none⟩), .bool true] w fun e w' => e = .returned .nilIface ∧ St w' base Sg Wg T 1 21 Pg PT ps pv (xs ++ [1]) ∧ Below base w w' ∧ Rest w w' Sg Wg := by
  have HST := Aside0.mk hst
  have HS1 := Aside0.mk hst
  have HB1 := Aside0.mk (Below.refl base w)
  have HR1 := Aside0.mk (Rest.below (Sg := Sg) (Wg := Wg) (Below.refl w.heap.size w))
  clear hst
  go_enter Try.func124, Try.ntmps124
  go_wp2_with (first | (go_at_call 80; (with_reducible refine (w_bool_true _ base Sg Wg T 1 21 Pg PT ps pv _ HS1.out (by (try simp only [List.length_append, List.length_cons, List.length_nil, hib_len, vbytes_len, bytesOf_length]); omega)).mono ?_); rintro e w2 ⟨rfl, hs, hb, hr⟩; have HS2 := Aside0.mk hs; have HB2 := Aside0.mk (HB1.out.trans hb); have HR2 := Aside0.mk (HR1.out.trans hr); clear hs hb hr))
  go_ret
  exact ⟨rfl, by have h := HS2.out; (try simp only [List.append_assoc, List.cons_append, List.nil_append] at h); exact h, HB2.out, HR2.out⟩

set_option maxHeartbeats 4000000 in
set_option maxRecDepth 100000 in
theorem c_bool_false (w : World) (base Sg Wg T Pg PT : Nat) (ps : Array Value) (pv : Value) (xs : List Int)  (hst : St w base Sg Wg T 1 21 Pg PT ps pv xs)  (hl : xs.length < 1000000000) :
    Calls Try.prog 124 #[.pointer (some ⟨Wg, 0, none⟩), .bool false] w fun e w' => e = .returned .nilIface ∧ St w' base Sg Wg T 1 21 Pg PT ps pv (xs ++ [0]) ∧ Below base w w' ∧ Rest w w' Sg Wg := by
  have HST := Aside0.mk hst
  have HS1 := Aside0.mk hst
  have HB1 := Aside0.mk (Below.refl base w)
  have HR1 := Aside0.mk (Rest.below (Sg := Sg) (Wg := Wg) (Below.refl w.heap.size w))
  clear hst
  go_enter Try.func124, Try.ntmps124
  go_wp2_with (first | (go_at_call 80; (with_reducible refine (w_bool_false _ base Sg Wg T 1 21 Pg PT ps pv _ HS1.out (by (try simp only [List.length_append, List.length_cons, List.length_nil, hib_len, vbytes_len, bytesOf_length]); omega)).mono ?_); rintro e w2 ⟨rfl, hs, hb, hr⟩; have HS2 := Aside0.mk hs; have HB2 := Aside0.mk (HB1.out.trans hb); have HR2 := Aside0.mk (HR1.out.trans hr); clear hs hb hr))
  go_ret
  exact ⟨rfl, by have h := HS2.out; (try simp only [List.append_assoc, List.cons_append, List.nil_append] at h); exact h, HB2.out, HR2.out⟩

set_option maxHeartbeats 4000000 in
set_option maxRecDepth 100000 in
theorem c_int8 (w : World) (base Sg Wg T Pg PT : Nat) (ps : Array Value) (pv : Value) (xs : List Int) (v : Int) (hst : St w base Sg Wg T 1 21 Pg PT ps pv xs)  (hl : xs.length < 1000000000) :
    Calls Try.prog 131 #[.pointer (some ⟨Wg, 0, none⟩), .int .i8 v] w fun e w' => e = .returned .nilIface ∧ St w' base Sg Wg T 1 21 Pg PT ps pv (xs ++ [IntKind.u8.wrap v]) ∧ Below base w w' ∧ Rest w w' Sg Wg := by
  have HST := Aside0.mk hst
  have HS1 := Aside0.mk hst
  have HB1 := Aside0.mk (Below.refl base w)
  have HR1 := Aside0.mk (Rest.below (Sg := Sg) (Wg := Wg) (Below.refl w.heap.size w))
  clear hst
  go_enter Try.func131, Try.ntmps131
  go_wp2_with (first | (go_at_call 87; (with_reducible refine (w_int8 _ base Sg Wg T 1 21 Pg PT ps pv _ v HS1.out (by (try simp only [List.length_append, List.length_cons, List.length_nil, hib_len, vbytes_len, bytesOf_length]); omega)).mono ?_); rintro e w2 ⟨rfl, hs, hb, hr⟩; have HS2 := Aside0.mk hs; have HB2 := Aside0.mk (HB1.out.trans hb); have HR2 := Aside0.mk (HR1.out.trans hr); clear hs hb hr))
  go_ret
  exact ⟨rfl, by have h := HS2.out; (try simp only [List.append_assoc, List.cons_append, List.nil_append] at h); exact h, HB2.out, HR2.out⟩

set_option maxHeartbeats 4000000 in
set_option maxRecDepth 100000 in
theorem c_float (w : World) (base Sg Wg T Pg PT : Nat) (ps : Array Value) (pv : Value) (xs : List Int) (m : Nat) (hst : St w base Sg Wg T 1 21 Pg PT ps pv xs) (h1 : m < 18446744073709551616) (hl : xs.length < 1000000000) :
    Calls Try.prog 127 #[.pointer (some ⟨Wg, 0, none⟩), .float .f64 m] w fun e w' => e = .returned .nilIface ∧ St w' base Sg Wg T 1 21 Pg PT ps pv (xs ++ hib 8 (m : Int)) ∧ Below base w w' ∧ Rest w w' Sg Wg := by
  have HST := Aside0.mk hst
  have HS1 := Aside0.mk hst
  have HB1 := Aside0.mk (Below.refl base w)
  have HR1 := Aside0.mk (Rest.below (Sg := Sg) (Wg := Wg) (Below.refl w.heap.size w))
  clear hst
  go_enter Try.func127, Try.ntmps127
  go_wp2_with (first | (go_at_call 83; (with_reducible refine (w_float _ base Sg Wg T 1 21 Pg PT ps pv _ m HS1.out h1 (by (try simp only [List.length_append, List.length_cons, List.length_nil, hib_len, vbytes_len, bytesOf_length]); omega)).mono ?_); rintro e w2 ⟨rfl, hs, hb, hr⟩; have HS2 := Aside0.mk hs; have HB2 := Aside0.mk (HB1.out.trans hb); have HR2 := Aside0.mk (HR1.out.trans hr); clear hs hb hr))
  go_ret
  exact ⟨rfl, by have h := HS2.out; (try simp only [List.append_assoc, List.cons_append, List.nil_append] at h); exact h, HB2.out, HR2.out⟩

set_option maxHeartbeats 4000000 in
set_option maxRecDepth 100000 in
theorem c_int16 (w : World) (base Sg Wg T Pg PT : Nat) (ps : Array Value) (pv : Value) (xs : List Int) (v : Int) (hst : St w base Sg Wg T 1 21 Pg PT ps pv xs) (h0 : -32768 ≤ v) (h1 : v < 32768) (j : Nat) (hj : j < 10) (hn : nb j (zig v)) (hl : xs.length < 1000000000) :
    Calls Try.prog 128 #[.pointer (some ⟨Wg, 0, none⟩), .int .i16 v] w fun e w' => e = .returned .nilIface ∧ St w' base Sg Wg T 1 21 Pg PT ps pv (xs ++ vbytes j (zig v)) ∧ Below base w w' ∧ Rest w w' Sg Wg := by
  have HST := Aside0.mk hst
  have HS1 := Aside0.mk hst
  have HB1 := Aside0.mk (Below.refl base w)
  have HR1 := Aside0.mk (Rest.below (Sg := Sg) (Wg := Wg) (Below.refl w.heap.size w))
  have HN := Aside0.mk hn
  clear hn
  clear hst
  go_enter Try.func128, Try.ntmps128
  go_wp2_with (first | (go_at_call 139; (with_reducible refine (c_var _ base Sg Wg T Pg PT ps pv _ HS1.out v (by omega) (by omega) j hj HN.out (by (try simp only [List.length_append, List.length_cons, List.length_nil, hib_len, vbytes_len, bytesOf_length]); omega)).mono ?_); rintro e w2 ⟨rfl, hs, hb, hr⟩; have HS2 := Aside0.mk hs; have HB2 := Aside0.mk (HB1.out.trans hb); have HR2 := Aside0.mk (HR1.out.trans hr); clear hs hb hr))
  go_ret
  exact ⟨rfl, by have h := HS2.out; (try simp only [List.append_assoc, List.cons_append, List.nil_append] at h); exact h, HB2.out, HR2.out⟩

set_option maxHeartbeats 4000000 in
set_option maxRecDepth 100000 in
theorem c_int32 (w : World) (base Sg Wg T Pg PT : Nat) (ps : Array Value) (pv : Value) (xs : List Int) (v : Int) (hst : St w base Sg Wg T 1 21 Pg PT ps pv xs) (h0 : -2147483648 ≤ v) (h1 : v < 2147483648) (j : Nat) (hj : j < 10) (hn : nb j (zig v)) (hl : xs.length < 1000000000) :
    Calls Try.prog 129 #[.pointer (some ⟨Wg, 0, none⟩), .int .i32 v] w fun e w' => e = .returned .nilIface ∧ St w' base Sg Wg T 1 21 Pg PT ps pv (xs ++ vbytes j (zig v)) ∧ Below base w w' ∧ Rest w w' Sg Wg := by
  have HST := Aside0.mk hst
  have HS1 := Aside0.mk hst
  have HB1 := Aside0.mk (Below.refl base w)
  have HR1 := Aside0.mk (Rest.below (Sg := Sg) (Wg := Wg) (Below.refl w.heap.size w))
  have HN := Aside0.mk hn
  clear hn
  clear hst
  go_enter Try.func129, Try.ntmps129
  go_wp2_with (first | (go_at_call 139; (with_reducible refine (c_var _ base Sg Wg T Pg PT ps pv _ HS1.out v (by omega) (by omega) j hj HN.out (by (try simp only [List.length_append, List.length_cons, List.length_nil, hib_len, vbytes_len, bytesOf_length]); omega)).mono ?_); rintro e w2 ⟨rfl, hs, hb, hr⟩; have HS2 := Aside0.mk hs; have HB2 := Aside0.mk (HB1.out.trans hb); have HR2 := Aside0.mk (HR1.out.trans hr); clear hs hb hr))
  go_ret
  exact ⟨rfl, by have h := HS2.out; (try simp only [List.append_assoc, List.cons_append, List.nil_append] at h); exact h, HB2.out, HR2.out⟩

set_option maxHeartbeats 4000000 in
set_option maxRecDepth 100000 in
theorem c_int64 (w : World) (base Sg Wg T Pg PT : Nat) (ps : Array Value) (pv : Value) (xs : List Int) (v : Int) (hst : St w base Sg Wg T 1 21 Pg PT ps pv xs) (h0 : -9223372036854775808 ≤ v) (h1 : v < 9223372036854775808) (j : Nat) (hj : j < 10) (hn : nb j (zig v)) (hl : xs.length < 1000000000) :
    Calls Try.prog 130 #[.pointer (some ⟨Wg, 0, none⟩), .int .i64 v] w fun e w' => e = .returned .nilIface ∧ St w' base Sg Wg T 1 21 Pg PT ps pv (xs ++ vbytes j (zig v)) ∧ Below base w w' ∧ Rest w w' Sg Wg := by
  have HST := Aside0.mk hst
  have HS1 := Aside0.mk hst
  have HB1 := Aside0.mk (Below.refl base w)
  have HR1 := Aside0.mk (Rest.below (Sg := Sg) (Wg := Wg) (Below.refl w.heap.size w))
  have HN := Aside0.mk hn
  clear hn
  clear hst
  go_enter Try.func130, Try.ntmps130
  go_wp2_with (first | (go_at_call 139; (with_reducible refine (c_var _ base Sg Wg T Pg PT ps pv _ HS1.out v (by omega) (by omega) j hj HN.out (by (try simp only [List.length_append, List.length_cons, List.length_nil, hib_len, vbytes_len, bytesOf_length]); omega)).mono ?_); rintro e w2 ⟨rfl, hs, hb, hr⟩; have HS2 := Aside0.mk hs; have HB2 := Aside0.mk (HB1.out.trans hb); have HR2 := Aside0.mk (HR1.out.trans hr); clear hs hb hr))
  go_ret
  exact ⟨rfl, by have h := HS2.out; (try simp only [List.append_assoc, List.cons_append, List.nil_append] at h); exact h, HB2.out, HR2.out⟩

set_option maxHeartbeats 4000000 in
set_option maxRecDepth 100000 in
theorem c_len (w : World) (base Sg Wg T Pg PT : Nat) (ps : Array Value) (pv : Value) (xs : List Int) (n : Int) (hst : St w base Sg Wg T 1 21 Pg PT ps pv xs) (h0 : 0 ≤ n) (h1 : n < 2147483648) (j : Nat) (hj : j < 10) (hn : nb j n) (hl : xs.length < 1000000000) :
    Calls Try.prog 132 #[.pointer (some ⟨Wg, 0, none⟩), .int .i64 n] w fun e w' => e = .returned .nilIface ∧ St w' base Sg Wg T 1 21 Pg PT ps pv (xs ++ vbytes j n) ∧ Below base w w' ∧ Rest w w' Sg Wg := by
  have HST := Aside0.mk hst
  have HS1 := Aside0.mk hst
  have HB1 := Aside0.mk (Below.refl base w)
  have HR1 := Aside0.mk (Rest.below (Sg := Sg) (Wg := Wg) (Below.refl w.heap.size w))
  have d0 : decide (n < 0) = false := by simp; omega
  have d1 : decide (2147483647 < n) = false := by simp; omega
  have HN := Aside0.mk hn
  clear hn
  clear hst
  go_enter Try.func132, Try.ntmps132
  go_wp2_with (first | (go_at_call 140; (with_reducible refine (c_uvar _ base Sg Wg T Pg PT ps pv _ HS1.out n (by omega) (by omega) j hj HN.out (by (try simp only [List.length_append, List.length_cons, List.length_nil, hib_len, vbytes_len, bytesOf_length]); omega)).mono ?_); rintro e w2 ⟨rfl, hs, hb, hr⟩; have HS2 := Aside0.mk hs; have HB2 := Aside0.mk (HB1.out.trans hb); have HR2 := Aside0.mk (HR1.out.trans hr); clear hs hb hr))
  go_ret
  exact ⟨rfl, by have h := HS2.out; (try simp only [List.append_assoc, List.cons_append, List.nil_append] at h); exact h, HB2.out, HR2.out⟩

set_option maxHeartbeats 4000000 in
set_option maxRecDepth 100000 in
theorem c_text (w : World) (base Sg Wg T Pg PT : Nat) (ps : Array Value) (pv : Value) (xs : List Int) (S : ByteArray) (hst : St w base Sg Wg T 1 21 Pg PT ps pv xs) (hS : S.size < 2147483648) (j : Nat) (hj : j < 10) (hn : nb j (S.size : Int)) (hl : xs.length < 1000000000) :
    Calls Try.prog 137 #[.pointer (some ⟨Wg, 0, none⟩), .string S] w fun e w' => e = .returned .nilIface ∧ St w' base Sg Wg T 1 21 Pg PT ps pv (xs ++ (vbytes j S.size ++ bytesOf S)) ∧ Below base w w' ∧ Rest w w' Sg Wg := by
  have HST := Aside0.mk hst
  have HS1 := Aside0.mk hst
  have HB1 := Aside0.mk (Below.refl base w)
  have HR1 := Aside0.mk (Rest.below (Sg := Sg) (Wg := Wg) (Below.refl w.heap.size w))
  have HN := Aside0.mk hn
  clear hn
  clear hst
  go_enter Try.func137, Try.ntmps137
  go_wp2_with (first | (go_at_call 132; (with_reducible refine (c_len _ base Sg Wg T Pg PT ps pv _ (S.size : Int) HS1.out (by omega) (by omega) j hj HN.out (by (try simp only [List.length_append, List.length_cons, List.length_nil, hib_len, vbytes_len, bytesOf_length]); omega)).mono ?_); rintro e w2 ⟨rfl, hs, hb, hr⟩; have HS2 := Aside0.mk hs; have HB2 := Aside0.mk (HB1.out.trans hb); have HR2 := Aside0.mk (HR1.out.trans hr); clear hs hb hr) | (go_at_call 100; (with_reducible refine (w_string _ base Sg Wg T 1 21 Pg PT ps pv _ S HS2.out (by (try simp only [List.length_append, List.length_cons, List.length_nil, hib_len, vbytes_len, bytesOf_length]); omega)).mono ?_); rintro e w3 ⟨rfl, hs, hb, hr⟩; have HS3 := Aside0.mk hs; have HB3 := Aside0.mk (HB2.out.trans hb); have HR3 := Aside0.mk (HR2.out.trans hr); clear hs hb hr))
  go_ret
  exact ⟨rfl, by have h := HS3.out; (try simp only [List.append_assoc, List.cons_append, List.nil_append] at h); exact h, HB3.out, HR3.out⟩

set_option maxHeartbeats 4000000 in
set_option maxRecDepth 100000 in
theorem c_blob (w : World) (base Sg Wg T Pg PT : Nat) (ps : Array Value) (pv : Value) (xs : List Int) (ys : List Int) (A : Option Addr) (c : Nat) (hst : St w base Sg Wg T 1 21 Pg PT ps pv xs) (hS : ys.length < 2147483648) (j : Nat) (hj : j < 10) (hn : nb j (ys.length : Int)) (hy : Kd.F (Kd.int .u8) w (fun k => k ≠ Sg ∧ k ≠ Wg ∧ ∀ v, w.heap[Sg]? = some (.cells #[v] 53 (0, 0)) → some k ≠ v.ownBlock) A ys.length ys) (hl : xs.length < 1000000000) :
    Calls Try.prog 125 #[.pointer (some ⟨Wg, 0, none⟩), .slice A ys.length c] w fun e w' => e = .returned .nilIface ∧ St w' base Sg Wg T 1 21 Pg PT ps pv (xs ++ (vbytes j ys.length ++ ys)) ∧ Below base w w' ∧ Rest w w' Sg Wg := by
  have HST := Aside0.mk hst
  have HS1 := Aside0.mk hst
  have HB1 := Aside0.mk (Below.refl base w)
  have HR1 := Aside0.mk (Rest.below (Sg := Sg) (Wg := Wg) (Below.refl w.heap.size w))
  have HN := Aside0.mk hn
  have HY := Aside0.mk hy
  clear hy hn
  clear hst
  go_enter Try.func125, Try.ntmps125
  go_wp2_with (first | (go_at_call 132; (with_reducible refine (c_len _ base Sg Wg T Pg PT ps pv _ (ys.length : Int) HS1.out (by omega) (by omega) j hj HN.out (by (try simp only [List.length_append, List.length_cons, List.length_nil, hib_len, vbytes_len, bytesOf_length]); omega)).mono ?_); rintro e w2 ⟨rfl, hs, hb, hr⟩; have HS2 := Aside0.mk hs; have HB2 := Aside0.mk (HB1.out.trans hb); have HR2 := Aside0.mk (HR1.out.trans hr); have HY2 := Aside0.mk (HST.out.kept HY.out HR2.out); clear hs hb hr) | (go_at_call 96; (with_reducible refine (w_write _ base Sg Wg T 1 21 Pg PT ps pv _ ys A c HS2.out HY2.out (by (try simp only [List.length_append, List.length_cons, List.length_nil, hib_len, vbytes_len, bytesOf_length]); omega)).mono ?_); rintro e w3 ⟨rfl, hs, hb, hr⟩; have HS3 := Aside0.mk hs; have HB3 := Aside0.mk (HB2.out.trans hb); have HR3 := Aside0.mk (HR2.out.trans hr); clear hs hb hr))
  go_ret
  exact ⟨rfl, by have h := HS3.out; (try simp only [List.append_assoc, List.cons_append, List.nil_append] at h); exact h, HB3.out, HR3.out⟩
end Go.Proofs.Ytmjilokgpgajjaa.Th
