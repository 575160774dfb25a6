/- Merged by merge.py (wip/tpl) out of ThSink, ThArr, ThCl, ThWrite, ThBin, ThBin2, ThMsg, ThFloat, ThUvar, ThComp, ThZig, ThComp2: The writing of bytes into a sink behind a writer's interface: what is written stands behind what was written; for all bytes. Bytes that are written into an array within a block, and read again; and the writing of numbers there, the highest byte first. Calls, as data; a whole struct is stored; what is said of a call's making, its bytes, and its writing. What a writer over a sink does with bytes, one byte, a text: they stand behind what was written. What a binary writer's calls write. What a binary writer's further calls write. What a binary writer's call for a message writes. What a binary writer's call for a number with parts of 1 writes. The writing of a number in parts of seven bits. What a compact writer's numbers write. What a compact writer's whole numbers write. What a compact writer's calls write. -/
import Derived.Test.YtmjilokgpgajjaaGreatChecked
import Derived.Test.YtmjilokgpgajjaaGreatSWMore
import Derived.Test.YtmjilokgpgajjaaGreatSWShare
import Derived.Test.YtmjilokgpgajjaaGreatSWKept
import Derived.Handy
import Derived.BigQuiet
import Derived.Deep.RegionWith
import Derived.Laws.Entries
import Derived.Stop.Asserts
import Derived.Laws.Externs
import Derived.Test.YtmjilokgpgajjaaGreatSPFnTHScriptsx1
import Derived.Test.YtmjilokgpgajjaaGreatSPFnTHScriptsx2
namespace Go.Proofs.YtmjilokgpgajjaaGreat.Th
open Go.RowKit Go.Proofs.YtmjilokgpgajjaaGreatW.PrintWords Go.Proofs.YtmjilokgpgajjaaGreatW.PrintLast Go.Proofs.YtmjilokgpgajjaaGreatW.PrintMore
set_option linter.unusedVariables false
set_option linter.unusedSimpArgs false
theorem info5 : (Tryz.prog.info? 5).map (fun i => (i.zero, i.size, i.bytes)) = some (some (.int .u8 0), 1, 1) := by kernel_rfl
theorem gate_st {P : Program} {ops : Array Oper} {rest : List Oper} {o : Oper} {a : Act} {Q : Exit → Act → World → Prop} {W : World} {t : TypeId} {p v : Operand} (_ho : o.op = .store t p v) (h : wpList P ops Q (o :: rest) a W) : wpList P ops Q (o :: rest) a W := h
/-- One cell of a block is stored. -/
theorem store_any {P : Program} {ops : Array Oper} {rest : List Oper} {o : Oper} {a : Act} {Q : Exit → Act → World → Prop} {W : World} (t : TypeId) (p v : Operand) (ho : o.op = .store t p v) (hN : o.dst = none) (hgd : o.guard = none)
    {G T i : Nat} {cs : Array Value} {u : Value} (hb : W.heap[G]? = some (.cells cs T (0, 0))) (hp : a.eval p = .pointer (some ⟨G, i, none⟩)) (hi : i < cs.size) (hu : a.eval v = u) (h1 : u.cells.toList = [u]) (h2 : u.oneCell' = true) (ht : (P.info? t).map (·.size) = some 1)
    (h : ∀ W1, W1.heap[G]? = some (.cells (cs.setIfInBounds i u) T (0, 0)) → KeepBut W W1 G none → Below G W W1 → wpList P ops Q rest a W1) :
    wpList P ops Q (o :: rest) a W := by
  refine wpList_plain hgd fun K hK => ?_
  unfold Oper.wp execOp
  have hrun := run_store_run (P := P) (w := W) t u [u] hb h1 ht (o := i) (by simp; omega) (by simpa using h2)
  simp only [ho, Sem.run_bind, Sem.run_pure, Result.andThen_ok, hp, hu, hrun]
  refine hK _ _ ?_
  rw [hN]
  exact h (W.setCell ⟨G, i, none⟩ u) (blk_set hb i _) ((KeepBut.refl W G none).set_ i _) ((Below.refl G W).setCell (Nat.le_refl _) _)
theorem own_kept {W : World} {v v1 : Value} (hat : v1.ownBlock = v.ownBlock ∨ ∃ b, v1.ownBlock = some b ∧ W.heap.size ≤ b) : ∀ g, g < W.heap.size → some g ≠ v.ownBlock → some g ≠ v1.ownBlock := by
  intro g h1 h2 h3
  rcases hat with e | ⟨b, e, hle⟩
  · exact h2 (h3.trans e)
  · rw [e] at h3
    injection h3 with h3
    omega
/-- Nothing has turned but the sink's cell and its row. -/
def Keep2 (w w' : World) (S : Nat) (v : Value) : Prop := w.heap.size ≤ w'.heap.size ∧ ∀ k, k < w.heap.size → k ≠ S → some k ≠ v.ownBlock → w'.heap[k]? = w.heap[k]?
set_option maxHeartbeats 4000000 in
set_option maxRecDepth 100000 in
theorem sink_write (w : World) (Sg base : Nat) (v : Value) (xs ys : List Int) (A : Option Addr) (c : Nat) (hs : w.heap[Sg]? = some (.cells #[v] 44 (0, 0))) (hr : (Kd.int .u8).R 5 w base (fun _ => True) v xs) (hy : (Kd.int .u8).C w A ys.length ys) (hbS : base ≤ Sg) (hb : base ≤ w.heap.size) (hl : xs.length + ys.length < 100000000000) :
    Calls Tryz.prog 147 #[.pointer (some ⟨Sg, 0, none⟩), .slice A ys.length c] w fun e w' => e = .returned (.tuple #[.int .i64 (ys.length : Int), .nilIface]) ∧ Keep2 w w' Sg v ∧ Below base w w' ∧ ∃ v', w'.heap[Sg]? = some (.cells #[v'] 44 (0, 0)) ∧ (Kd.int .u8).R 5 w' base (fun _ => True) v' (xs ++ ys) ∧ ∀ g, g < w.heap.size → some g ≠ v.ownBlock → some g ≠ v'.ownBlock := by
  have hc0 : w.cell? ⟨Sg, 0, none⟩ = some v := (blk_cell hs 0).trans rfl
  have hne := Kd.R_ne hr hs (by decide)
  have HS := Aside0.mk hs
  have HR := Aside0.mk hr
  have HY := Aside0.mk hy
  have HNE := Aside0.mk hne
  clear hs hr hy hne
  go_enter Tryz.func147, Tryz.ntmps147
  go_wp2_with (first | ((with_reducible refine gate_builtin (b := .append) (xs := #[.tmp 10, .tmp 11]) rfl ?_); at_builtin; refine Kd.R_append_rows (Kd.int .u8) (w0 := w) base rfl (.tmp 10) (.tmp 11) 28 5 (.int .u8 0) 1 rfl Tryz.underlying28 info5 rfl (by decide) (by decide) v xs ys A ys.length c (fun _ => True) (fun _ => False) rfl rfl HR.out HY.out (fun _ _ h => h) (fun _ h => h.elim) (fun _ _ => trivial) (Below.refl _ _) hb (by omega) ?_; intro v1 w1 ho hb1 hg hat; obtain ⟨A1, c1, rfl, hc1, hC1⟩ := Kd.R_reads ho; rw [List.length_append] at ho; have HO := Aside0.mk ho; have HB := Aside0.mk hb1; have HG := Aside0.mk hg; have HS1 := Aside0.mk (blk_grown HS.out hg HNE.out); rw [List.length_append] at hat; have HAT := Aside0.mk (own_kept hat); clear ho hb1 hg hat hC1) | ((with_reducible refine gate_st rfl ?_); refine store_any _ _ _ rfl rfl rfl HS1.out rfl (by simp) rfl rfl rfl (by kernel_rfl) ?_; intro W2 hb2 hk2 hg2; have HS2 := Aside0.mk hb2; have HK2 := Aside0.mk hk2; have HG2 := Aside0.mk hg2; clear hb2 hk2 hg2))
  go_returns
  refine ⟨rfl, ⟨Nat.le_trans HG.out.size HK2.out.1, fun k h1 h2 h3 => ?_⟩, HB.out.trans (HG2.out.mono hbS), ⟨.slice A1 (xs.length + ys.length) c1, HS2.out, ?_, ?_⟩⟩
  · rw [HK2.out.2 k (Nat.lt_of_lt_of_le h1 HG.out.size) h2 (by simp)]
    exact HG.out.block k h1 h3
  · exact Kd.R_mono (Kd.R_keep (Kd.R_types HO.out HS1.out (by decide)) HK2.out (fun _ hk => hk.2)) (fun _ _ => trivial)
  · exact HAT.out
set_option maxHeartbeats 4000000 in
set_option maxRecDepth 100000 in
theorem sink_byte (w : World) (Sg base : Nat) (v : Value) (xs : List Int) (b : Int) (hs : w.heap[Sg]? = some (.cells #[v] 44 (0, 0))) (hr : (Kd.int .u8).R 5 w base (fun _ => True) v xs) (hbS : base ≤ Sg) (hb : base ≤ w.heap.size) (hl : xs.length < 100000000000) :
    Calls Tryz.prog 43 #[.pointer (some ⟨Sg, 0, none⟩), .int .u8 b] w fun e w' => e = .returned .nilIface ∧ Keep2 w w' Sg v ∧ Below base w w' ∧ ∃ v', w'.heap[Sg]? = some (.cells #[v'] 44 (0, 0)) ∧ (Kd.int .u8).R 5 w' base (fun _ => True) v' (xs ++ [b]) ∧ ∀ g, g < w.heap.size → some g ≠ v.ownBlock → some g ≠ v'.ownBlock := by
  have hc0 : w.cell? ⟨Sg, 0, none⟩ = some v := (blk_cell hs 0).trans rfl
  have hne := Kd.R_ne hr hs (by decide)
  have HS := Aside0.mk hs
  have HR := Aside0.mk hr
  have HNE := Aside0.mk hne
  clear hs hr hne
  go_enter Tryz.func43, Tryz.ntmps43
  go_wp2_with (first | ((with_reducible refine gate_builtin (b := .append) (xs := #[.tmp 9, .tmp 11]) rfl ?_); at_builtin; refine Kd.R_append (Kd.int .u8) (w0 := w) base rfl (.tmp 9) (.tmp 11) 28 5 (.int .u8 0) 1 rfl Tryz.underlying28 info5 rfl (by decide) (by decide) v xs b [.int .u8 b] (fun _ => True) (fun _ => False) rfl rfl rfl (fun _ hk => hk.elim) (fun _ _ => trivial) HR.out (Below.refl _ _) hb (by omega) ?_; intro v1 w1 ho hb1 hg hat; obtain ⟨A1, c1, rfl, hc1, hC1⟩ := Kd.R_reads ho; rw [List.length_append] at ho; have HO := Aside0.mk ho; have HB := Aside0.mk hb1; have HG := Aside0.mk hg; have HS1 := Aside0.mk (blk_grown HS.out hg HNE.out); rw [List.length_append] at hat; have HAT := Aside0.mk (own_kept hat); clear ho hb1 hg hat hC1) | ((with_reducible refine gate_st rfl ?_); refine store_any _ _ _ rfl rfl rfl HS1.out rfl (by simp) rfl rfl rfl (by kernel_rfl) ?_; intro W2 hb2 hk2 hg2; have HS2 := Aside0.mk hb2; have HK2 := Aside0.mk hk2; have HG2 := Aside0.mk hg2; clear hb2 hk2 hg2))
  go_returns
  refine ⟨rfl, ⟨Nat.le_trans HG.out.size HK2.out.1, fun k h1 h2 h3 => ?_⟩, HB.out.trans (HG2.out.mono hbS), ⟨.slice A1 (xs.length + 1) c1, HS2.out, ?_, ?_⟩⟩
  · rw [HK2.out.2 k (Nat.lt_of_lt_of_le h1 HG.out.size) h2 (by simp)]
    exact HG.out.block k h1 h3
  · exact Kd.R_mono (Kd.R_keep (Kd.R_types HO.out HS1.out (by decide)) HK2.out (fun _ hk => hk.2)) (fun _ _ => trivial)
  · exact HAT.out
end Go.Proofs.YtmjilokgpgajjaaGreat.Th

namespace Go.Proofs.YtmjilokgpgajjaaGreat.Th
open Go.RowKit Go.Proofs.YtmjilokgpgajjaaGreatW.PrintWords Go.Proofs.YtmjilokgpgajjaaGreatW.PrintLast Go.Proofs.YtmjilokgpgajjaaGreatW.PrintMore
set_option linter.unusedVariables false
set_option linter.unusedSimpArgs false
/-- The cells with the given bytes from place o on. -/
def setBytes (ws : Array Value) (o : Nat) : List Int → Array Value
  | [] => ws
  | b :: r => setBytes (ws.setIfInBounds o (.int .u8 b)) (o + 1) r
theorem setBytes_size : ∀ (bs : List Int) (ws : Array Value) (o : Nat), (setBytes ws o bs).size = ws.size
  | [], ws, o => rfl
  | b :: r, ws, o => by rw [setBytes, setBytes_size r]; simp
theorem setBytes_other : ∀ (bs : List Int) (ws : Array Value) (o j : Nat), (j < o ∨ o + bs.length ≤ j) → (setBytes ws o bs)[j]? = ws[j]?
  | [], ws, o, j, _ => rfl
  | b :: r, ws, o, j, h => by
    rw [setBytes, setBytes_other r _ (o + 1) j (by simp at h; omega)]
    rw [Array.getElem?_setIfInBounds_ne (by simp at h; omega)]
theorem setBytes_at : ∀ (bs : List Int) (ws : Array Value) (o i : Nat), o + bs.length ≤ ws.size → i < bs.length → (setBytes ws o bs)[o + i]? = some (.int .u8 (bs.getD i 0))
  | b :: r, ws, o, 0, h, _ => by
    rw [setBytes, setBytes_other r _ (o + 1) (o + 0) (by omega)]
    simp at h
    rw [Nat.add_zero, Array.getElem?_setIfInBounds_self_of_lt (by omega)]
    simp
  | b :: r, ws, o, i + 1, h, hi => by
    have := setBytes_at r (ws.setIfInBounds o (.int .u8 b)) (o + 1) i (by simp at h ⊢; omega) (by simpa using hi)
    rw [setBytes, show o + (i + 1) = o + 1 + i by omega, this]
    simp
theorem cells_C {W : World} {G T o n : Nat} {ws : Array Value} {bs : List Int} (hb : W.heap[G]? = some (.cells ws T (0, 0))) (hl : bs.length = n) (hn : n < 1000) (h : ∀ i, i < n → ws[o + i]? = some (.int .u8 (bs.getD i 0))) : (Kd.int .u8).C W (some ⟨G, o, none⟩) n bs := by
  refine Kd.C_of_reads (d := 0) ⟨hl, by omega, fun _ => ⟨_, rfl, fun j hj => ?_⟩⟩
  have := h j hj
  unfold World.cell?
  rw [show ((⟨G, o, none⟩ : Addr).add j).block = G from by unfold Addr.add; split <;> simp_all, hb]
  rw [show (⟨G, o, none⟩ : Addr).add j = ⟨G, o + j, none⟩ from by unfold Addr.add; split <;> simp_all]
  simpa using this

set_option maxHeartbeats 4000000 in
set_option maxRecDepth 100000 in
theorem bput16 (v : Int) (h0 : 0 ≤ v) (h1 : v < 65536) (G T o c : Nat) (ws : Array Value) (w : World) (hb : w.heap[G]? = some (.cells ws T (0, 0))) (hsz : o + 2 ≤ ws.size) (b0 : Int) (hc : w.cell? ⟨G, o + 1, none⟩ = some (.int .u8 b0)) :
    Calls Tryz.prog 98 #[.agg #[], .slice (some ⟨G, o, none⟩) 2 c, .int .u16 v] w fun e w' => e = .returned (.tuple #[]) ∧ w'.heap[G]? = some (.cells (setBytes ws o [v / 256 % 256, v % 256]) T (0, 0)) ∧ KeepBut w w' G none ∧ Below G w w' := by
  have hlt := blk_lt hb
  have BK := Aside0.mk hb
  have HC := Aside0.mk hc
  have HK := Aside0.mk (KeepBut.refl w G none)
  have HG := Aside0.mk (Below.refl G w)
  have hm : v / 256 % 256 = v / 256 := by omega
  have HM := Aside0.mk hm
  clear hb hc hm
  go_enter Tryz.func98, Tryz.ntmps98
  go_wp2_with (first | ((with_reducible refine gate_dst (N := 3) rfl ?_); refine box_event ?xhg (N := 3) ?xhd (cs := #[]) (t := 179) ?xhr ?_; (case xhd => rfl); (case xhg => rfl); (case xhr => first | (go_simp; done) | (go_simp; rfl)); intro G2 hG2 W1 hb1 hg1; have n1 := Aside0.mk (blk_below BK.out hg1); have n2 := Aside0.mk (HK.out.trans (KeepBut.of_below hg1 G none) (.inl rfl)); have n3 := Aside0.mk (HG.out.trans (hg1.mono (Nat.le_of_lt hlt))); have hcc := pw_cell_below hg1 HC.out; clear BK HG HK hb1 hg1 hG2; have BK := n1; have HK := n2; have HG := n3; clear n1 n2 n3) | ((with_reducible refine gate_st rfl ?_); refine store_any _ _ _ rfl rfl rfl BK.out rfl (by (try simp only [Array.size_setIfInBounds]); omega) rfl rfl rfl (by kernel_rfl) ?_; intro W1 hb1 hk1 hg1; have n1 := Aside0.mk hb1; have n2 := Aside0.mk (HK.out.trans hk1 (.inl rfl)); have n3 := Aside0.mk (HG.out.trans hg1); clear BK HK HG hb1 hk1 hg1; have BK := n1; have HK := n2; have HG := n3; clear n1 n2 n3))
  go_returns
  refine ⟨rfl, ?_, HK.out, HG.out⟩
  have hm := HM.out
  simp only [setBytes, Nat.add_assoc, Nat.reduceAdd, hm]
  exact BK.out

end Go.Proofs.YtmjilokgpgajjaaGreat.Th

namespace Go.Proofs.YtmjilokgpgajjaaGreat.Th
open Go.RowKit Go.Proofs.YtmjilokgpgajjaaGreatW.PrintWords Go.Proofs.YtmjilokgpgajjaaGreatW.PrintLast Go.Proofs.YtmjilokgpgajjaaGreatW.PrintMore
set_option linter.unusedVariables false
set_option linter.unusedSimpArgs false
/-- A call. -/
structure Cl where
  op : Int
  n : Int
  S : ByteArray
  a : Int
  b : Int
  d : Bool
theorem store_agg {P : Program} {ops : Array Oper} {rest : List Oper} {o : Oper} {a : Act} {Q : Exit → Act → World → Prop} {W : World} (t : TypeId) (p v : Operand) (ho : o.op = .store t p v) (hN : o.dst = none) (hgd : o.guard = none)
    {G T : Nat} {cur : Array Value} (l : List Value) (hb : W.heap[G]? = some (.cells cur T (0, 0))) (hp : a.eval p = .pointer (some ⟨G, 0, none⟩)) (hi : l.length = cur.size) (hu : a.eval v = .agg l.toArray) (ht : (P.info? t).map (·.size) = some l.length) (h1 : ∀ q ∈ l, q.oneCell' = true)
    (h : ∀ W1, W1.heap[G]? = some (.cells l.toArray T (0, 0)) → KeepBut W W1 G none → Below G W W1 → wpList P ops Q rest a W1) :
    wpList P ops Q (o :: rest) a W := by
  refine wpList_plain hgd fun K hK => ?_
  unfold Oper.wp execOp
  have hrun := run_store_run (P := P) (w := W) t (.agg l.toArray) l hb (by simp [Value.cells]) ht (o := 0) (by simp; omega) h1
  simp only [ho, Sem.run_bind, Sem.run_pure, Result.andThen_ok, hp, hu, hrun]
  refine hK _ _ ?_
  rw [hN]
  obtain ⟨cur', h1', h2, h3⟩ := setCells_row (g := G) l 0 W cur hb (by omega)
  obtain ⟨s1, s2, s3, s4⟩ := setCells_same G l 0 W
  have e : cur' = l.toArray := by
    refine Array.toList_inj.1 ?_
    rw [h3]
    simp
    omega
  exact h (W.setCells G 0 l) (e ▸ h1') ⟨by omega, fun i _ hi _ => setCells_far _ _ i hi⟩ ⟨s1, s2, s3, by omega, fun i hi => setCells_far _ _ i (by omega)⟩
/-- What wrCall makes. -/
def Mk (g n : Int) (S : ByteArray) (x y : Int) (d : Bool) (c : Cl) : Prop := ∀ w : World, Calls Tryz.prog 9 #[.int .u8 g, .int .i64 n, .string S, .agg #[.int .u8 x, .int .u8 y], .bool d] w fun e w' => e = .returned (.agg #[.int .i64 c.op, .int .i64 c.n, .string c.S, .int .i64 c.a, .int .i64 c.b, .bool c.d]) ∧ Below w.heap.size w w'
/-- What the definition tells of a call. -/
def Sp (p : Int) (c : Cl) (zs : List Int) : Prop := ∀ w : World, Calls Tryz.prog 12 #[.int .i64 p, .agg #[.int .i64 c.op, .int .i64 c.n, .string c.S, .int .i64 c.a, .int .i64 c.b, .bool c.d]] w fun e w' => ∃ v, e = .returned v ∧ (Kd.int .u8).R 5 w' w.heap.size (fun _ => True) v zs ∧ Below w.heap.size w w'
/-- What THWrite writes of one call. -/
def One (p : Int) (c : Cl) (zs : List Int) : Prop := ∀ (w : World) (B C : Nat), B < w.heap.size → w.heap[B]? = some (.cells #[.int .i64 c.op, .int .i64 c.n, .string c.S, .int .i64 c.a, .int .i64 c.b, .bool c.d] 25 (0, 0)) →
    Calls Tryz.prog 10 #[.int .i64 p, .slice (some ⟨B, 0, none⟩) 1 C] w fun e w' => ∃ (A : Option Addr) (c : Nat), e = .returned (.tuple #[.slice A zs.length c, .int .i64 1]) ∧ (Kd.int .u8).R 5 w' w.heap.size (fun _ => True) (.slice A zs.length c) zs ∧ Below w.heap.size w w'
theorem Mk.at_ {g n : Int} {S : ByteArray} {x y : Int} {d : Bool} {c : Cl} (h : Mk g n S x y d c) (w : World) : Calls Tryz.prog 9 #[.int .u8 g, .int .i64 n, .string S, .agg #[.int .u8 x, .int .u8 y], .bool d] w fun e w' => e = .returned (.agg #[.int .i64 c.op, .int .i64 c.n, .string c.S, .int .i64 c.a, .int .i64 c.b, .bool c.d]) ∧ Below w.heap.size w w' := h w
theorem Sp.at_ {p : Int} {c : Cl} {zs : List Int} (h : Sp p c zs) (w : World) : Calls Tryz.prog 12 #[.int .i64 p, .agg #[.int .i64 c.op, .int .i64 c.n, .string c.S, .int .i64 c.a, .int .i64 c.b, .bool c.d]] w fun e w' => ∃ v, e = .returned v ∧ (Kd.int .u8).R 5 w' w.heap.size (fun _ => True) v zs ∧ Below w.heap.size w w' := h w
theorem One.at_ {p : Int} {c : Cl} {zs : List Int} (h : One p c zs) (w : World) (B C : Nat) (hB : B < w.heap.size) (hl : w.heap[B]? = some (.cells #[.int .i64 c.op, .int .i64 c.n, .string c.S, .int .i64 c.a, .int .i64 c.b, .bool c.d] 25 (0, 0))) :
    Calls Tryz.prog 10 #[.int .i64 p, .slice (some ⟨B, 0, none⟩) 1 C] w fun e w' => ∃ (A : Option Addr) (c : Nat), e = .returned (.tuple #[.slice A zs.length c, .int .i64 1]) ∧ (Kd.int .u8).R 5 w' w.heap.size (fun _ => True) (.slice A zs.length c) zs ∧ Below w.heap.size w w' := h w B C hB hl
end Go.Proofs.YtmjilokgpgajjaaGreat.Th

namespace Go.Proofs.YtmjilokgpgajjaaGreat.Th
open Go.RowKit Go.Proofs.YtmjilokgpgajjaaGreatW.PrintWords Go.Proofs.YtmjilokgpgajjaaGreatW.PrintLast Go.Proofs.YtmjilokgpgajjaaGreatW.PrintMore
set_option linter.unusedVariables false
set_option linter.unusedSimpArgs false
/-- A writer's block, its sink, its protocol's block, and what was written; the writer's fields begin at place off of a block of SZ cells. -/
structure St (w : World) (base Sg Wg T off SZ Pg PT : Nat) (ps : Array Value) (pv : Value) (xs : List Int) : Prop where
  hS : ∃ v, w.heap[Sg]? = some (.cells #[v] 44 (0, 0)) ∧ (Kd.int .u8).R 5 w base (fun _ => True) v xs
  hW : ∃ ws : Array Value, w.heap[Wg]? = some (.cells ws T (0, 0)) ∧ ws.size = SZ ∧ ws[off]? = some pv ∧ ws[off + 9]? = some (.iface 42 (.pointer (some ⟨Sg, 0, none⟩))) ∧ (∀ i, i < 8 → ∃ b, ws[off + 1 + i]? = some (.int .u8 b))
  hP : w.heap[Pg]? = some (.cells ps PT (0, 0))
  hZ : off + 10 ≤ SZ
  t5 : T ≠ 5
  p5 : PT ≠ 5
  n1 : Sg ≠ Wg
  n2 : Sg ≠ Pg
  n3 : Wg ≠ Pg
  b1 : base ≤ Sg
  b2 : base ≤ Wg
  b3 : base ≤ w.heap.size
/-- All other blocks are as they were, and are none of the sink's row. -/
def Rest (w w' : World) (Sg Wg : Nat) : Prop := w.heap.size ≤ w'.heap.size ∧ ∀ v, w.heap[Sg]? = some (.cells #[v] 44 (0, 0)) → ∃ v', w'.heap[Sg]? = some (.cells #[v'] 44 (0, 0)) ∧ ∀ g, g < w.heap.size → g ≠ Sg → g ≠ Wg → some g ≠ v.ownBlock → w'.heap[g]? = w.heap[g]? ∧ some g ≠ v'.ownBlock
theorem Rest.below {w w' : World} {Sg Wg : Nat} (hb : Below w.heap.size w w') : Rest w w' Sg Wg := ⟨hb.size, fun v hv => ⟨v, blk_below hv hb, fun g h1 _ _ h4 => ⟨hb.block g h1, h4⟩⟩⟩
theorem Rest.trans {w w1 w2 : World} {Sg Wg : Nat} (h : Rest w w1 Sg Wg) (k : Rest w1 w2 Sg Wg) : Rest w w2 Sg Wg := by
  refine ⟨Nat.le_trans h.1 k.1, fun v hv => ?_⟩
  obtain ⟨v1, h1, h2⟩ := h.2 v hv
  obtain ⟨v2, k1, k2⟩ := k.2 v1 h1
  refine ⟨v2, k1, fun g g1 g2 g3 g4 => ?_⟩
  obtain ⟨a1, a2⟩ := h2 g g1 g2 g3 g4
  obtain ⟨c1, c2⟩ := k2 g (Nat.lt_of_lt_of_le g1 h.1) g2 g3 a2
  exact ⟨c1.trans a1, c2⟩
theorem Rest.sink {w w' : World} {Sg Wg : Nat} {v v' : Value} (h1 : w.heap[Sg]? = some (.cells #[v] 44 (0, 0))) (hk : Keep2 w w' Sg v) (h2 : w'.heap[Sg]? = some (.cells #[v'] 44 (0, 0))) (ha : ∀ g, g < w.heap.size → some g ≠ v.ownBlock → some g ≠ v'.ownBlock) : Rest w w' Sg Wg := by
  refine ⟨hk.1, fun u hu => ?_⟩
  obtain rfl : v = u := by
    have := h1.symm.trans hu
    injection this with this
    injection this with this
    have := congrArg (fun a : Array Value => a[0]?) this
    simpa using this
  exact ⟨v', h2, fun g g1 g2 _ g4 => ⟨hk.2 g g1 g2 g4, ha g g1 g4⟩⟩
theorem Rest.bytes {w w' : World} {Sg Wg : Nat} (hn : Sg ≠ Wg) (hk : KeepBut w w' Wg none) : Rest w w' Sg Wg :=
  ⟨hk.1, fun v hv => ⟨v, (hk.2 Sg (blk_lt hv) hn (by simp)).trans hv, fun g g1 _ g3 g4 => ⟨hk.2 g g1 g3 (by simp), g4⟩⟩⟩
/-- A block that is no byte block of the sink's row stands. -/
theorem Rest.blk {w w' : World} {Sg Wg g : Nat} {o : Obj} {v : Value} (h : Rest w w' Sg Wg) (hv : w.heap[Sg]? = some (.cells #[v] 44 (0, 0))) (ho : w.heap[g]? = some o) (h1 : g ≠ Sg) (h2 : g ≠ Wg) (h3 : some g ≠ v.ownBlock) : w'.heap[g]? = some o := by
  obtain ⟨v', _, h4⟩ := h.2 v hv
  exact (h4 g (blk_lt ho) h1 h2 h3).1.trans ho
section
variable {w w' : World} {base Sg Wg T off SZ Pg PT : Nat} {ps : Array Value} {pv : Value} {xs : List Int}
theorem ne5 {t : Nat} (h : t ≠ 5) : ∀ q, q ∈ 5 :: (Kd.int .u8).E → q ≠ t := fun q hq => by
  have hq2 : q = 5 := List.mem_singleton.1 hq
  rw [hq2]
  exact Ne.symm h
/-- A call that only makes memory leaves it. -/
theorem St.below (h : St w base Sg Wg T off SZ Pg PT ps pv xs) (hb : Below w.heap.size w w') : St w' base Sg Wg T off SZ Pg PT ps pv xs := by
  obtain ⟨v, h1, h2⟩ := h.hS
  obtain ⟨ws, h3, h4⟩ := h.hW
  exact ⟨⟨v, blk_below h1 hb, Kd.R_below h2 hb⟩, ⟨ws, blk_below h3 hb, h4⟩, blk_below h.hP hb, h.hZ, h.t5, h.p5, h.n1, h.n2, h.n3, h.b1, h.b2, Nat.le_trans h.b3 hb.size⟩
/-- The sink's own writing. -/
theorem St.sink (h : St w base Sg Wg T off SZ Pg PT ps pv xs) {v v' : Value} {ys : List Int} (h1 : w.heap[Sg]? = some (.cells #[v] 44 (0, 0))) (hr : (Kd.int .u8).R 5 w base (fun _ => True) v xs) (hk : Keep2 w w' Sg v) (h2 : w'.heap[Sg]? = some (.cells #[v'] 44 (0, 0))) (h3 : (Kd.int .u8).R 5 w' base (fun _ => True) v' ys) : St w' base Sg Wg T off SZ Pg PT ps pv ys := by
  obtain ⟨ws, h4, h5⟩ := h.hW
  have k1 : some Wg ≠ v.ownBlock := Kd.R_ne hr h4 (Ne.symm h.t5)
  have k2 : some Pg ≠ v.ownBlock := Kd.R_ne hr h.hP (Ne.symm h.p5)
  exact ⟨⟨v', h2, h3⟩, ⟨ws, (hk.2 Wg (blk_lt h4) (Ne.symm h.n1) k1).trans h4, h5⟩, (hk.2 Pg (blk_lt h.hP) (Ne.symm h.n2) k2).trans h.hP, h.hZ, h.t5, h.p5, h.n1, h.n2, h.n3, h.b1, h.b2, Nat.le_trans h.b3 hk.1⟩
/-- Bytes written into the writer's own array. -/
theorem St.bytes (h : St w base Sg Wg T off SZ Pg PT ps pv xs) {ws : Array Value} (hw : w.heap[Wg]? = some (.cells ws T (0, 0))) (o : Nat) (bs : List Int) (hb1 : w'.heap[Wg]? = some (.cells (setBytes ws (off + 1 + o) bs) T (0, 0))) (hl : o + bs.length ≤ 8) (hk : KeepBut w w' Wg none) : St w' base Sg Wg T off SZ Pg PT ps pv xs := by
  obtain ⟨v, h1, h2⟩ := h.hS
  obtain ⟨ws', h3, h4, h5, h6, h7⟩ := h.hW
  obtain rfl : ws' = ws := by
    have := h3.symm.trans hw
    injection this with this
    injection this
  have hz := h.hZ
  refine ⟨⟨v, (hk.2 Sg (blk_lt h1) h.n1 (by simp)).trans h1, Kd.R_mono (Kd.R_keep (Kd.R_types h2 h3 (ne5 h.t5)) hk (fun _ hk => hk.2)) (fun _ _ => trivial)⟩, ⟨_, hb1, by rw [setBytes_size, h4], by rw [setBytes_other _ _ _ _ (by omega)]; exact h5, by rw [setBytes_other _ _ _ _ (by omega)]; exact h6, fun i hi => ?_⟩, (hk.2 Pg (blk_lt h.hP) (Ne.symm h.n3) (by simp)).trans h.hP, h.hZ, h.t5, h.p5, h.n1, h.n2, h.n3, h.b1, h.b2, Nat.le_trans h.b3 hk.1⟩
  by_cases hi2 : i < o ∨ o + bs.length ≤ i
  · rw [setBytes_other _ _ _ _ (by omega)]
    exact h7 i hi
  · have := setBytes_at bs ws' (off + 1 + o) (i - o) (by omega) (by omega)
    rw [show off + 1 + o + (i - o) = off + 1 + i by omega] at this
    exact ⟨_, this⟩
end
set_option maxRecDepth 100000 in
theorem is_byte (S : Nat) (w : World) : Sem.run Tryz.prog (Instr.typeAssert (.iface 42 (.pointer (some ⟨S, 0, none⟩))) 153 198 true) w = .ok (.tuple #[.iface 42 (.pointer (some ⟨S, 0, none⟩)), .bool true]) w := by kernel_rfl
set_option maxHeartbeats 4000000 in
set_option maxRecDepth 100000 in
theorem w_write (w : World) (base Sg Wg T off SZ Pg PT : Nat) (ps : Array Value) (pv : Value) (xs ys : List Int) (A : Option Addr) (c : Nat) (hst : St w base Sg Wg T off SZ Pg PT ps pv xs) (hy : (Kd.int .u8).C w A ys.length ys) (hl : xs.length + ys.length < 100000000000) :
    Calls Tryz.prog 96 #[.pointer (some ⟨Wg, off, none⟩), .slice A ys.length c] w fun e w' => e = .returned .nilIface ∧ St w' base Sg Wg T off SZ Pg PT ps pv (xs ++ ys) ∧ Below base w w' ∧ Rest w w' Sg Wg := by
  obtain ⟨v, h1, h2⟩ := hst.hS
  obtain ⟨ws, h3, h4, h5, h6, h7⟩ := hst.hW
  have hc9 : w.cell? ⟨Wg, off + 9, none⟩ = some (.iface 42 (.pointer (some ⟨Sg, 0, none⟩))) := (blk_cell h3 (off + 9)).trans h6
  have HW := Aside0.mk (sink_write w Sg base v xs ys A c h1 h2 hy hst.b1 hst.b3 hl)
  have HST := Aside0.mk hst
  have H1 := Aside0.mk h1
  have H2 := Aside0.mk h2
  clear hst h1 h2 h3 h4 h5 h6 h7 hy
  go_enter Tryz.func96, Tryz.ntmps96
  go_wp2_with (go_at_call 147; (with_reducible refine HW.out.mono ?_); rintro e w1 ⟨rfl, hk, hb, v', hs', hr', ha'⟩; have HS2 := Aside0.mk (HST.out.sink H1.out H2.out hk hs' hr'); have HB := Aside0.mk hb; have HRS := Aside0.mk (Rest.sink (Wg := Wg) H1.out hk hs' ha'); clear hk hb hs' hr' ha')
  go_ret
  exact ⟨rfl, HS2.out, HB.out, HRS.out⟩
set_option maxHeartbeats 4000000 in
set_option maxRecDepth 100000 in
theorem w_byte (w : World) (base Sg Wg T off SZ Pg PT : Nat) (ps : Array Value) (pv : Value) (xs : List Int) (b : Int) (hst : St w base Sg Wg T off SZ Pg PT ps pv xs) (hl : xs.length < 100000000000) :
    Calls Tryz.prog 95 #[.pointer (some ⟨Wg, off, none⟩), .int .u8 b] w fun e w' => e = .returned .nilIface ∧ St w' base Sg Wg T off SZ Pg PT ps pv (xs ++ [b]) ∧ Below base w w' ∧ Rest w w' Sg Wg := by
  obtain ⟨v, h1, h2⟩ := hst.hS
  obtain ⟨ws, h3, h4, h5, h6, h7⟩ := hst.hW
  have hc9 : w.cell? ⟨Wg, off + 9, none⟩ = some (.iface 42 (.pointer (some ⟨Sg, 0, none⟩))) := (blk_cell h3 (off + 9)).trans h6
  have hta := is_byte Sg
  have HW := Aside0.mk (sink_byte w Sg base v xs b h1 h2 hst.b1 hst.b3 hl)
  have HST := Aside0.mk hst
  have H1 := Aside0.mk h1
  have H2 := Aside0.mk h2
  clear hst h1 h2 h3 h4 h5 h6 h7
  go_enter Tryz.func95, Tryz.ntmps95
  go_wp2_with (go_at_call 43; (with_reducible refine HW.out.mono ?_); rintro e w1 ⟨rfl, hk, hb, v', hs', hr', ha'⟩; have HS2 := Aside0.mk (HST.out.sink H1.out H2.out hk hs' hr'); have HB := Aside0.mk hb; have HRS := Aside0.mk (Rest.sink (Wg := Wg) H1.out hk hs' ha'); clear hk hb hs' hr' ha')
  go_ret
  exact ⟨rfl, HS2.out, HB.out, HRS.out⟩
end Go.Proofs.YtmjilokgpgajjaaGreat.Th

namespace Go.Proofs.YtmjilokgpgajjaaGreat.Th
open Go.RowKit Go.Proofs.YtmjilokgpgajjaaGreatW.PrintWords Go.Proofs.YtmjilokgpgajjaaGreatW.PrintLast Go.Proofs.YtmjilokgpgajjaaGreatW.PrintMore
set_option linter.unusedVariables false
set_option linter.unusedSimpArgs false
/-- The k lowest bytes of a number, the highest one of them first. -/
def hib : Nat → Int → List Int
  | 0, _ => []
  | k + 1, u => u / 256 ^ k % 256 :: hib k u
theorem hib_len : ∀ (k : Nat) (u : Int), (hib k u).length = k
  | 0, _ => rfl
  | k + 1, u => by simp [hib, hib_len k]

set_option maxHeartbeats 4000000 in
set_option maxRecDepth 100000 in
theorem w_int16 (w : World) (base Sg Wg T off SZ Pg PT : Nat) (ps : Array Value) (pv : Value) (xs : List Int) (v : Int) (hst : St w base Sg Wg T off SZ Pg PT ps pv xs) (h0 : -32768 ≤ v) (h1 : v < 32768) (hl : xs.length < 10000000000) :
    Calls Tryz.prog 84 #[.pointer (some ⟨Wg, off, none⟩), .int .i16 v] w fun e w' => e = .returned .nilIface ∧ St w' base Sg Wg T off SZ Pg PT ps pv (xs ++ hib 2 v) ∧ Below base w w' ∧ Rest w w' Sg Wg := by
  obtain ⟨ws, h3, h4, h5, h6, h7⟩ := hst.hW
  have hz := hst.hZ
  obtain ⟨b0, hb0⟩ := h7 1 (by decide)
  have hc : w.cell? ⟨Wg, off + 1 + 1, none⟩ = some (.int .u8 b0) := (blk_cell h3 _).trans hb0
  obtain ⟨u, hu⟩ : ∃ u, u = IntKind.u16.wrap v := ⟨_, rfl⟩
  have hur : u = v % 65536 := by rw [hu, IntKind.wrap_u16]
  have hbs : [u / 256 % 256, u % 256] = hib 2 v := by
    simp only [hib]
    rw [hur]
    simp only [List.cons.injEq, and_true]
    refine ⟨by omega, by omega⟩
  have HPUT := Aside0.mk (fun (c : Nat) => bput16 u (by omega) (by omega) Wg T (off + 1) c ws w.drew (blk_drew h3) (by omega) b0 hc)
  rw [hbs] at HPUT
  have HWS := Aside0.mk (show off + 1 + 2 ≤ ws.size by omega)
  have HST := Aside0.mk hst
  have H3 := Aside0.mk h3
  have HB0 := Aside0.mk (Below.refl w.heap.size w)
  have hlen := hib_len 2 v
  generalize hib 2 v = bs at *
  have HL := Aside0.mk hlen
  clear hst h3 h4 h5 h6 h7 hb0 hc hur hbs hlen
  rw [hu] at HPUT
  clear hu
  go_enter Tryz.func84, Tryz.ntmps84
  go_upto_region 1 with fail
  go_region_with (go_at_call 98; (with_reducible refine (HPUT.out _).mono ?_); rintro e w2 ⟨rfl, hw2, hk2, hb2⟩; have HST2 := Aside0.mk ((HST.out.below (below_drew HB0.out)).bytes (blk_drew H3.out) 0 bs hw2 (by rw [HL.out]; decide) hk2); have HC2 := Aside0.mk (cells_C (n := bs.length) (bs := bs) (o := off + 1) hw2 rfl (by rw [HL.out]; decide) (fun i hi => setBytes_at bs ws (off + 1) i (by rw [HL.out]; exact HWS.out) hi)); have HB2 := Aside0.mk ((HB0.out.mono HST.out.b3).drew.trans (hb2.mono HST.out.b2)); have HR2 := Aside0.mk ((Rest.below (Sg := Sg) (Wg := Wg) (below_drew HB0.out)).trans (Rest.bytes HST.out.n1 hk2)); clear hw2 hk2 hb2)
  have hbl := HL.out
  have HWR := Aside0.mk (w_write w2 base Sg Wg T off SZ Pg PT ps pv xs bs (some ⟨Wg, off + 1, none⟩) 8 HST2.out HC2.out (by omega))
  rw [hbl] at HWR
  clear hbl
  go_wp2_with (go_at_call 96; (with_reducible refine HWR.out.mono ?_); rintro e w3 ⟨rfl, hs3, hb3, hr3⟩; have HR3 := Aside0.mk (HR2.out.trans hr3); have HS3 := Aside0.mk hs3; have HB3 := Aside0.mk (HB2.out.trans hb3); clear hs3 hb3 hr3)
  go_ret
  exact ⟨rfl, HS3.out, HB3.out, HR3.out⟩

end Go.Proofs.YtmjilokgpgajjaaGreat.Th

namespace Go.Proofs.YtmjilokgpgajjaaGreat.Th
open Go.RowKit Go.Proofs.YtmjilokgpgajjaaGreatW.PrintWords Go.Proofs.YtmjilokgpgajjaaGreatW.PrintLast Go.Proofs.YtmjilokgpgajjaaGreatW.PrintMore
set_option linter.unusedVariables false
set_option linter.unusedSimpArgs false
/-- A block that was made ahead of the calls stands behind them. -/
theorem St.held {w W1 w' : World} {base Sg Wg T off SZ Pg PT : Nat} {ps : Array Value} {pv : Value} {xs : List Int} {B : Nat} {o : Obj} (h : St w base Sg Wg T off SZ Pg PT ps pv xs) (hb : Below w.heap.size w W1) (hB : W1.heap[B]? = some o) (hn : w.heap.size ≤ B) (hr : Rest W1 w' Sg Wg) : w'.heap[B]? = some o := by
  obtain ⟨v, h1, h2⟩ := h.hS
  obtain ⟨ws, h3, _⟩ := h.hW
  exact hr.blk (blk_below h1 hb) hB (fun e => by have := blk_lt h1; omega) (fun e => by have := blk_lt h3; omega) (fun e => by have := Kd.R_lt h2 B e.symm; omega)
/-- So does a block that was there, if it is none of the sink's. -/
theorem St.kept {w w' : World} {base Sg Wg T off SZ Pg PT : Nat} {ps : Array Value} {pv : Value} {xs : List Int} {A : Option Addr} {n : Nat} {ys : List Int} (h : St w base Sg Wg T off SZ Pg PT ps pv xs) (hy : Kd.F (Kd.int .u8) w (fun k => k ≠ Sg ∧ k ≠ Wg ∧ ∀ v, w.heap[Sg]? = some (.cells #[v] 44 (0, 0)) → some k ≠ v.ownBlock) A n ys) (hr : Rest w w' Sg Wg) : (Kd.int .u8).C w' A n ys := by
  obtain ⟨v, h1, h2⟩ := h.hS
  obtain ⟨v', _, h4⟩ := hr.2 v h1
  exact hy w' (fun k hk hlt => (h4 k hlt hk.1 hk.2.1 (hk.2.2 v h1)).1)

set_option maxHeartbeats 4000000 in
set_option maxRecDepth 100000 in
theorem w_field (w : World) (base Sg Wg T off SZ Pg PT : Nat) (ps : Array Value) (pv : Value) (xs : List Int) (id ty : Int) (dl : Bool) (hst : St w base Sg Wg T off SZ Pg PT ps pv xs) (h0 : -32768 ≤ id) (h1 : id < 32768) (hl : xs.length < 1000000000) :
    Calls Tryz.prog 82 #[.pointer (some ⟨Wg, off, none⟩), .agg #[.int .i16 id, .int .i8 ty, .bool dl]] w fun e w' => e = .returned .nilIface ∧ St w' base Sg Wg T off SZ Pg PT ps pv (xs ++ (IntKind.u8.wrap ty :: hib 2 id)) ∧ Below base w w' ∧ Rest w w' Sg Wg := by
  have HST := Aside0.mk hst
  clear hst
  go_enter Tryz.func82, Tryz.ntmps82
  go_wp2_with (first | ((with_reducible refine gate_dst (N := 3) rfl ?_); refine box_event ?xhg (N := 3) ?xhd (cs := #[.int .i16 id, .int .i8 ty, .bool dl]) (t := 114) ?xhr ?_; (case xhd => rfl); (case xhg => rfl); (case xhr => first | (go_simp; done) | (go_simp; rfl)); intro Bg hG w1 hb1 hg1; have HHELD := Aside0.mk (fun w' (hr : Rest w1 w' Sg Wg) => HST.out.held hg1 hb1 (Nat.le_of_eq hG.symm) hr); have HS1 := Aside0.mk (HST.out.below hg1); have HB1 := Aside0.mk (hg1.mono HST.out.b3); have HR1 := Aside0.mk (Rest.below (Sg := Sg) (Wg := Wg) (Below.refl w1.heap.size w1)); have HR0 := Aside0.mk (Rest.below (Sg := Sg) (Wg := Wg) hg1); have c1_0 : w1.cell? ⟨Bg, 0, none⟩ = some (.int .i16 id) := (blk_cell hb1 0).trans rfl; have c1_1 : w1.cell? ⟨Bg, 1, none⟩ = some (.int .i8 ty) := (blk_cell hb1 1).trans rfl; have c1_2 : w1.cell? ⟨Bg, 2, none⟩ = some (.bool dl) := (blk_cell hb1 2).trans rfl; clear hb1 hg1 hG) | (go_at_call 95; (with_reducible refine (w_byte _ base Sg Wg T off SZ Pg PT ps pv _ _ HS1.out (by (try simp only [List.length_append, List.length_cons, List.length_nil, hib_len]); omega)).mono ?_); rintro e w2 ⟨rfl, hs, hb, hr⟩; have HS2 := Aside0.mk hs; have HB2 := Aside0.mk (HB1.out.trans hb); have HR2 := Aside0.mk (HR1.out.trans hr); have HK2 := Aside0.mk (HHELD.out _ HR2.out); have c2_0 : w2.cell? ⟨Bg, 0, none⟩ = some (.int .i16 id) := (blk_cell HK2.out 0).trans rfl; have c2_1 : w2.cell? ⟨Bg, 1, none⟩ = some (.int .i8 ty) := (blk_cell HK2.out 1).trans rfl; have c2_2 : w2.cell? ⟨Bg, 2, none⟩ = some (.bool dl) := (blk_cell HK2.out 2).trans rfl; clear hs hb hr) | (go_at_call 84; (with_reducible refine (w_int16 _ base Sg Wg T off SZ Pg PT ps pv _ id HS2.out h0 h1 (by (try simp only [List.length_append, List.length_cons, List.length_nil, hib_len]); omega)).mono ?_); rintro e w3 ⟨rfl, hs, hb, hr⟩; have HS3 := Aside0.mk hs; have HB3 := Aside0.mk (HB2.out.trans hb); have HR3 := Aside0.mk (HR2.out.trans hr); have HK3 := Aside0.mk (HHELD.out _ HR3.out); have c3_0 : w3.cell? ⟨Bg, 0, none⟩ = some (.int .i16 id) := (blk_cell HK3.out 0).trans rfl; have c3_1 : w3.cell? ⟨Bg, 1, none⟩ = some (.int .i8 ty) := (blk_cell HK3.out 1).trans rfl; have c3_2 : w3.cell? ⟨Bg, 2, none⟩ = some (.bool dl) := (blk_cell HK3.out 2).trans rfl; clear hs hb hr))
  go_ret
  exact ⟨rfl, by have h := HS3.out; (try simp only [List.append_assoc, List.cons_append, List.nil_append] at h); exact h, HB3.out, HR0.out.trans HR3.out⟩

end Go.Proofs.YtmjilokgpgajjaaGreat.Th

namespace Go.Proofs.YtmjilokgpgajjaaGreat.Th
open Go.RowKit Go.Proofs.YtmjilokgpgajjaaGreatW.PrintWords Go.Proofs.YtmjilokgpgajjaaGreatW.PrintLast Go.Proofs.YtmjilokgpgajjaaGreatW.PrintMore
set_option linter.unusedVariables false
set_option linter.unusedSimpArgs false

end Go.Proofs.YtmjilokgpgajjaaGreat.Th

namespace Go.Proofs.YtmjilokgpgajjaaGreat.Th
open Go.RowKit Go.Proofs.YtmjilokgpgajjaaGreatW.PrintWords Go.Proofs.YtmjilokgpgajjaaGreatW.PrintLast Go.Proofs.YtmjilokgpgajjaaGreatW.PrintMore
set_option linter.unusedVariables false
set_option linter.unusedSimpArgs false

end Go.Proofs.YtmjilokgpgajjaaGreat.Th

namespace Go.Proofs.YtmjilokgpgajjaaGreat.Th
open Go.RowKit Go.Proofs.YtmjilokgpgajjaaGreatW.PrintWords Go.Proofs.YtmjilokgpgajjaaGreatW.PrintLast Go.Proofs.YtmjilokgpgajjaaGreatW.PrintMore Go.Proofs.YtmjilokgpgajjaaGreat.PFnTHScripts
set_option linter.unusedVariables false
set_option linter.unusedSimpArgs false
/-- Is a number written with j bytes ahead of its last? -/
def nb : Nat → Int → Prop
  | 0, v => v ≤ 127
  | j + 1, v => 127 < v ∧ nb j (v / 128)
/-- The bytes of a number, j ahead of its last. -/
def vbytes : Nat → Int → List Int
  | 0, v => [v % 256]
  | j + 1, v => Go.bits .or .u8 (v % 256) 128 :: vbytes j (v / 128)
theorem vbytes_len : ∀ (j : Nat) (v : Int), (vbytes j v).length = j + 1
  | 0, _ => rfl
  | j + 1, v => by simp [vbytes, vbytes_len j]
theorem var_bytes : ∀ (j K : Nat) (v : Int) (acc : List Int), nb j v → j < K → acc.length + j < 1000 → spec_WRVar.l0 K v acc = some (acc ++ vbytes j v)
  | 0, K + 1, v, acc, h, _, hl => by
    simp only [nb] at h
    simp only [spec_WRVar.l0]
    rw [if_neg (by omega), if_pos (by omega)]
    rfl
  | j + 1, K + 1, v, acc, h, hk, hl => by
    simp only [nb] at h
    simp only [spec_WRVar.l0]
    rw [if_pos (by omega), if_pos (by omega), var_bytes j K (v / 128) _ h.2 (by omega) (by simp; omega)]
    simp [vbytes]
theorem wrvar (j K : Nat) (v : Int) (h : nb j v) (hk : j < K) (hj : j < 10) : spec_WRVar.f K v = some (vbytes j v) := by
  unfold spec_WRVar.f
  rw [var_bytes j K v [] h hk (by simp; omega)]
  rfl
end Go.Proofs.YtmjilokgpgajjaaGreat.Th

namespace Go.Proofs.YtmjilokgpgajjaaGreat.Th
open Go.RowKit Go.Proofs.YtmjilokgpgajjaaGreatW.PrintWords Go.Proofs.YtmjilokgpgajjaaGreatW.PrintLast Go.Proofs.YtmjilokgpgajjaaGreatW.PrintMore Go.Proofs.YtmjilokgpgajjaaGreat.PFnTHScripts
set_option linter.unusedVariables false
set_option linter.unusedSimpArgs false
end Go.Proofs.YtmjilokgpgajjaaGreat.Th

namespace Go.Proofs.YtmjilokgpgajjaaGreat.Th
open Go.RowKit Go.Proofs.YtmjilokgpgajjaaGreatW.PrintWords Go.Proofs.YtmjilokgpgajjaaGreatW.PrintLast Go.Proofs.YtmjilokgpgajjaaGreatW.PrintMore Go.Proofs.YtmjilokgpgajjaaGreat.PFnTHScripts
set_option linter.unusedVariables false
set_option linter.unusedSimpArgs false
end Go.Proofs.YtmjilokgpgajjaaGreat.Th

namespace Go.Proofs.YtmjilokgpgajjaaGreat.Th
open Go.RowKit Go.Proofs.YtmjilokgpgajjaaGreatW.PrintWords Go.Proofs.YtmjilokgpgajjaaGreatW.PrintLast Go.Proofs.YtmjilokgpgajjaaGreatW.PrintMore Go.Proofs.YtmjilokgpgajjaaGreat.PFnTHScripts
set_option linter.unusedVariables false
set_option linter.unusedSimpArgs false

end Go.Proofs.YtmjilokgpgajjaaGreat.Th

