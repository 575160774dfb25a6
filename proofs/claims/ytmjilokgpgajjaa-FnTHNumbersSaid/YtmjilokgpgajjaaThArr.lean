/- Bytes that are written into an array within a block, and read again; and the writing of numbers there, the highest byte first. -/
import Derived.Test.YtmjilokgpgajjaaThSink
import Derived.Laws.Entries
namespace Go.Proofs.Ytmjilokgpgajjaa.Th
open Go.RowKit Go.Proofs.YtmjilokgpgajjaaW.PrintWords Go.Proofs.YtmjilokgpgajjaaW.PrintLast Go.Proofs.YtmjilokgpgajjaaW.PrintMore
set_option linter.unusedVariables false
set_option linter.unusedSimpArgs false
/-- The cells with the given bytes from place o on. -/
def setBytes (ws : Array Value) (o : Nat) : List Int → Array Value
  | [] => ws
  | b :: r => setBytes (ws.setIfInBounds o (.int .u8 b)) (o + 1) r
theorem setBytes_size : ∀ (bs : List Int) (ws : Array Value) (o : Nat), (setBytes ws o bs).size = ws.size
  | [], ws, o => rfl
  | b :: r, ws, o => by rw [setBytes, setBytes_size r]; simp
theorem setBytes_other : ∀ (bs : List Int) (ws : Array Value) (o j : Nat), (j < o ∨ o + bs.length ≤ j) → (setBytes ws o bs)[j]? = ws[j]?
  | [], ws, o, j, _ => rfl
  | b :: r, ws, o, j, h => by
    rw [setBytes, setBytes_other r _ (o + 1) j (by simp at h; omega)]
    rw [Array.getElem?_setIfInBounds_ne (by simp at h; omega)]
theorem setBytes_at : ∀ (bs : List Int) (ws : Array Value) (o i : Nat), o + bs.length ≤ ws.size → i < bs.length → (setBytes ws o bs)[o + i]? = some (.int .u8 (bs.getD i 0))
  | b :: r, ws, o, 0, h, _ => by
    rw [setBytes, setBytes_other r _ (o + 1) (o + 0) (by omega)]
    simp at h
    rw [Nat.add_zero, Array.getElem?_setIfInBounds_self_of_lt (by omega)]
    simp
  | b :: r, ws, o, i + 1, h, hi => by
    have := setBytes_at r (ws.setIfInBounds o (.int .u8 b)) (o + 1) i (by simp at h ⊢; omega) (by simpa using hi)
    rw [setBytes, show o + (i + 1) = o + 1 + i by omega, this]
    simp
theorem cells_C {W : World} {G T o n : Nat} {ws : Array Value} {bs : List Int} (hb : W.heap[G]? = some (.cells ws T (0, 0))) (hl : bs.length = n) (hn : n < 1000) (h : ∀ i, i < n → ws[o + i]? = some (.int .u8 (bs.getD i 0))) : (Kd.int .u8).C W (some ⟨G, o, none⟩) n bs := by
  refine Kd.C_of_reads (d := 0) ⟨hl, by omega, fun _ => ⟨_, rfl, fun j hj => ?_⟩⟩
  have := h j hj
  unfold World.cell?
  rw [show ((⟨G, o, none⟩ : Addr).add j).block = G from by unfold Addr.add; split <;> simp_all, hb]
  rw [show (⟨G, o, none⟩ : Addr).add j = ⟨G, o + j, none⟩ from by unfold Addr.add; split <;> simp_all]
  simpa using this

set_option maxHeartbeats 4000000 in
set_option maxRecDepth 100000 in
theorem bput16 (v : Int) (h0 : 0 ≤ v) (h1 : v < 65536) (G T o c : Nat) (ws : Array Value) (w : World) (hb : w.heap[G]? = some (.cells ws T (0, 0))) (hsz : o + 2 ≤ ws.size) (b0 : Int) (hc : w.cell? ⟨G, o + 1, none⟩ = some (.int .u8 b0)) :
    Calls Try.prog 98 #[.agg #[], .slice (some ⟨G, o, none⟩) 2 c, .int .u16 v] w fun e w' => e = .returned (.tuple #[]) ∧ w'.heap[G]? = some (.cells (setBytes ws o [v / 256 % 256, v % 256]) T (0, 0)) ∧ KeepBut w w' G none ∧ Below G w w' := by
  have hlt := blk_lt hb
  have BK := Aside0.mk hb
  have HC := Aside0.mk hc
  have HK := Aside0.mk (KeepBut.refl w G none)
  have HG := Aside0.mk (Below.refl G w)
  have hm : v / 256 % 256 = v / 256 := by omega
  have HM := Aside0.mk hm
  clear hb hc hm
  go_enter Try.func98, Try.ntmps98
  go_wp2_with (first | ((with_reducible refine gate_dst (N := 3) rfl ?_); refine box_event ?xhg (N := 3) ?xhd (cs := #[]) (t := 180) ?xhr ?_; (case xhd => rfl); (case xhg => rfl); (case xhr => first | (go_simp; done) | (go_simp; rfl)); intro G2 hG2 W1 hb1 hg1; have n1 := Aside0.mk (blk_below BK.out hg1); have n2 := Aside0.mk (HK.out.trans (KeepBut.of_below hg1 G none) (.inl rfl)); have n3 := Aside0.mk (HG.out.trans (hg1.mono (Nat.le_of_lt hlt))); have hcc := pw_cell_below hg1 HC.out; clear BK HG HK hb1 hg1 hG2; have BK := n1; have HK := n2; have HG := n3; clear n1 n2 n3) | ((with_reducible refine gate_st rfl ?_); refine store_any _ _ _ rfl rfl rfl BK.out rfl (by (try simp only [Array.size_setIfInBounds]); omega) rfl rfl rfl (by kernel_rfl) ?_; intro W1 hb1 hk1 hg1; have n1 := Aside0.mk hb1; have n2 := Aside0.mk (HK.out.trans hk1 (.inl rfl)); have n3 := Aside0.mk (HG.out.trans hg1); clear BK HK HG hb1 hk1 hg1; have BK := n1; have HK := n2; have HG := n3; clear n1 n2 n3))
  go_returns
  refine ⟨rfl, ?_, HK.out, HG.out⟩
  have hm := HM.out
  simp only [setBytes, Nat.add_assoc, Nat.reduceAdd, hm]
  exact BK.out

set_option maxHeartbeats 4000000 in
set_option maxRecDepth 100000 in
theorem bput32 (v : Int) (h0 : 0 ≤ v) (h1 : v < 4294967296) (G T o c : Nat) (ws : Array Value) (w : World) (hb : w.heap[G]? = some (.cells ws T (0, 0))) (hsz : o + 4 ≤ ws.size) (b0 : Int) (hc : w.cell? ⟨G, o + 3, none⟩ = some (.int .u8 b0)) :
    Calls Try.prog 99 #[.agg #[], .slice (some ⟨G, o, none⟩) 4 c, .int .u32 v] w fun e w' => e = .returned (.tuple #[]) ∧ w'.heap[G]? = some (.cells (setBytes ws o [v / 16777216 % 256, v / 65536 % 256, v / 256 % 256, v % 256]) T (0, 0)) ∧ KeepBut w w' G none ∧ Below G w w' := by
  have hlt := blk_lt hb
  have BK := Aside0.mk hb
  have HC := Aside0.mk hc
  have HK := Aside0.mk (KeepBut.refl w G none)
  have HG := Aside0.mk (Below.refl G w)
  have hm : v / 16777216 % 256 = v / 16777216 := by omega
  have HM := Aside0.mk hm
  clear hb hc hm
  go_enter Try.func99, Try.ntmps99
  go_wp2_with (first | ((with_reducible refine gate_dst (N := 3) rfl ?_); refine box_event ?xhg (N := 3) ?xhd (cs := #[]) (t := 180) ?xhr ?_; (case xhd => rfl); (case xhg => rfl); (case xhr => first | (go_simp; done) | (go_simp; rfl)); intro G2 hG2 W1 hb1 hg1; have n1 := Aside0.mk (blk_below BK.out hg1); have n2 := Aside0.mk (HK.out.trans (KeepBut.of_below hg1 G none) (.inl rfl)); have n3 := Aside0.mk (HG.out.trans (hg1.mono (Nat.le_of_lt hlt))); have hcc := pw_cell_below hg1 HC.out; clear BK HG HK hb1 hg1 hG2; have BK := n1; have HK := n2; have HG := n3; clear n1 n2 n3) | ((with_reducible refine gate_st rfl ?_); refine store_any _ _ _ rfl rfl rfl BK.out rfl (by (try simp only [Array.size_setIfInBounds]); omega) rfl rfl rfl (by kernel_rfl) ?_; intro W1 hb1 hk1 hg1; have n1 := Aside0.mk hb1; have n2 := Aside0.mk (HK.out.trans hk1 (.inl rfl)); have n3 := Aside0.mk (HG.out.trans hg1); clear BK HK HG hb1 hk1 hg1; have BK := n1; have HK := n2; have HG := n3; clear n1 n2 n3))
  go_returns
  refine ⟨rfl, ?_, HK.out, HG.out⟩
  have hm := HM.out
  simp only [setBytes, Nat.add_assoc, Nat.reduceAdd, hm]
  exact BK.out

set_option maxHeartbeats 4000000 in
set_option maxRecDepth 100000 in
theorem bput64 (v : Int) (h0 : 0 ≤ v) (h1 : v < 18446744073709551616) (G T o c : Nat) (ws : Array Value) (w : World) (hb : w.heap[G]? = some (.cells ws T (0, 0))) (hsz : o + 8 ≤ ws.size) (b0 : Int) (hc : w.cell? ⟨G, o + 7, none⟩ = some (.int .u8 b0)) :
    Calls Try.prog 97 #[.agg #[], .slice (some ⟨G, o, none⟩) 8 c, .int .u64 v] w fun e w' => e = .returned (.tuple #[]) ∧ w'.heap[G]? = some (.cells (setBytes ws o [v / 72057594037927936 % 256, v / 281474976710656 % 256, v / 1099511627776 % 256, v / 4294967296 % 256, v / 16777216 % 256, v / 65536 % 256, v / 256 % 256, v % 256]) T (0, 0)) ∧ KeepBut w w' G none ∧ Below G w w' := by
  have hlt := blk_lt hb
  have BK := Aside0.mk hb
  have HC := Aside0.mk hc
  have HK := Aside0.mk (KeepBut.refl w G none)
  have HG := Aside0.mk (Below.refl G w)
  have hm : v / 72057594037927936 % 256 = v / 72057594037927936 := by omega
  have HM := Aside0.mk hm
  clear hb hc hm
  go_enter Try.func97, Try.ntmps97
  go_wp2_with (first | ((with_reducible refine gate_dst (N := 3) rfl ?_); refine box_event ?xhg (N := 3) ?xhd (cs := #[]) (t := 180) ?xhr ?_; (case xhd => rfl); (case xhg => rfl); (case xhr => first | (go_simp; done) | (go_simp; rfl)); intro G2 hG2 W1 hb1 hg1; have n1 := Aside0.mk (blk_below BK.out hg1); have n2 := Aside0.mk (HK.out.trans (KeepBut.of_below hg1 G none) (.inl rfl)); have n3 := Aside0.mk (HG.out.trans (hg1.mono (Nat.le_of_lt hlt))); have hcc := pw_cell_below hg1 HC.out; clear BK HG HK hb1 hg1 hG2; have BK := n1; have HK := n2; have HG := n3; clear n1 n2 n3) | ((with_reducible refine gate_st rfl ?_); refine store_any _ _ _ rfl rfl rfl BK.out rfl (by (try simp only [Array.size_setIfInBounds]); omega) rfl rfl rfl (by kernel_rfl) ?_; intro W1 hb1 hk1 hg1; have n1 := Aside0.mk hb1; have n2 := Aside0.mk (HK.out.trans hk1 (.inl rfl)); have n3 := Aside0.mk (HG.out.trans hg1); clear BK HK HG hb1 hk1 hg1; have BK := n1; have HK := n2; have HG := n3; clear n1 n2 n3))
  go_returns
  refine ⟨rfl, ?_, HK.out, HG.out⟩
  have hm := HM.out
  simp only [setBytes, Nat.add_assoc, Nat.reduceAdd, hm]
  exact BK.out
end Go.Proofs.Ytmjilokgpgajjaa.Th
