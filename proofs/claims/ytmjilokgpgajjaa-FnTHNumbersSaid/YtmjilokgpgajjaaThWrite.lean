/- What a writer over a sink does with bytes, one byte, a text: they stand behind what was written. -/
import Derived.Test.YtmjilokgpgajjaaThArr
import Derived.Stop.Asserts
namespace Go.Proofs.Ytmjilokgpgajjaa.Th
open Go.RowKit Go.Proofs.YtmjilokgpgajjaaW.PrintWords Go.Proofs.YtmjilokgpgajjaaW.PrintLast Go.Proofs.YtmjilokgpgajjaaW.PrintMore
set_option linter.unusedVariables false
set_option linter.unusedSimpArgs false
/-- A writer's block, its sink, its protocol's block, and what was written; the writer's fields begin at place off of a block of SZ cells. -/
structure St (w : World) (base Sg Wg T off SZ Pg PT : Nat) (ps : Array Value) (pv : Value) (xs : List Int) : Prop where
  hS : ∃ v, w.heap[Sg]? = some (.cells #[v] 53 (0, 0)) ∧ (Kd.int .u8).R 5 w base (fun _ => True) v xs
  hW : ∃ ws : Array Value, w.heap[Wg]? = some (.cells ws T (0, 0)) ∧ ws.size = SZ ∧ ws[off]? = some pv ∧ ws[off + 9]? = some (.iface 51 (.pointer (some ⟨Sg, 0, none⟩))) ∧ (∀ i, i < 8 → ∃ b, ws[off + 1 + i]? = some (.int .u8 b))
  hP : w.heap[Pg]? = some (.cells ps PT (0, 0))
  hZ : off + 10 ≤ SZ
  t5 : T ≠ 5
  p5 : PT ≠ 5
  n1 : Sg ≠ Wg
  n2 : Sg ≠ Pg
  n3 : Wg ≠ Pg
  b1 : base ≤ Sg
  b2 : base ≤ Wg
  b3 : base ≤ w.heap.size
/-- All other blocks are as they were, and are none of the sink's row. -/
def Rest (w w' : World) (Sg Wg : Nat) : Prop := w.heap.size ≤ w'.heap.size ∧ ∀ v, w.heap[Sg]? = some (.cells #[v] 53 (0, 0)) → ∃ v', w'.heap[Sg]? = some (.cells #[v'] 53 (0, 0)) ∧ ∀ g, g < w.heap.size → g ≠ Sg → g ≠ Wg → some g ≠ v.ownBlock → w'.heap[g]? = w.heap[g]? ∧ some g ≠ v'.ownBlock
theorem Rest.below {w w' : World} {Sg Wg : Nat} (hb : Below w.heap.size w w') : Rest w w' Sg Wg := ⟨hb.size, fun v hv => ⟨v, blk_below hv hb, fun g h1 _ _ h4 => ⟨hb.block g h1, h4⟩⟩⟩
theorem Rest.trans {w w1 w2 : World} {Sg Wg : Nat} (h : Rest w w1 Sg Wg) (k : Rest w1 w2 Sg Wg) : Rest w w2 Sg Wg := by
  refine ⟨Nat.le_trans h.1 k.1, fun v hv => ?_⟩
  obtain ⟨v1, h1, h2⟩ := h.2 v hv
  obtain ⟨v2, k1, k2⟩ := k.2 v1 h1
  refine ⟨v2, k1, fun g g1 g2 g3 g4 => ?_⟩
  obtain ⟨a1, a2⟩ := h2 g g1 g2 g3 g4
  obtain ⟨c1, c2⟩ := k2 g (Nat.lt_of_lt_of_le g1 h.1) g2 g3 a2
  exact ⟨c1.trans a1, c2⟩
theorem Rest.sink {w w' : World} {Sg Wg : Nat} {v v' : Value} (h1 : w.heap[Sg]? = some (.cells #[v] 53 (0, 0))) (hk : Keep2 w w' Sg v) (h2 : w'.heap[Sg]? = some (.cells #[v'] 53 (0, 0))) (ha : ∀ g, g < w.heap.size → some g ≠ v.ownBlock → some g ≠ v'.ownBlock) : Rest w w' Sg Wg := by
  refine ⟨hk.1, fun u hu => ?_⟩
  obtain rfl : v = u := by
    have := h1.symm.trans hu
    injection this with this
    injection this with this
    have := congrArg (fun a : Array Value => a[0]?) this
    simpa using this
  exact ⟨v', h2, fun g g1 g2 _ g4 => ⟨hk.2 g g1 g2 g4, ha g g1 g4⟩⟩
theorem Rest.bytes {w w' : World} {Sg Wg : Nat} (hn : Sg ≠ Wg) (hk : KeepBut w w' Wg none) : Rest w w' Sg Wg :=
  ⟨hk.1, fun v hv => ⟨v, (hk.2 Sg (blk_lt hv) hn (by simp)).trans hv, fun g g1 _ g3 g4 => ⟨hk.2 g g1 g3 (by simp), g4⟩⟩⟩
/-- A block that is no byte block of the sink's row stands. -/
theorem Rest.blk {w w' : World} {Sg Wg g : Nat} {o : Obj} {v : Value} (h : Rest w w' Sg Wg) (hv : w.heap[Sg]? = some (.cells #[v] 53 (0, 0))) (ho : w.heap[g]? = some o) (h1 : g ≠ Sg) (h2 : g ≠ Wg) (h3 : some g ≠ v.ownBlock) : w'.heap[g]? = some o := by
  obtain ⟨v', _, h4⟩ := h.2 v hv
  exact (h4 g (blk_lt ho) h1 h2 h3).1.trans ho
section
variable {w w' : World} {base Sg Wg T off SZ Pg PT : Nat} {ps : Array Value} {pv : Value} {xs : List Int}
theorem ne5 {t : Nat} (h : t ≠ 5) : ∀ q, q ∈ 5 :: (Kd.int .u8).E → q ≠ t := fun q hq => by
  have hq2 : q = 5 := List.mem_singleton.1 hq
  rw [hq2]
  exact Ne.symm h
/-- A call that only makes memory leaves it. -/
theorem St.below (h : St w base Sg Wg T off SZ Pg PT ps pv xs) (hb : Below w.heap.size w w') : St w' base Sg Wg T off SZ Pg PT ps pv xs := by
  obtain ⟨v, h1, h2⟩ := h.hS
  obtain ⟨ws, h3, h4⟩ := h.hW
  exact ⟨⟨v, blk_below h1 hb, Kd.R_below h2 hb⟩, ⟨ws, blk_below h3 hb, h4⟩, blk_below h.hP hb, h.hZ, h.t5, h.p5, h.n1, h.n2, h.n3, h.b1, h.b2, Nat.le_trans h.b3 hb.size⟩
/-- The sink's own writing. -/
theorem St.sink (h : St w base Sg Wg T off SZ Pg PT ps pv xs) {v v' : Value} {ys : List Int} (h1 : w.heap[Sg]? = some (.cells #[v] 53 (0, 0))) (hr : (Kd.int .u8).R 5 w base (fun _ => True) v xs) (hk : Keep2 w w' Sg v) (h2 : w'.heap[Sg]? = some (.cells #[v'] 53 (0, 0))) (h3 : (Kd.int .u8).R 5 w' base (fun _ => True) v' ys) : St w' base Sg Wg T off SZ Pg PT ps pv ys := by
  obtain ⟨ws, h4, h5⟩ := h.hW
  have k1 : some Wg ≠ v.ownBlock := Kd.R_ne hr h4 (Ne.symm h.t5)
  have k2 : some Pg ≠ v.ownBlock := Kd.R_ne hr h.hP (Ne.symm h.p5)
  exact ⟨⟨v', h2, h3⟩, ⟨ws, (hk.2 Wg (blk_lt h4) (Ne.symm h.n1) k1).trans h4, h5⟩, (hk.2 Pg (blk_lt h.hP) (Ne.symm h.n2) k2).trans h.hP, h.hZ, h.t5, h.p5, h.n1, h.n2, h.n3, h.b1, h.b2, Nat.le_trans h.b3 hk.1⟩
/-- Bytes written into the writer's own array. -/
theorem St.bytes (h : St w base Sg Wg T off SZ Pg PT ps pv xs) {ws : Array Value} (hw : w.heap[Wg]? = some (.cells ws T (0, 0))) (o : Nat) (bs : List Int) (hb1 : w'.heap[Wg]? = some (.cells (setBytes ws (off + 1 + o) bs) T (0, 0))) (hl : o + bs.length ≤ 8) (hk : KeepBut w w' Wg none) : St w' base Sg Wg T off SZ Pg PT ps pv xs := by
  obtain ⟨v, h1, h2⟩ := h.hS
  obtain ⟨ws', h3, h4, h5, h6, h7⟩ := h.hW
  obtain rfl : ws' = ws := by
    have := h3.symm.trans hw
    injection this with this
    injection this
  have hz := h.hZ
  refine ⟨⟨v, (hk.2 Sg (blk_lt h1) h.n1 (by simp)).trans h1, Kd.R_mono (Kd.R_keep (Kd.R_types h2 h3 (ne5 h.t5)) hk (fun _ hk => hk.2)) (fun _ _ => trivial)⟩, ⟨_, hb1, by rw [setBytes_size, h4], by rw [setBytes_other _ _ _ _ (by omega)]; exact h5, by rw [setBytes_other _ _ _ _ (by omega)]; exact h6, fun i hi => ?_⟩, (hk.2 Pg (blk_lt h.hP) (Ne.symm h.n3) (by simp)).trans h.hP, h.hZ, h.t5, h.p5, h.n1, h.n2, h.n3, h.b1, h.b2, Nat.le_trans h.b3 hk.1⟩
  by_cases hi2 : i < o ∨ o + bs.length ≤ i
  · rw [setBytes_other _ _ _ _ (by omega)]
    exact h7 i hi
  · have := setBytes_at bs ws' (off + 1 + o) (i - o) (by omega) (by omega)
    rw [show off + 1 + o + (i - o) = off + 1 + i by omega] at this
    exact ⟨_, this⟩
end
set_option maxRecDepth 100000 in
theorem is_byte (S : Nat) (w : World) : Sem.run Try.prog (Instr.typeAssert (.iface 51 (.pointer (some ⟨S, 0, none⟩))) 155 199 true) w = .ok (.tuple #[.iface 51 (.pointer (some ⟨S, 0, none⟩)), .bool true]) w := by kernel_rfl
set_option maxRecDepth 100000 in
theorem no_string (S : Nat) (w : World) : Sem.run Try.prog (Instr.typeAssert (.iface 51 (.pointer (some ⟨S, 0, none⟩))) 155 202 true) w = .ok (.tuple #[.nilIface, .bool false]) w := run_typeAssert_lacksB (want := #[("WriteString", 204)]) (by kernel_rfl) (by kernel_rfl) (by kernel_rfl) _ _ w
set_option maxHeartbeats 4000000 in
set_option maxRecDepth 100000 in
theorem w_write (w : World) (base Sg Wg T off SZ Pg PT : Nat) (ps : Array Value) (pv : Value) (xs ys : List Int) (A : Option Addr) (c : Nat) (hst : St w base Sg Wg T off SZ Pg PT ps pv xs) (hy : (Kd.int .u8).C w A ys.length ys) (hl : xs.length + ys.length < 100000000000) :
    Calls Try.prog 96 #[.pointer (some ⟨Wg, off, none⟩), .slice A ys.length c] w fun e w' => e = .returned .nilIface ∧ St w' base Sg Wg T off SZ Pg PT ps pv (xs ++ ys) ∧ Below base w w' ∧ Rest w w' Sg Wg := by
  obtain ⟨v, h1, h2⟩ := hst.hS
  obtain ⟨ws, h3, h4, h5, h6, h7⟩ := hst.hW
  have hc9 : w.cell? ⟨Wg, off + 9, none⟩ = some (.iface 51 (.pointer (some ⟨Sg, 0, none⟩))) := (blk_cell h3 (off + 9)).trans h6
  have HW := Aside0.mk (sink_write w Sg base v xs ys A c h1 h2 hy hst.b1 hst.b3 hl)
  have HST := Aside0.mk hst
  have H1 := Aside0.mk h1
  have H2 := Aside0.mk h2
  clear hst h1 h2 h3 h4 h5 h6 h7 hy
  go_enter Try.func96, Try.ntmps96
  go_wp2_with (go_at_call 147; (with_reducible refine HW.out.mono ?_); rintro e w1 ⟨rfl, hk, hb, v', hs', hr', ha'⟩; have HS2 := Aside0.mk (HST.out.sink H1.out H2.out hk hs' hr'); have HB := Aside0.mk hb; have HRS := Aside0.mk (Rest.sink (Wg := Wg) H1.out hk hs' ha'); clear hk hb hs' hr' ha')
  go_ret
  exact ⟨rfl, HS2.out, HB.out, HRS.out⟩
set_option maxHeartbeats 4000000 in
set_option maxRecDepth 100000 in
theorem w_byte (w : World) (base Sg Wg T off SZ Pg PT : Nat) (ps : Array Value) (pv : Value) (xs : List Int) (b : Int) (hst : St w base Sg Wg T off SZ Pg PT ps pv xs) (hl : xs.length < 100000000000) :
    Calls Try.prog 95 #[.pointer (some ⟨Wg, off, none⟩), .int .u8 b] w fun e w' => e = .returned .nilIface ∧ St w' base Sg Wg T off SZ Pg PT ps pv (xs ++ [b]) ∧ Below base w w' ∧ Rest w w' Sg Wg := by
  obtain ⟨v, h1, h2⟩ := hst.hS
  obtain ⟨ws, h3, h4, h5, h6, h7⟩ := hst.hW
  have hc9 : w.cell? ⟨Wg, off + 9, none⟩ = some (.iface 51 (.pointer (some ⟨Sg, 0, none⟩))) := (blk_cell h3 (off + 9)).trans h6
  have hta := is_byte Sg
  have HW := Aside0.mk (sink_byte w Sg base v xs b h1 h2 hst.b1 hst.b3 hl)
  have HST := Aside0.mk hst
  have H1 := Aside0.mk h1
  have H2 := Aside0.mk h2
  clear hst h1 h2 h3 h4 h5 h6 h7
  go_enter Try.func95, Try.ntmps95
  go_wp2_with (go_at_call 43; (with_reducible refine HW.out.mono ?_); rintro e w1 ⟨rfl, hk, hb, v', hs', hr', ha'⟩; have HS2 := Aside0.mk (HST.out.sink H1.out H2.out hk hs' hr'); have HB := Aside0.mk hb; have HRS := Aside0.mk (Rest.sink (Wg := Wg) H1.out hk hs' ha'); clear hk hb hs' hr' ha')
  go_ret
  exact ⟨rfl, HS2.out, HB.out, HRS.out⟩
set_option maxHeartbeats 4000000 in
set_option maxRecDepth 100000 in
theorem w_string (w : World) (base Sg Wg T off SZ Pg PT : Nat) (ps : Array Value) (pv : Value) (xs : List Int) (S : ByteArray) (hst : St w base Sg Wg T off SZ Pg PT ps pv xs) (hl : xs.length + S.size < 100000000000) :
    Calls Try.prog 100 #[.pointer (some ⟨Wg, off, none⟩), .string S] w fun e w' => e = .returned .nilIface ∧ St w' base Sg Wg T off SZ Pg PT ps pv (xs ++ bytesOf S) ∧ Below base w w' ∧ Rest w w' Sg Wg := by
  obtain ⟨v, h1, h2⟩ := hst.hS
  obtain ⟨ws, h3, h4, h5, h6, h7⟩ := hst.hW
  have hc9 : w.cell? ⟨Wg, off + 9, none⟩ = some (.iface 51 (.pointer (some ⟨Sg, 0, none⟩))) := (blk_cell h3 (off + 9)).trans h6
  have kb := print_bytes (P := Try.prog) 9 26 5 Try.underlying9 Try.underlying26 Try.underlying5 S w
  have hrd := bytes_reads w 5 S (by omega)
  have hbw := bytes_below (Below.refl w.heap.size w) (Nat.le_refl _) 5 S
  have hlen := bytesOf_length S
  obtain ⟨C, hC⟩ : ∃ C, C = grownCap w S.size 0 5 := ⟨_, rfl⟩
  obtain ⟨W, hW⟩ : ∃ W, W = Lib.bytesWorld w 5 S := ⟨_, rfl⟩
  rw [← hC, ← hW] at kb
  rw [← hW] at hrd hbw
  have hst2 := hst.below hbw
  have hCw : (Kd.int .u8).C W (some ⟨w.heap.size, 0, none⟩) (bytesOf S).length (bytesOf S) := by rw [hlen]; exact Kd.C_of_reads (d := 0) hrd
  have h1W := blk_below h1 hbw
  have h2W := Kd.R_below h2 hbw
  have hta := no_string Sg
  have HW := Aside0.mk (sink_write W Sg base v xs (bytesOf S) (some ⟨w.heap.size, 0, none⟩) C h1W h2W hCw hst.b1 (Nat.le_trans hst.b3 hbw.size) (by omega))
  rw [hlen] at HW
  have HST := Aside0.mk hst2
  have H1 := Aside0.mk h1W
  have H2 := Aside0.mk h2W
  have HRW := Aside0.mk (Rest.below (Sg := Sg) (Wg := Wg) hbw)
  have HBW := Aside0.mk (hbw.mono hst.b3)
  clear hst h1 h2 h3 h4 h5 h6 h7 hC hW hrd hbw hst2 hCw h1W h2W hlen
  go_enter Try.func100, Try.ntmps100
  go_wp2_with (first | (go_at_call 147; (with_reducible refine HW.out.mono ?_); rintro e w1 ⟨rfl, hk, hb, v', hs', hr', ha'⟩; have HS2 := Aside0.mk (HST.out.sink H1.out H2.out hk hs' hr'); have HB := Aside0.mk (HBW.out.trans hb); have HRS := Aside0.mk (Rest.sink (Wg := Wg) H1.out hk hs' ha'); clear hk hb hs' hr' ha') | go_in)
  go_ret
  exact ⟨rfl, HS2.out, HB.out, HRW.out.trans HRS.out⟩
end Go.Proofs.Ytmjilokgpgajjaa.Th
