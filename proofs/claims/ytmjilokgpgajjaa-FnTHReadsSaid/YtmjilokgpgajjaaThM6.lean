/- Merged by merge.py (wip/tpl) out of ThSpecF, ThSpecG: Written by thspec3.py (wip/tpl): one call's bytes by the compact protocol, as the definition tells them. Written by thspec3.py (wip/tpl): one call's bytes by the compact protocol, as the definition tells them. -/
import Derived.Test.YtmjilokgpgajjaaThM3
namespace Go.Proofs.Ytmjilokgpgajjaa.Th
open Go.RowKit Go.Proofs.YtmjilokgpgajjaaW.PrintWords Go.Proofs.YtmjilokgpgajjaaW.PrintLast Go.Proofs.YtmjilokgpgajjaaW.PrintMore Go.Proofs.Ytmjilokgpgajjaa.PFnTHWrites
set_option linter.unusedVariables false
set_option linter.unusedSimpArgs false

set_option maxHeartbeats 8000000 in
set_option maxRecDepth 100000 in
theorem thc_11l (n : Int) (S : ByteArray) (a : Int) (b : Int) (d : Bool) (w : World) (hS : S.size < 2147483648) (j0 : Nat) (hj0 : j0 < 10) (hn0 : nb j0 (S.size : Int)) (ha : a ≠ 0) (h0 : 16 ≤ n) (h1 : n < 9223372036854775808) (j : Nat) (hj : j < 10) (hn : nb j (zig n)) :
    Calls Try.prog 18 #[.agg #[.int .i64 11, .int .i64 n, .string S, .int .i64 a, .int .i64 b, .bool d]] w fun e w' => ∃ v, e = .returned v ∧ (Kd.int .u8).R 5 w' w.heap.size (fun _ => True) v ([IntKind.u8.wrap a] ++ vbytes j (zig n)) ∧ Below w.heap.size w w' := by
  have HS := Aside0.mk (wrvarw (S.size : Int) (by omega) (by omega) j0 hj0 hn0)
  have HVL := Aside0.mk (show (vbytes j0 (S.size : Int)).length < 20 by rw [vbytes_len]; omega)
  have ha2 : (a == 0) = false := by simpa using ha
  have hn2 : decide (n < 16) = false := by simpa using h0
  have HZ := Aside0.mk (fun w => zigs n (by omega) (by omega) w)
  have HN := Aside0.mk (wrvar j 11 (zig n) hn (by omega) hj)
  have HNL := Aside0.mk (show (vbytes j (zig n)).length < 20 by rw [vbytes_len]; omega)
  clear hj0 hn0 ha h0 h1 hj hn
  go_enter Try.func18, Try.ntmps18
  go_upto_region 1 with ((with_reducible refine gate_dst (N := 1) rfl ?_); refine box_event ?xhg (N := 1) ?xhd (cs := #[.int .i64 11, .int .i64 n, .string S, .int .i64 a, .int .i64 b, .bool d]) (t := 30) ?xhr ?_; (case xhd => rfl); (case xhg => rfl); (case xhr => first | (go_simp; done) | (go_simp; rfl)); intro G hG W hb1 hg1; have BK := Aside0.mk hb1; have HB := Aside0.mk hg1; have hlt := blk_lt hb1; have c2 := (blk_cell hb1 2).trans rfl; clear hb1 hg1 hG)
  have BKD := Aside0.mk (show W.drew.heap[G]? = some (.cells #[.int .i64 11, .int .i64 n, .string S, .int .i64 a, .int .i64 b, .bool d] 30 (0, 0)) from BK.out)
  have HBD := Aside0.mk (below_drew HB.out)
  have hsz := HBD.out.size
  go_cut [3] (fun s3 wx => Aside0 (wx.heap[G]? = some (.cells #[.int .i64 11, .int .i64 n, .string S, .int .i64 a, .int .i64 b, .bool d] 30 (0, 0))) ∧ Aside0 (Below w.heap.size w wx) ∧ Aside0 ((Kd.int .u8).R 5 wx w.heap.size (fun _ => True) s3 (vbytes j0 (S.size : Int) ++ bytesOf S)))
  case first =>
   go_region_law (first
    | (refine str_step (w0 := w) w.heap.size (by simp [Region.wanted]) (.tmp 8) (.tmp 10) 26 9 5 rfl Try.underlying26 Try.underlying9 info5 _ (vbytes j0 (S.size : Int)) S rfl rfl HR1.out HB1.out HB1.out.size (by have := HVL.out; omega) ?_; intro v1 w3 ho hb hg; have BK3 := Aside0.mk (blk_grown BK1.out hg (Kd.R_ne HR1.out BK1.out (by decide))); have HB3 := Aside0.mk hb; have HR3 := Aside0.mk ho; clear ho hb hg)
    | (go_simp; go_at_call 24; (with_reducible refine (spec_WRVar.calls 11 _ _ _ HS.out).mono ?_); rintro e w1 ⟨v0, rfl, ho, hb⟩; have BK1 := Aside0.mk (blk_below BKD.out hb); have HB1 := Aside0.mk (HBD.out.trans (hb.mono hsz)); have HR1 := Aside0.mk (Kd.R_lower ho hsz); have c2b : w1.cell? ⟨G, 2, none⟩ = some (.string S) := (blk_cell BK1.out 2).trans rfl; clear ho hb))
   all_goals
    go_wp2_with fail
    go_meet
    exact ⟨BK3, HB3, HR3⟩
  case rest =>
   obtain ⟨BK4, HB4, HR4⟩ := hcut
   have q0 : wc.cell? ⟨G, 0, none⟩ = some (.int .i64 11) := (blk_cell BK4.out 0).trans rfl
   have q1 : wc.cell? ⟨G, 1, none⟩ = some (.int .i64 n) := (blk_cell BK4.out 1).trans rfl
   have q3 : wc.cell? ⟨G, 3, none⟩ = some (.int .i64 a) := (blk_cell BK4.out 3).trans rfl
   have q4 : wc.cell? ⟨G, 4, none⟩ = some (.int .i64 b) := (blk_cell BK4.out 4).trans rfl
   have hsz4 := HB4.out.size
   have BD := Aside0.mk (show wc.drew.heap[G]? = some (.cells #[.int .i64 11, .int .i64 n, .string S, .int .i64 a, .int .i64 b, .bool d] 30 (0, 0)) from BK4.out)
   have HBD4 := Aside0.mk (below_drew HB4.out)
   have hsD := HBD4.out.size
   have HBX := Aside0.mk (below_drew (below_alloc HB4.out (.cells #[.int .u8 (IntKind.u8.wrap a)] 5)))
   have hsX := HBX.out.size
   have BX := Aside0.mk (blk_below BK4.out (below_drew (below_alloc (Below.refl _ wc) (.cells #[.int .u8 (IntKind.u8.wrap a)] 5))))
   have HRX := Aside0.mk (Kd.R_below (R_litw wc w.heap.size hsz4 [IntKind.u8.wrap a] (by simp)) (below_drew (Below.refl _ _)))
   have a1 : (wc.alloc (.cells #[.int .u8 (IntKind.u8.wrap a)] 5)).drew.cell? ⟨G, 1, none⟩ = some (.int .i64 n) := (blk_cell BX.out 1).trans rfl
   have hlt4 := blk_lt BK4.out
   go_wp2_with fail
   go_region_law (first
    | (refine Kd.R_append_rows_step (Kd.int .u8) (w0 := w) w.heap.size (by simp [Region.wanted]) (.tmp 79) (.tmp 83) 26 5 (.int .u8 0) 1 rfl Try.underlying26 info5 rfl (by decide) (by decide) _ [IntKind.u8.wrap a] (vbytes j (zig n)) _ _ _ (fun _ => True) (fun _ => False) rfl rfl HRL.out HCY.out (fun _ _ h => h) (fun _ h => h.elim) (fun _ _ => trivial) HBL.out HBL.out.size (by have := HNL.out; simp; omega) ?_;  intro v2 w2 ho hb hg hat; have HR9 := Aside0.mk ho; have HB9 := Aside0.mk hb; clear ho hb hg hat)
    | (go_simp; go_at_call 25; (with_reducible refine (HZ.out _).mono ?_); rintro e wz ⟨rfl, rfl⟩)
    | (go_simp; go_at_call 24; (with_reducible refine (spec_WRVar.calls 11 _ _ wc.drew HN.out).mono ?_); rintro e w1 ⟨v5, rfl, ho, hb⟩; obtain ⟨A5, c5, rfl, hc5, hC5⟩ := Kd.R_reads ho; have HB1 := Aside0.mk (HBD4.out.trans (hb.mono hsD)); have BK1 := Aside0.mk (blk_below BD.out hb); have b3 : w1.cell? ⟨G, 3, none⟩ = some (.int .i64 a) := (blk_cell BK1.out 3).trans rfl; have b4 : w1.cell? ⟨G, 4, none⟩ = some (.int .i64 b) := (blk_cell BK1.out 4).trans rfl; have HRL := Aside0.mk (R_litw w1 w.heap.size HB1.out.size [IntKind.u8.wrap a] (by simp)); have HCY := Aside0.mk (Kd.C_alloc hC5 (.cells #[.int .u8 (IntKind.u8.wrap a)] 5)); have HBL := Aside0.mk (below_alloc HB1.out (.cells #[.int .u8 (IntKind.u8.wrap a)] 5)); clear ho hb hC5)
    | (go_simp; go_at_call 24; (with_reducible refine (spec_WRVar.calls 11 _ _ (wc.alloc (.cells #[.int .u8 (IntKind.u8.wrap a)] 5)).drew HN.out).mono ?_); rintro e w1 ⟨v5, rfl, ho, hb⟩; obtain ⟨A5, c5, rfl, hc5, hC5⟩ := Kd.R_reads ho; have HBL := Aside0.mk (HBX.out.trans (hb.mono hsX)); have HRL := Aside0.mk (Kd.R_below HRX.out hb); have HCY := Aside0.mk hC5; clear ho hb hC5))
   all_goals
    go_wp2_with fail
    go_ret
    exact ⟨v2, rfl, HR9.out, HB9.out⟩

set_option maxHeartbeats 8000000 in
set_option maxRecDepth 100000 in
theorem thc_12l (n : Int) (S : ByteArray) (a : Int) (b : Int) (d : Bool) (w : World) (hS : S.size < 2147483648) (j0 : Nat) (hj0 : j0 < 10) (hn0 : nb j0 (S.size : Int)) (h0 : 15 ≤ n) (h1 : n < 2147483648) (j : Nat) (hj : j < 10) (hn : nb j n) :
    Calls Try.prog 18 #[.agg #[.int .i64 12, .int .i64 n, .string S, .int .i64 a, .int .i64 b, .bool d]] w fun e w' => ∃ v, e = .returned v ∧ (Kd.int .u8).R 5 w' w.heap.size (fun _ => True) v ([Go.bits .or .u8 240 (IntKind.u8.wrap a)] ++ vbytes j n) ∧ Below w.heap.size w w' := by
  have HS := Aside0.mk (wrvarw (S.size : Int) (by omega) (by omega) j0 hj0 hn0)
  have HVL := Aside0.mk (show (vbytes j0 (S.size : Int)).length < 20 by rw [vbytes_len]; omega)
  have hn2 : decide (n < 15) = false := by simpa using h0
  have HN := Aside0.mk (wrvarw n (by omega) (by omega) j hj hn)
  have HNL := Aside0.mk (show (vbytes j n).length < 20 by rw [vbytes_len]; omega)
  clear hj0 hn0 h0 h1 hj hn
  go_enter Try.func18, Try.ntmps18
  go_upto_region 1 with ((with_reducible refine gate_dst (N := 1) rfl ?_); refine box_event ?xhg (N := 1) ?xhd (cs := #[.int .i64 12, .int .i64 n, .string S, .int .i64 a, .int .i64 b, .bool d]) (t := 30) ?xhr ?_; (case xhd => rfl); (case xhg => rfl); (case xhr => first | (go_simp; done) | (go_simp; rfl)); intro G hG W hb1 hg1; have BK := Aside0.mk hb1; have HB := Aside0.mk hg1; have hlt := blk_lt hb1; have c2 := (blk_cell hb1 2).trans rfl; clear hb1 hg1 hG)
  have BKD := Aside0.mk (show W.drew.heap[G]? = some (.cells #[.int .i64 12, .int .i64 n, .string S, .int .i64 a, .int .i64 b, .bool d] 30 (0, 0)) from BK.out)
  have HBD := Aside0.mk (below_drew HB.out)
  have hsz := HBD.out.size
  go_cut [3] (fun s3 wx => Aside0 (wx.heap[G]? = some (.cells #[.int .i64 12, .int .i64 n, .string S, .int .i64 a, .int .i64 b, .bool d] 30 (0, 0))) ∧ Aside0 (Below w.heap.size w wx) ∧ Aside0 ((Kd.int .u8).R 5 wx w.heap.size (fun _ => True) s3 (vbytes j0 (S.size : Int) ++ bytesOf S)))
  case first =>
   go_region_law (first
    | (refine str_step (w0 := w) w.heap.size (by simp [Region.wanted]) (.tmp 8) (.tmp 10) 26 9 5 rfl Try.underlying26 Try.underlying9 info5 _ (vbytes j0 (S.size : Int)) S rfl rfl HR1.out HB1.out HB1.out.size (by have := HVL.out; omega) ?_; intro v1 w3 ho hb hg; have BK3 := Aside0.mk (blk_grown BK1.out hg (Kd.R_ne HR1.out BK1.out (by decide))); have HB3 := Aside0.mk hb; have HR3 := Aside0.mk ho; clear ho hb hg)
    | (go_simp; go_at_call 24; (with_reducible refine (spec_WRVar.calls 11 _ _ _ HS.out).mono ?_); rintro e w1 ⟨v0, rfl, ho, hb⟩; have BK1 := Aside0.mk (blk_below BKD.out hb); have HB1 := Aside0.mk (HBD.out.trans (hb.mono hsz)); have HR1 := Aside0.mk (Kd.R_lower ho hsz); have c2b : w1.cell? ⟨G, 2, none⟩ = some (.string S) := (blk_cell BK1.out 2).trans rfl; clear ho hb))
   all_goals
    go_wp2_with fail
    go_meet
    exact ⟨BK3, HB3, HR3⟩
  case rest =>
   obtain ⟨BK4, HB4, HR4⟩ := hcut
   have q0 : wc.cell? ⟨G, 0, none⟩ = some (.int .i64 12) := (blk_cell BK4.out 0).trans rfl
   have q1 : wc.cell? ⟨G, 1, none⟩ = some (.int .i64 n) := (blk_cell BK4.out 1).trans rfl
   have q3 : wc.cell? ⟨G, 3, none⟩ = some (.int .i64 a) := (blk_cell BK4.out 3).trans rfl
   have q4 : wc.cell? ⟨G, 4, none⟩ = some (.int .i64 b) := (blk_cell BK4.out 4).trans rfl
   have hsz4 := HB4.out.size
   have BD := Aside0.mk (show wc.drew.heap[G]? = some (.cells #[.int .i64 12, .int .i64 n, .string S, .int .i64 a, .int .i64 b, .bool d] 30 (0, 0)) from BK4.out)
   have HBD4 := Aside0.mk (below_drew HB4.out)
   have hsD := HBD4.out.size
   have HBX := Aside0.mk (below_drew (below_alloc HB4.out (.cells #[.int .u8 (Go.bits .or .u8 240 (IntKind.u8.wrap a))] 5)))
   have hsX := HBX.out.size
   have BX := Aside0.mk (blk_below BK4.out (below_drew (below_alloc (Below.refl _ wc) (.cells #[.int .u8 (Go.bits .or .u8 240 (IntKind.u8.wrap a))] 5))))
   have HRX := Aside0.mk (Kd.R_below (R_litw wc w.heap.size hsz4 [Go.bits .or .u8 240 (IntKind.u8.wrap a)] (by simp)) (below_drew (Below.refl _ _)))
   have a1 : (wc.alloc (.cells #[.int .u8 (Go.bits .or .u8 240 (IntKind.u8.wrap a))] 5)).drew.cell? ⟨G, 1, none⟩ = some (.int .i64 n) := (blk_cell BX.out 1).trans rfl
   have hlt4 := blk_lt BK4.out
   go_wp2_with fail
   go_region_law (first
    | (refine Kd.R_append_rows_step (Kd.int .u8) (w0 := w) w.heap.size (by simp [Region.wanted]) (.tmp 121) (.tmp 125) 26 5 (.int .u8 0) 1 rfl Try.underlying26 info5 rfl (by decide) (by decide) _ [Go.bits .or .u8 240 (IntKind.u8.wrap a)] (vbytes j n) _ _ _ (fun _ => True) (fun _ => False) rfl rfl HRL.out HCY.out (fun _ _ h => h) (fun _ h => h.elim) (fun _ _ => trivial) HBL.out HBL.out.size (by have := HNL.out; simp; omega) ?_;  intro v2 w2 ho hb hg hat; have HR9 := Aside0.mk ho; have HB9 := Aside0.mk hb; clear ho hb hg hat)
    | (go_simp; go_at_call 24; (with_reducible refine (spec_WRVar.calls 11 _ _ wc.drew HN.out).mono ?_); rintro e w1 ⟨v5, rfl, ho, hb⟩; obtain ⟨A5, c5, rfl, hc5, hC5⟩ := Kd.R_reads ho; have HB1 := Aside0.mk (HBD4.out.trans (hb.mono hsD)); have BK1 := Aside0.mk (blk_below BD.out hb); have b3 : w1.cell? ⟨G, 3, none⟩ = some (.int .i64 a) := (blk_cell BK1.out 3).trans rfl; have b4 : w1.cell? ⟨G, 4, none⟩ = some (.int .i64 b) := (blk_cell BK1.out 4).trans rfl; have HRL := Aside0.mk (R_litw w1 w.heap.size HB1.out.size [Go.bits .or .u8 240 (IntKind.u8.wrap a)] (by simp)); have HCY := Aside0.mk (Kd.C_alloc hC5 (.cells #[.int .u8 (Go.bits .or .u8 240 (IntKind.u8.wrap a))] 5)); have HBL := Aside0.mk (below_alloc HB1.out (.cells #[.int .u8 (Go.bits .or .u8 240 (IntKind.u8.wrap a))] 5)); clear ho hb hC5)
    | (go_simp; go_at_call 24; (with_reducible refine (spec_WRVar.calls 11 _ _ (wc.alloc (.cells #[.int .u8 (Go.bits .or .u8 240 (IntKind.u8.wrap a))] 5)).drew HN.out).mono ?_); rintro e w1 ⟨v5, rfl, ho, hb⟩; obtain ⟨A5, c5, rfl, hc5, hC5⟩ := Kd.R_reads ho; have HBL := Aside0.mk (HBX.out.trans (hb.mono hsX)); have HRL := Aside0.mk (Kd.R_below HRX.out hb); have HCY := Aside0.mk hC5; clear ho hb hC5))
   all_goals
    go_wp2_with fail
    go_ret
    exact ⟨v2, rfl, HR9.out, HB9.out⟩

set_option maxHeartbeats 8000000 in
set_option maxRecDepth 100000 in
theorem thc_13l (n : Int) (S : ByteArray) (a : Int) (b : Int) (d : Bool) (w : World) (hS : S.size < 2147483648) (j0 : Nat) (hj0 : j0 < 10) (hn0 : nb j0 (S.size : Int)) (h0 : 15 ≤ n) (h1 : n < 2147483648) (j : Nat) (hj : j < 10) (hn : nb j n) :
    Calls Try.prog 18 #[.agg #[.int .i64 13, .int .i64 n, .string S, .int .i64 a, .int .i64 b, .bool d]] w fun e w' => ∃ v, e = .returned v ∧ (Kd.int .u8).R 5 w' w.heap.size (fun _ => True) v ([Go.bits .or .u8 240 (IntKind.u8.wrap a)] ++ vbytes j n) ∧ Below w.heap.size w w' := by
  have HS := Aside0.mk (wrvarw (S.size : Int) (by omega) (by omega) j0 hj0 hn0)
  have HVL := Aside0.mk (show (vbytes j0 (S.size : Int)).length < 20 by rw [vbytes_len]; omega)
  have hn2 : decide (n < 15) = false := by simpa using h0
  have HN := Aside0.mk (wrvarw n (by omega) (by omega) j hj hn)
  have HNL := Aside0.mk (show (vbytes j n).length < 20 by rw [vbytes_len]; omega)
  clear hj0 hn0 h0 h1 hj hn
  go_enter Try.func18, Try.ntmps18
  go_upto_region 1 with ((with_reducible refine gate_dst (N := 1) rfl ?_); refine box_event ?xhg (N := 1) ?xhd (cs := #[.int .i64 13, .int .i64 n, .string S, .int .i64 a, .int .i64 b, .bool d]) (t := 30) ?xhr ?_; (case xhd => rfl); (case xhg => rfl); (case xhr => first | (go_simp; done) | (go_simp; rfl)); intro G hG W hb1 hg1; have BK := Aside0.mk hb1; have HB := Aside0.mk hg1; have hlt := blk_lt hb1; have c2 := (blk_cell hb1 2).trans rfl; clear hb1 hg1 hG)
  have BKD := Aside0.mk (show W.drew.heap[G]? = some (.cells #[.int .i64 13, .int .i64 n, .string S, .int .i64 a, .int .i64 b, .bool d] 30 (0, 0)) from BK.out)
  have HBD := Aside0.mk (below_drew HB.out)
  have hsz := HBD.out.size
  go_cut [3] (fun s3 wx => Aside0 (wx.heap[G]? = some (.cells #[.int .i64 13, .int .i64 n, .string S, .int .i64 a, .int .i64 b, .bool d] 30 (0, 0))) ∧ Aside0 (Below w.heap.size w wx) ∧ Aside0 ((Kd.int .u8).R 5 wx w.heap.size (fun _ => True) s3 (vbytes j0 (S.size : Int) ++ bytesOf S)))
  case first =>
   go_region_law (first
    | (refine str_step (w0 := w) w.heap.size (by simp [Region.wanted]) (.tmp 8) (.tmp 10) 26 9 5 rfl Try.underlying26 Try.underlying9 info5 _ (vbytes j0 (S.size : Int)) S rfl rfl HR1.out HB1.out HB1.out.size (by have := HVL.out; omega) ?_; intro v1 w3 ho hb hg; have BK3 := Aside0.mk (blk_grown BK1.out hg (Kd.R_ne HR1.out BK1.out (by decide))); have HB3 := Aside0.mk hb; have HR3 := Aside0.mk ho; clear ho hb hg)
    | (go_simp; go_at_call 24; (with_reducible refine (spec_WRVar.calls 11 _ _ _ HS.out).mono ?_); rintro e w1 ⟨v0, rfl, ho, hb⟩; have BK1 := Aside0.mk (blk_below BKD.out hb); have HB1 := Aside0.mk (HBD.out.trans (hb.mono hsz)); have HR1 := Aside0.mk (Kd.R_lower ho hsz); have c2b : w1.cell? ⟨G, 2, none⟩ = some (.string S) := (blk_cell BK1.out 2).trans rfl; clear ho hb))
   all_goals
    go_wp2_with fail
    go_meet
    exact ⟨BK3, HB3, HR3⟩
  case rest =>
   obtain ⟨BK4, HB4, HR4⟩ := hcut
   have q0 : wc.cell? ⟨G, 0, none⟩ = some (.int .i64 13) := (blk_cell BK4.out 0).trans rfl
   have q1 : wc.cell? ⟨G, 1, none⟩ = some (.int .i64 n) := (blk_cell BK4.out 1).trans rfl
   have q3 : wc.cell? ⟨G, 3, none⟩ = some (.int .i64 a) := (blk_cell BK4.out 3).trans rfl
   have q4 : wc.cell? ⟨G, 4, none⟩ = some (.int .i64 b) := (blk_cell BK4.out 4).trans rfl
   have hsz4 := HB4.out.size
   have BD := Aside0.mk (show wc.drew.heap[G]? = some (.cells #[.int .i64 13, .int .i64 n, .string S, .int .i64 a, .int .i64 b, .bool d] 30 (0, 0)) from BK4.out)
   have HBD4 := Aside0.mk (below_drew HB4.out)
   have hsD := HBD4.out.size
   have HBX := Aside0.mk (below_drew (below_alloc HB4.out (.cells #[.int .u8 (Go.bits .or .u8 240 (IntKind.u8.wrap a))] 5)))
   have hsX := HBX.out.size
   have BX := Aside0.mk (blk_below BK4.out (below_drew (below_alloc (Below.refl _ wc) (.cells #[.int .u8 (Go.bits .or .u8 240 (IntKind.u8.wrap a))] 5))))
   have HRX := Aside0.mk (Kd.R_below (R_litw wc w.heap.size hsz4 [Go.bits .or .u8 240 (IntKind.u8.wrap a)] (by simp)) (below_drew (Below.refl _ _)))
   have a1 : (wc.alloc (.cells #[.int .u8 (Go.bits .or .u8 240 (IntKind.u8.wrap a))] 5)).drew.cell? ⟨G, 1, none⟩ = some (.int .i64 n) := (blk_cell BX.out 1).trans rfl
   have hlt4 := blk_lt BK4.out
   go_wp2_with fail
   go_region_law (first
    | (refine Kd.R_append_rows_step (Kd.int .u8) (w0 := w) w.heap.size (by simp [Region.wanted]) (.tmp 121) (.tmp 125) 26 5 (.int .u8 0) 1 rfl Try.underlying26 info5 rfl (by decide) (by decide) _ [Go.bits .or .u8 240 (IntKind.u8.wrap a)] (vbytes j n) _ _ _ (fun _ => True) (fun _ => False) rfl rfl HRL.out HCY.out (fun _ _ h => h) (fun _ h => h.elim) (fun _ _ => trivial) HBL.out HBL.out.size (by have := HNL.out; simp; omega) ?_;  intro v2 w2 ho hb hg hat; have HR9 := Aside0.mk ho; have HB9 := Aside0.mk hb; clear ho hb hg hat)
    | (go_simp; go_at_call 24; (with_reducible refine (spec_WRVar.calls 11 _ _ wc.drew HN.out).mono ?_); rintro e w1 ⟨v5, rfl, ho, hb⟩; obtain ⟨A5, c5, rfl, hc5, hC5⟩ := Kd.R_reads ho; have HB1 := Aside0.mk (HBD4.out.trans (hb.mono hsD)); have BK1 := Aside0.mk (blk_below BD.out hb); have b3 : w1.cell? ⟨G, 3, none⟩ = some (.int .i64 a) := (blk_cell BK1.out 3).trans rfl; have b4 : w1.cell? ⟨G, 4, none⟩ = some (.int .i64 b) := (blk_cell BK1.out 4).trans rfl; have HRL := Aside0.mk (R_litw w1 w.heap.size HB1.out.size [Go.bits .or .u8 240 (IntKind.u8.wrap a)] (by simp)); have HCY := Aside0.mk (Kd.C_alloc hC5 (.cells #[.int .u8 (Go.bits .or .u8 240 (IntKind.u8.wrap a))] 5)); have HBL := Aside0.mk (below_alloc HB1.out (.cells #[.int .u8 (Go.bits .or .u8 240 (IntKind.u8.wrap a))] 5)); clear ho hb hC5)
    | (go_simp; go_at_call 24; (with_reducible refine (spec_WRVar.calls 11 _ _ (wc.alloc (.cells #[.int .u8 (Go.bits .or .u8 240 (IntKind.u8.wrap a))] 5)).drew HN.out).mono ?_); rintro e w1 ⟨v5, rfl, ho, hb⟩; obtain ⟨A5, c5, rfl, hc5, hC5⟩ := Kd.R_reads ho; have HBL := Aside0.mk (HBX.out.trans (hb.mono hsX)); have HRL := Aside0.mk (Kd.R_below HRX.out hb); have HCY := Aside0.mk hC5; clear ho hb hC5))
   all_goals
    go_wp2_with fail
    go_ret
    exact ⟨v2, rfl, HR9.out, HB9.out⟩
end Go.Proofs.Ytmjilokgpgajjaa.Th

namespace Go.Proofs.Ytmjilokgpgajjaa.Th
open Go.RowKit Go.Proofs.YtmjilokgpgajjaaW.PrintWords Go.Proofs.YtmjilokgpgajjaaW.PrintLast Go.Proofs.YtmjilokgpgajjaaW.PrintMore Go.Proofs.Ytmjilokgpgajjaa.PFnTHWrites
set_option linter.unusedVariables false
set_option linter.unusedSimpArgs false

set_option maxHeartbeats 8000000 in
set_option maxRecDepth 100000 in
theorem thc_14l (n : Int) (S : ByteArray) (a : Int) (b : Int) (d : Bool) (w : World) (hS : S.size < 2147483648) (j0 : Nat) (hj0 : j0 < 10) (hn0 : nb j0 (S.size : Int)) (h0 : 0 < n) (h1 : n < 2147483648) (j : Nat) (hj : j < 10) (hn : nb j n) :
    Calls Try.prog 18 #[.agg #[.int .i64 14, .int .i64 n, .string S, .int .i64 a, .int .i64 b, .bool d]] w fun e w' => ∃ v, e = .returned v ∧ (Kd.int .u8).R 5 w' w.heap.size (fun _ => True) v (vbytes j n ++ [Go.bits .or .u8 (IntKind.u8.wrap (IntKind.u8.wrap a * 16)) (IntKind.u8.wrap b)]) ∧ Below w.heap.size w w' := by
  have HS := Aside0.mk (wrvarw (S.size : Int) (by omega) (by omega) j0 hj0 hn0)
  have HVL := Aside0.mk (show (vbytes j0 (S.size : Int)).length < 20 by rw [vbytes_len]; omega)
  have hn2 : (n == 0) = false := by simp; omega
  have HN := Aside0.mk (wrvarw n (by omega) (by omega) j hj hn)
  have HNL := Aside0.mk (show (vbytes j n).length < 20 by rw [vbytes_len]; omega)
  clear hj0 hn0 h0 h1 hj hn
  go_enter Try.func18, Try.ntmps18
  go_upto_region 1 with ((with_reducible refine gate_dst (N := 1) rfl ?_); refine box_event ?xhg (N := 1) ?xhd (cs := #[.int .i64 14, .int .i64 n, .string S, .int .i64 a, .int .i64 b, .bool d]) (t := 30) ?xhr ?_; (case xhd => rfl); (case xhg => rfl); (case xhr => first | (go_simp; done) | (go_simp; rfl)); intro G hG W hb1 hg1; have BK := Aside0.mk hb1; have HB := Aside0.mk hg1; have hlt := blk_lt hb1; have c2 := (blk_cell hb1 2).trans rfl; clear hb1 hg1 hG)
  have BKD := Aside0.mk (show W.drew.heap[G]? = some (.cells #[.int .i64 14, .int .i64 n, .string S, .int .i64 a, .int .i64 b, .bool d] 30 (0, 0)) from BK.out)
  have HBD := Aside0.mk (below_drew HB.out)
  have hsz := HBD.out.size
  go_cut [3] (fun s3 wx => Aside0 (wx.heap[G]? = some (.cells #[.int .i64 14, .int .i64 n, .string S, .int .i64 a, .int .i64 b, .bool d] 30 (0, 0))) ∧ Aside0 (Below w.heap.size w wx) ∧ Aside0 ((Kd.int .u8).R 5 wx w.heap.size (fun _ => True) s3 (vbytes j0 (S.size : Int) ++ bytesOf S)))
  case first =>
   go_region_law (first
    | (refine str_step (w0 := w) w.heap.size (by simp [Region.wanted]) (.tmp 8) (.tmp 10) 26 9 5 rfl Try.underlying26 Try.underlying9 info5 _ (vbytes j0 (S.size : Int)) S rfl rfl HR1.out HB1.out HB1.out.size (by have := HVL.out; omega) ?_; intro v1 w3 ho hb hg; have BK3 := Aside0.mk (blk_grown BK1.out hg (Kd.R_ne HR1.out BK1.out (by decide))); have HB3 := Aside0.mk hb; have HR3 := Aside0.mk ho; clear ho hb hg)
    | (go_simp; go_at_call 24; (with_reducible refine (spec_WRVar.calls 11 _ _ _ HS.out).mono ?_); rintro e w1 ⟨v0, rfl, ho, hb⟩; have BK1 := Aside0.mk (blk_below BKD.out hb); have HB1 := Aside0.mk (HBD.out.trans (hb.mono hsz)); have HR1 := Aside0.mk (Kd.R_lower ho hsz); have c2b : w1.cell? ⟨G, 2, none⟩ = some (.string S) := (blk_cell BK1.out 2).trans rfl; clear ho hb))
   all_goals
    go_wp2_with fail
    go_meet
    exact ⟨BK3, HB3, HR3⟩
  case rest =>
   obtain ⟨BK4, HB4, HR4⟩ := hcut
   have q0 : wc.cell? ⟨G, 0, none⟩ = some (.int .i64 14) := (blk_cell BK4.out 0).trans rfl
   have q1 : wc.cell? ⟨G, 1, none⟩ = some (.int .i64 n) := (blk_cell BK4.out 1).trans rfl
   have q3 : wc.cell? ⟨G, 3, none⟩ = some (.int .i64 a) := (blk_cell BK4.out 3).trans rfl
   have q4 : wc.cell? ⟨G, 4, none⟩ = some (.int .i64 b) := (blk_cell BK4.out 4).trans rfl
   have hsz4 := HB4.out.size
   have BD := Aside0.mk (show wc.drew.heap[G]? = some (.cells #[.int .i64 14, .int .i64 n, .string S, .int .i64 a, .int .i64 b, .bool d] 30 (0, 0)) from BK4.out)
   have HBD4 := Aside0.mk (below_drew HB4.out)
   have hsD := HBD4.out.size
   have HBX := Aside0.mk (below_drew (below_alloc HB4.out (.cells #[.int .u8 (Go.bits .or .u8 (IntKind.u8.wrap (IntKind.u8.wrap a * 16)) (IntKind.u8.wrap b))] 5)))
   have hsX := HBX.out.size
   have BX := Aside0.mk (blk_below BK4.out (below_drew (below_alloc (Below.refl _ wc) (.cells #[.int .u8 (Go.bits .or .u8 (IntKind.u8.wrap (IntKind.u8.wrap a * 16)) (IntKind.u8.wrap b))] 5))))
   have HRX := Aside0.mk (Kd.R_below (R_litw wc w.heap.size hsz4 [Go.bits .or .u8 (IntKind.u8.wrap (IntKind.u8.wrap a * 16)) (IntKind.u8.wrap b)] (by simp)) (below_drew (Below.refl _ _)))
   have a1 : (wc.alloc (.cells #[.int .u8 (Go.bits .or .u8 (IntKind.u8.wrap (IntKind.u8.wrap a * 16)) (IntKind.u8.wrap b))] 5)).drew.cell? ⟨G, 1, none⟩ = some (.int .i64 n) := (blk_cell BX.out 1).trans rfl
   have hlt4 := blk_lt BK4.out
   have a3 : (wc.alloc (.cells #[.int .u8 (Go.bits .or .u8 (IntKind.u8.wrap (IntKind.u8.wrap a * 16)) (IntKind.u8.wrap b))] 5)).drew.cell? ⟨G, 3, none⟩ = some (.int .i64 a) := (blk_cell BX.out 3).trans rfl
   have a4 : (wc.alloc (.cells #[.int .u8 (Go.bits .or .u8 (IntKind.u8.wrap (IntKind.u8.wrap a * 16)) (IntKind.u8.wrap b))] 5)).drew.cell? ⟨G, 4, none⟩ = some (.int .i64 b) := (blk_cell BX.out 4).trans rfl
   go_wp2_with fail
   go_region_law (first
    | (refine Kd.R_append_rows_step (Kd.int .u8) (w0 := w) w.heap.size (by simp [Region.wanted]) (.tmp 94) (.tmp 103) 26 5 (.int .u8 0) 1 rfl Try.underlying26 info5 rfl (by decide) (by decide) _ (vbytes j n) [Go.bits .or .u8 (IntKind.u8.wrap (IntKind.u8.wrap a * 16)) (IntKind.u8.wrap b)] _ _ _ (fun _ => True) (fun _ => False) rfl rfl HRL.out HCY.out (fun _ _ h => h) (fun _ h => h.elim) (fun _ _ => trivial) HBL.out HBL.out.size (by have := HNL.out; simp; omega) ?_;  intro v2 w2 ho hb hg hat; have HR9 := Aside0.mk ho; have HB9 := Aside0.mk hb; clear ho hb hg hat)
    | (go_simp; go_at_call 24; (with_reducible refine (spec_WRVar.calls 11 _ _ wc.drew HN.out).mono ?_); rintro e w1 ⟨v5, rfl, ho, hb⟩; have HB1 := Aside0.mk (HBD4.out.trans (hb.mono hsD)); have BK1 := Aside0.mk (blk_below BD.out hb); have b3 : w1.cell? ⟨G, 3, none⟩ = some (.int .i64 a) := (blk_cell BK1.out 3).trans rfl; have b4 : w1.cell? ⟨G, 4, none⟩ = some (.int .i64 b) := (blk_cell BK1.out 4).trans rfl; have HRL := Aside0.mk (Kd.R_below (Kd.R_lower ho hsD) (below_alloc (Below.refl _ w1) (.cells #[.int .u8 (Go.bits .or .u8 (IntKind.u8.wrap (IntKind.u8.wrap a * 16)) (IntKind.u8.wrap b))] 5))); have HCY := Aside0.mk (Kd.R_reads' (R_litw w1 w.heap.size HB1.out.size [Go.bits .or .u8 (IntKind.u8.wrap (IntKind.u8.wrap a * 16)) (IntKind.u8.wrap b)] (by simp))).2.2; have HBL := Aside0.mk (below_alloc HB1.out (.cells #[.int .u8 (Go.bits .or .u8 (IntKind.u8.wrap (IntKind.u8.wrap a * 16)) (IntKind.u8.wrap b))] 5)); clear ho hb)
    | (go_simp; go_at_call 24; (with_reducible refine (spec_WRVar.calls 11 _ _ (wc.alloc (.cells #[.int .u8 (Go.bits .or .u8 (IntKind.u8.wrap (IntKind.u8.wrap a * 16)) (IntKind.u8.wrap b))] 5)).drew HN.out).mono ?_); rintro e w1 ⟨v5, rfl, ho, hb⟩; have HBL := Aside0.mk (HBX.out.trans (hb.mono hsX)); have HRL := Aside0.mk (Kd.R_lower ho hsX); have HCY := Aside0.mk (Kd.R_reads' (Kd.R_below HRX.out hb)).2.2; clear ho hb))
   all_goals
    go_wp2_with fail
    go_ret
    exact ⟨v2, rfl, HR9.out, HB9.out⟩

set_option maxHeartbeats 8000000 in
set_option maxRecDepth 100000 in
theorem thc_10 (n : Int) (S : ByteArray) (a : Int) (b : Int) (d : Bool) (w : World) (hS : S.size < 2147483648) (j0 : Nat) (hj0 : j0 < 10) (hn0 : nb j0 (S.size : Int)) (h0 : 0 ≤ n) (h1 : n < 2147483648) (j : Nat) (hj : j < 10) (hn : nb j n) :
    Calls Try.prog 18 #[.agg #[.int .i64 10, .int .i64 n, .string S, .int .i64 a, .int .i64 b, .bool d]] w fun e w' => ∃ v, e = .returned v ∧ (Kd.int .u8).R 5 w' w.heap.size (fun _ => True) v (([130, IntKind.u8.wrap a] ++ vbytes j n) ++ (vbytes j0 (S.size : Int) ++ bytesOf S)) ∧ Below w.heap.size w w' := by
  have HS := Aside0.mk (wrvarw (S.size : Int) (by omega) (by omega) j0 hj0 hn0)
  have HVL := Aside0.mk (show (vbytes j0 (S.size : Int)).length < 20 by rw [vbytes_len]; omega)
  have HN := Aside0.mk (wrvarw n (by omega) (by omega) j hj hn)
  have HNL := Aside0.mk (show (vbytes j n).length < 20 by rw [vbytes_len]; omega)
  clear hj0 hn0 h0 h1 hj hn
  go_enter Try.func18, Try.ntmps18
  go_upto_region 1 with ((with_reducible refine gate_dst (N := 1) rfl ?_); refine box_event ?xhg (N := 1) ?xhd (cs := #[.int .i64 10, .int .i64 n, .string S, .int .i64 a, .int .i64 b, .bool d]) (t := 30) ?xhr ?_; (case xhd => rfl); (case xhg => rfl); (case xhr => first | (go_simp; done) | (go_simp; rfl)); intro G hG W hb1 hg1; have BK := Aside0.mk hb1; have HB := Aside0.mk hg1; have hlt := blk_lt hb1; have c2 := (blk_cell hb1 2).trans rfl; clear hb1 hg1 hG)
  have BKD := Aside0.mk (show W.drew.heap[G]? = some (.cells #[.int .i64 10, .int .i64 n, .string S, .int .i64 a, .int .i64 b, .bool d] 30 (0, 0)) from BK.out)
  have HBD := Aside0.mk (below_drew HB.out)
  have hsz := HBD.out.size
  go_cut [3] (fun s3 wx => Aside0 (wx.heap[G]? = some (.cells #[.int .i64 10, .int .i64 n, .string S, .int .i64 a, .int .i64 b, .bool d] 30 (0, 0))) ∧ Aside0 (Below w.heap.size w wx) ∧ Aside0 ((Kd.int .u8).R 5 wx w.heap.size (fun _ => True) s3 (vbytes j0 (S.size : Int) ++ bytesOf S)))
  case first =>
   go_region_law (first
    | (refine str_step (w0 := w) w.heap.size (by simp [Region.wanted]) (.tmp 8) (.tmp 10) 26 9 5 rfl Try.underlying26 Try.underlying9 info5 _ (vbytes j0 (S.size : Int)) S rfl rfl HR1.out HB1.out HB1.out.size (by have := HVL.out; omega) ?_; intro v1 w3 ho hb hg; have BK3 := Aside0.mk (blk_grown BK1.out hg (Kd.R_ne HR1.out BK1.out (by decide))); have HB3 := Aside0.mk hb; have HR3 := Aside0.mk ho; clear ho hb hg)
    | (go_simp; go_at_call 24; (with_reducible refine (spec_WRVar.calls 11 _ _ _ HS.out).mono ?_); rintro e w1 ⟨v0, rfl, ho, hb⟩; have BK1 := Aside0.mk (blk_below BKD.out hb); have HB1 := Aside0.mk (HBD.out.trans (hb.mono hsz)); have HR1 := Aside0.mk (Kd.R_lower ho hsz); have c2b : w1.cell? ⟨G, 2, none⟩ = some (.string S) := (blk_cell BK1.out 2).trans rfl; clear ho hb))
   all_goals
    go_wp2_with fail
    go_meet
    exact ⟨BK3, HB3, HR3⟩
  case rest =>
   obtain ⟨BK4, HB4, HR4⟩ := hcut
   have q0 : wc.cell? ⟨G, 0, none⟩ = some (.int .i64 10) := (blk_cell BK4.out 0).trans rfl
   have q1 : wc.cell? ⟨G, 1, none⟩ = some (.int .i64 n) := (blk_cell BK4.out 1).trans rfl
   have q3 : wc.cell? ⟨G, 3, none⟩ = some (.int .i64 a) := (blk_cell BK4.out 3).trans rfl
   have q4 : wc.cell? ⟨G, 4, none⟩ = some (.int .i64 b) := (blk_cell BK4.out 4).trans rfl
   have hsz4 := HB4.out.size
   have BD := Aside0.mk (show wc.drew.heap[G]? = some (.cells #[.int .i64 10, .int .i64 n, .string S, .int .i64 a, .int .i64 b, .bool d] 30 (0, 0)) from BK4.out)
   have HBD4 := Aside0.mk (below_drew HB4.out)
   have hsD := HBD4.out.size
   have HBX := Aside0.mk (below_drew (below_alloc HB4.out (.cells #[.int .u8 130, .int .u8 (IntKind.u8.wrap a)] 5)))
   have hsX := HBX.out.size
   have BX := Aside0.mk (blk_below BK4.out (below_drew (below_alloc (Below.refl _ wc) (.cells #[.int .u8 130, .int .u8 (IntKind.u8.wrap a)] 5))))
   have HRX := Aside0.mk (Kd.R_below (R_litw wc w.heap.size hsz4 [130, IntKind.u8.wrap a] (by simp)) (below_drew (Below.refl _ _)))
   have a1 : (wc.alloc (.cells #[.int .u8 130, .int .u8 (IntKind.u8.wrap a)] 5)).drew.cell? ⟨G, 1, none⟩ = some (.int .i64 n) := (blk_cell BX.out 1).trans rfl
   have hlt4 := blk_lt BK4.out
   obtain ⟨A4, c4, rfl, hc4, hC4⟩ := Kd.R_reads HR4.out
   have HFT := Aside0.mk (Kd.C_F (Kd.heap_int .u8) hC4)
   have HT := Aside0.mk (show (vbytes j0 (S.size : Int) ++ bytesOf S).length < 20 + S.size by have := HVL.out; rw [List.length_append, bytesOf_length]; omega)
   obtain ⟨tx, htx⟩ : ∃ tx, tx = (vbytes j0 (S.size : Int) ++ bytesOf S) := ⟨_, rfl⟩
   have HTX := Aside0.mk htx
   rw [← htx] at HFT HT
   rw [← htx]
   clear htx HR4 hC4
   go_wp2_with fail
   go_region_law (first
    | (refine Kd.R_append_rows_step (Kd.int .u8) (w0 := w) w.heap.size (by simp [Region.wanted]) (.tmp 50) (.tmp 54) 26 5 (.int .u8 0) 1 rfl Try.underlying26 info5 rfl (by decide) (by decide) _ [130, IntKind.u8.wrap a] (vbytes j n) _ _ _ (fun _ => True) (fun _ => False) rfl rfl HRL.out HCY.out (fun _ _ h => h) (fun _ h => h.elim) (fun _ _ => trivial) HBL.out HBL.out.size (by have := HNL.out; simp; omega) ?_;  intro v2 w2 ho hb hg hat; have HR2 := Aside0.mk ho; have HB2 := Aside0.mk hb; have HCT := Aside0.mk (Kd.F_now (Kd.F_grown HFY.out hg (fun k hk he => Nat.lt_irrefl _ (Nat.lt_of_lt_of_le hk (HOW.out k he.symm))))); clear ho hb hg hat)
    | (refine Kd.R_append_rows_step (Kd.int .u8) (w0 := w) w.heap.size (by simp [Region.wanted]) (.tmp 55) (.tmp 56) 26 5 (.int .u8 0) 1 rfl Try.underlying26 info5 rfl (by decide) (by decide) _ ([130, IntKind.u8.wrap a] ++ vbytes j n) tx _ _ _ (fun _ => True) (fun _ => False) rfl rfl HR2.out HCT.out (fun _ _ h => h) (fun _ h => h.elim) (fun _ _ => trivial) HB2.out HB2.out.size (by have := HNL.out; have := HT.out; simp; omega) ?_;  intro v9 w9 ho hb hg hat; have HR9 := Aside0.mk ho; have HB9 := Aside0.mk hb; clear ho hb hg hat)
    | (go_simp; go_at_call 24; (with_reducible refine (spec_WRVar.calls 11 _ _ wc.drew HN.out).mono ?_); rintro e w1 ⟨v5, rfl, ho, hb⟩; obtain ⟨A5, c5, rfl, hc5, hC5⟩ := Kd.R_reads ho; have HB1 := Aside0.mk (HBD4.out.trans (hb.mono hsD)); have BK1 := Aside0.mk (blk_below BD.out hb); have b3 : w1.cell? ⟨G, 3, none⟩ = some (.int .i64 a) := (blk_cell BK1.out 3).trans rfl; have HRL := Aside0.mk (R_litw w1 w.heap.size HB1.out.size [130, IntKind.u8.wrap a] (by simp)); have HCY := Aside0.mk (Kd.C_alloc hC5 (.cells #[.int .u8 130, .int .u8 (IntKind.u8.wrap a)] 5)); have HBL := Aside0.mk (below_alloc HB1.out (.cells #[.int .u8 130, .int .u8 (IntKind.u8.wrap a)] 5)); have HFY := Aside0.mk (Kd.F_below HFT.out (below_alloc ((below_drew (Below.refl wc.heap.size wc)).trans (hb.mono (Nat.le_refl wc.heap.size))) (.cells #[.int .u8 130, .int .u8 (IntKind.u8.wrap a)] 5))); have HOW := Aside0.mk (own_from (n := 2) (c := 2) hb.size); clear ho hb hC5)
    | (go_simp; go_at_call 24; (with_reducible refine (spec_WRVar.calls 11 _ _ (wc.alloc (.cells #[.int .u8 130, .int .u8 (IntKind.u8.wrap a)] 5)).drew HN.out).mono ?_); rintro e w1 ⟨v5, rfl, ho, hb⟩; obtain ⟨A5, c5, rfl, hc5, hC5⟩ := Kd.R_reads ho; have HBL := Aside0.mk (HBX.out.trans (hb.mono hsX)); have HRL := Aside0.mk (Kd.R_below HRX.out hb); have HCY := Aside0.mk hC5; have HFY := Aside0.mk (Kd.F_below HFT.out ((below_drew (below_alloc (Below.refl wc.heap.size wc) (.cells #[.int .u8 130, .int .u8 (IntKind.u8.wrap a)] 5))).trans (hb.mono (below_drew (below_alloc (Below.refl wc.heap.size wc) (.cells #[.int .u8 130, .int .u8 (IntKind.u8.wrap a)] 5))).size))); have HOW := Aside0.mk (own_from (n := 2) (c := 2) (Nat.le_refl wc.heap.size)); clear ho hb hC5))
   all_goals
    go_wp2_with fail
    go_ret
    have h9 := HR9.out
    rw [HTX.out] at h9
    exact ⟨v9, rfl, by simpa using h9, HB9.out⟩
end Go.Proofs.Ytmjilokgpgajjaa.Th
