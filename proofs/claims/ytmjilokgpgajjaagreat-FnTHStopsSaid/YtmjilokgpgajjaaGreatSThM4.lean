/- Merged by merge.py (wip/tpl) out of ThSpecA, ThSpecB: Written by thspec2.py (wip/tpl): one call's bytes by the binary protocols, as the definition tells them. Written by thspec2.py (wip/tpl): one call's bytes by the binary protocols, as the definition tells them. -/
import Derived.Test.YtmjilokgpgajjaaGreatSThM3
namespace Go.Proofs.YtmjilokgpgajjaaGreat.Th
open Go.RowKit Go.Proofs.YtmjilokgpgajjaaGreatW.PrintWords Go.Proofs.YtmjilokgpgajjaaGreatW.PrintLast Go.Proofs.YtmjilokgpgajjaaGreatW.PrintMore Go.Proofs.YtmjilokgpgajjaaGreat.PFnTHScripts
set_option linter.unusedVariables false
set_option linter.unusedSimpArgs false

end Go.Proofs.YtmjilokgpgajjaaGreat.Th

namespace Go.Proofs.YtmjilokgpgajjaaGreat.Th
open Go.RowKit Go.Proofs.YtmjilokgpgajjaaGreatW.PrintWords Go.Proofs.YtmjilokgpgajjaaGreatW.PrintLast Go.Proofs.YtmjilokgpgajjaaGreatW.PrintMore Go.Proofs.YtmjilokgpgajjaaGreat.PFnTHScripts
set_option linter.unusedVariables false
set_option linter.unusedSimpArgs false

set_option maxHeartbeats 8000000 in
set_option maxRecDepth 100000 in
theorem thb_11 (p n : Int) (S : ByteArray) (a b : Int) (d : Bool) (w : World) (hp : decide (p = 2) = false) (hS : S.size < 2147483648) :
    Calls Tryz.prog 12 #[.int .i64 p, .agg #[.int .i64 11, .int .i64 n, .string S, .int .i64 a, .int .i64 b, .bool d]] w fun e w' => ∃ v, e = .returned v ∧ (Kd.int .u8).R 5 w' w.heap.size (fun _ => True) v ([IntKind.u8.wrap a] ++ hib 2 n) ∧ Below w.heap.size w w' := by
  have hp2 : (p == 2) = false := by rw [← hp]; rfl
  have HS := Aside0.mk (wrhigh4 (S.size : Int))
  have HN := Aside0.mk (wrhigh2 n)
  clear hp
  go_enter Tryz.func12, Tryz.ntmps12
  go_upto_region 3 with ((with_reducible refine gate_dst (N := 3) rfl ?_); refine box_event ?xhg (N := 3) ?xhd (cs := #[.int .i64 11, .int .i64 n, .string S, .int .i64 a, .int .i64 b, .bool d]) (t := 25) ?xhr ?_; (case xhd => rfl); (case xhg => rfl); (case xhr => first | (go_simp; done) | (go_simp; rfl)); intro G hG W hb1 hg1; have BK := Aside0.mk hb1; have HB := Aside0.mk hg1; have hlt := blk_lt hb1; have c2 := (blk_cell hb1 2).trans rfl; clear hb1 hg1 hG)
  have BKD := Aside0.mk (show W.drew.heap[G]? = some (.cells #[.int .i64 11, .int .i64 n, .string S, .int .i64 a, .int .i64 b, .bool d] 25 (0, 0)) from BK.out)
  have HBD := Aside0.mk (below_drew HB.out)
  have hsz := HBD.out.size
  go_cut [5] (fun s5 wx => Aside0 (wx.heap[G]? = some (.cells #[.int .i64 11, .int .i64 n, .string S, .int .i64 a, .int .i64 b, .bool d] 25 (0, 0))) ∧ Aside0 (Below w.heap.size w wx) ∧ Aside0 ((Kd.int .u8).R 5 wx w.heap.size (fun _ => True) s5 (hib 4 (S.size : Int) ++ bytesOf S)))
  case first =>
   go_region_law (first
    | (refine str_step (w0 := w) w.heap.size (by simp [Region.wanted]) (.tmp 14) (.tmp 16) 28 9 5 rfl Tryz.underlying28 Tryz.underlying9 info5 _ (hib 4 (S.size : Int)) S rfl rfl HR1.out HB1.out HB1.out.size (by rw [hib_len]; omega) ?_; intro v1 w3 ho hb hg; have BK3 := Aside0.mk (blk_grown BK1.out hg (Kd.R_ne HR1.out BK1.out (by decide))); have HB3 := Aside0.mk hb; have HR3 := Aside0.mk ho; clear ho hb hg)
    | (go_simp; go_at_call 21; (with_reducible refine (spec_WRHigh.calls 9 _ 4 _ _ HS.out).mono ?_); rintro e w1 ⟨v0, rfl, ho, hb⟩; have BK1 := Aside0.mk (blk_below BKD.out hb); have HB1 := Aside0.mk (HBD.out.trans (hb.mono hsz)); have HR1 := Aside0.mk (Kd.R_lower ho hsz); have c2b : w1.cell? ⟨G, 2, none⟩ = some (.string S) := (blk_cell BK1.out 2).trans rfl; clear ho hb))
   all_goals
    go_wp2_with fail
    go_meet
    exact ⟨BK3, HB3, HR3⟩
  case rest =>
   obtain ⟨BK4, HB4, HR4⟩ := hcut
   have q0 : wc.cell? ⟨G, 0, none⟩ = some (.int .i64 11) := (blk_cell BK4.out 0).trans rfl
   have q1 : wc.cell? ⟨G, 1, none⟩ = some (.int .i64 n) := (blk_cell BK4.out 1).trans rfl
   have q3 : wc.cell? ⟨G, 3, none⟩ = some (.int .i64 a) := (blk_cell BK4.out 3).trans rfl
   have q4 : wc.cell? ⟨G, 4, none⟩ = some (.int .i64 b) := (blk_cell BK4.out 4).trans rfl
   have hsz4 := HB4.out.size
   have BD := Aside0.mk (show wc.drew.heap[G]? = some (.cells #[.int .i64 11, .int .i64 n, .string S, .int .i64 a, .int .i64 b, .bool d] 25 (0, 0)) from BK4.out)
   have HBD4 := Aside0.mk (below_drew HB4.out)
   have hsD := HBD4.out.size
   have HBX := Aside0.mk (below_drew (below_alloc HB4.out (.cells #[.int .u8 (IntKind.u8.wrap a)] 5)))
   have hsX := HBX.out.size
   have BX := Aside0.mk (blk_below BK4.out (below_drew (below_alloc (Below.refl _ wc) (.cells #[.int .u8 (IntKind.u8.wrap a)] 5))))
   have HRX := Aside0.mk (Kd.R_below (R_litw wc w.heap.size hsz4 [IntKind.u8.wrap a] (by simp)) (below_drew (Below.refl _ _)))
   have a1 : (wc.alloc (.cells #[.int .u8 (IntKind.u8.wrap a)] 5)).drew.cell? ⟨G, 1, none⟩ = some (.int .i64 n) := (blk_cell BX.out 1).trans rfl
   have hlt4 := blk_lt BK4.out
   go_wp2_with fail
   go_region_law (first
    | (refine Kd.R_append_rows_step (Kd.int .u8) (w0 := w) w.heap.size (by simp [Region.wanted]) (.tmp 82) (.tmp 86) 28 5 (.int .u8 0) 1 rfl Tryz.underlying28 info5 rfl (by decide) (by decide) _ [IntKind.u8.wrap a] (hib 2 n) _ _ _ (fun _ => True) (fun _ => False) rfl rfl HRL.out HCY.out (fun _ _ h => h) (fun _ h => h.elim) (fun _ _ => trivial) HBL.out HBL.out.size (by simp [hib_len, bytesOf_length]; try omega) ?_;  intro v2 w2 ho hb hg hat; have HR9 := Aside0.mk ho; have HB9 := Aside0.mk hb; clear ho hb hg hat)
    | (go_simp; go_at_call 21; (with_reducible refine (spec_WRHigh.calls 9 _ 2 _ wc.drew HN.out).mono ?_); rintro e w1 ⟨v5, rfl, ho, hb⟩; obtain ⟨A5, c5, rfl, hc5, hC5⟩ := Kd.R_reads ho; have HB1 := Aside0.mk (HBD4.out.trans (hb.mono hsD)); have BK1 := Aside0.mk (blk_below BD.out hb); have b3 : w1.cell? ⟨G, 3, none⟩ = some (.int .i64 a) := (blk_cell BK1.out 3).trans rfl; have b4 : w1.cell? ⟨G, 4, none⟩ = some (.int .i64 b) := (blk_cell BK1.out 4).trans rfl; have HRL := Aside0.mk (R_litw w1 w.heap.size HB1.out.size [IntKind.u8.wrap a] (by simp)); have HCY := Aside0.mk (Kd.C_alloc hC5 (.cells #[.int .u8 (IntKind.u8.wrap a)] 5)); have HBL := Aside0.mk (below_alloc HB1.out (.cells #[.int .u8 (IntKind.u8.wrap a)] 5)); clear ho hb hC5)
    | (go_simp; go_at_call 21; (with_reducible refine (spec_WRHigh.calls 9 _ 2 _ (wc.alloc (.cells #[.int .u8 (IntKind.u8.wrap a)] 5)).drew HN.out).mono ?_); rintro e w1 ⟨v5, rfl, ho, hb⟩; obtain ⟨A5, c5, rfl, hc5, hC5⟩ := Kd.R_reads ho; have HBL := Aside0.mk (HBX.out.trans (hb.mono hsX)); have HRL := Aside0.mk (Kd.R_below HRX.out hb); have HCY := Aside0.mk hC5; clear ho hb hC5))
   all_goals
    go_wp2_with fail
    go_ret
    exact ⟨v2, rfl, HR9.out, HB9.out⟩
end Go.Proofs.YtmjilokgpgajjaaGreat.Th

