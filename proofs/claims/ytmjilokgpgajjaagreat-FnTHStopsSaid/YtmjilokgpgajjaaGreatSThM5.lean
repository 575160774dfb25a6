/- Merged by merge.py (wip/tpl) out of ThSpecD, ThSpecE: Written by thspec3.py (wip/tpl): one call's bytes by the compact protocol, as the definition tells them. Written by thspec3.py (wip/tpl): one call's bytes by the compact protocol, as the definition tells them. -/
import Derived.Test.YtmjilokgpgajjaaGreatSThM3
namespace Go.Proofs.YtmjilokgpgajjaaGreat.Th
open Go.RowKit Go.Proofs.YtmjilokgpgajjaaGreatW.PrintWords Go.Proofs.YtmjilokgpgajjaaGreatW.PrintLast Go.Proofs.YtmjilokgpgajjaaGreatW.PrintMore Go.Proofs.YtmjilokgpgajjaaGreat.PFnTHScripts
set_option linter.unusedVariables false
set_option linter.unusedSimpArgs false

end Go.Proofs.YtmjilokgpgajjaaGreat.Th

namespace Go.Proofs.YtmjilokgpgajjaaGreat.Th
open Go.RowKit Go.Proofs.YtmjilokgpgajjaaGreatW.PrintWords Go.Proofs.YtmjilokgpgajjaaGreatW.PrintLast Go.Proofs.YtmjilokgpgajjaaGreatW.PrintMore Go.Proofs.YtmjilokgpgajjaaGreat.PFnTHScripts
set_option linter.unusedVariables false
set_option linter.unusedSimpArgs false

set_option maxHeartbeats 8000000 in
set_option maxRecDepth 100000 in
theorem thc_11z (n : Int) (S : ByteArray) (b : Int) (d : Bool) (w : World) (hS : S.size < 2147483648) (j0 : Nat) (hj0 : j0 < 10) (hn0 : nb j0 (S.size : Int)) :
    Calls Tryz.prog 20 #[.agg #[.int .i64 11, .int .i64 n, .string S, .int .i64 0, .int .i64 b, .bool d]] w fun e w' => ∃ v, e = .returned v ∧ (Kd.int .u8).R 5 w' w.heap.size (fun _ => True) v ([0]) ∧ Below w.heap.size w w' := by
  have HS := Aside0.mk (wrvarw (S.size : Int) (by omega) (by omega) j0 hj0 hn0)
  have HVL := Aside0.mk (show (vbytes j0 (S.size : Int)).length < 20 by rw [vbytes_len]; omega)
  clear hj0 hn0
  go_enter Tryz.func20, Tryz.ntmps20
  go_upto_region 1 with ((with_reducible refine gate_dst (N := 1) rfl ?_); refine box_event ?xhg (N := 1) ?xhd (cs := #[.int .i64 11, .int .i64 n, .string S, .int .i64 0, .int .i64 b, .bool d]) (t := 25) ?xhr ?_; (case xhd => rfl); (case xhg => rfl); (case xhr => first | (go_simp; done) | (go_simp; rfl)); intro G hG W hb1 hg1; have BK := Aside0.mk hb1; have HB := Aside0.mk hg1; have hlt := blk_lt hb1; have c2 := (blk_cell hb1 2).trans rfl; clear hb1 hg1 hG)
  have BKD := Aside0.mk (show W.drew.heap[G]? = some (.cells #[.int .i64 11, .int .i64 n, .string S, .int .i64 0, .int .i64 b, .bool d] 25 (0, 0)) from BK.out)
  have HBD := Aside0.mk (below_drew HB.out)
  have hsz := HBD.out.size
  go_cut [3] (fun s3 wx => Aside0 (wx.heap[G]? = some (.cells #[.int .i64 11, .int .i64 n, .string S, .int .i64 0, .int .i64 b, .bool d] 25 (0, 0))) ∧ Aside0 (Below w.heap.size w wx) ∧ Aside0 ((Kd.int .u8).R 5 wx w.heap.size (fun _ => True) s3 (vbytes j0 (S.size : Int) ++ bytesOf S)))
  case first =>
   go_region_law (first
    | (refine str_step (w0 := w) w.heap.size (by simp [Region.wanted]) (.tmp 8) (.tmp 10) 28 9 5 rfl Tryz.underlying28 Tryz.underlying9 info5 _ (vbytes j0 (S.size : Int)) S rfl rfl HR1.out HB1.out HB1.out.size (by have := HVL.out; omega) ?_; intro v1 w3 ho hb hg; have BK3 := Aside0.mk (blk_grown BK1.out hg (Kd.R_ne HR1.out BK1.out (by decide))); have HB3 := Aside0.mk hb; have HR3 := Aside0.mk ho; clear ho hb hg)
    | (go_simp; go_at_call 26; (with_reducible refine (spec_WRVar.calls 11 _ _ _ HS.out).mono ?_); rintro e w1 ⟨v0, rfl, ho, hb⟩; have BK1 := Aside0.mk (blk_below BKD.out hb); have HB1 := Aside0.mk (HBD.out.trans (hb.mono hsz)); have HR1 := Aside0.mk (Kd.R_lower ho hsz); have c2b : w1.cell? ⟨G, 2, none⟩ = some (.string S) := (blk_cell BK1.out 2).trans rfl; clear ho hb))
   all_goals
    go_wp2_with fail
    go_meet
    exact ⟨BK3, HB3, HR3⟩
  case rest =>
   obtain ⟨BK4, HB4, HR4⟩ := hcut
   have q0 : wc.cell? ⟨G, 0, none⟩ = some (.int .i64 11) := (blk_cell BK4.out 0).trans rfl
   have q1 : wc.cell? ⟨G, 1, none⟩ = some (.int .i64 n) := (blk_cell BK4.out 1).trans rfl
   have q3 : wc.cell? ⟨G, 3, none⟩ = some (.int .i64 0) := (blk_cell BK4.out 3).trans rfl
   have q4 : wc.cell? ⟨G, 4, none⟩ = some (.int .i64 b) := (blk_cell BK4.out 4).trans rfl
   have hsz4 := HB4.out.size
   have hB9 := below_drew (Below.refl w.heap.size w)
   go_wp2
   go_ret
   exact ⟨_, rfl, R_litw wc w.heap.size hsz4 [0] (by simp), below_alloc HB4.out _⟩

end Go.Proofs.YtmjilokgpgajjaaGreat.Th

