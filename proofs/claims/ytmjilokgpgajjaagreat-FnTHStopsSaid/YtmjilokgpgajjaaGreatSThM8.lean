/- Merged by merge.py (wip/tpl) out of ThGood, ThGood2: Written by thgood.py (wip/tpl): the calls that the laws speak of, with their bytes, kind by kind; what THWrite writes of each, and what the definition tells of each. Written by thgood2.py (wip/tpl): what the definition tells of each call; and that the calls that the laws make are among these. -/
import Derived.Test.YtmjilokgpgajjaaGreatSThM1
import Derived.Laws.BitsLemmas
import Derived.Test.YtmjilokgpgajjaaGreatSThM3
import Derived.RegionTactic
import Derived.BigRegion
import Derived.IntWalk
import Derived.Test.YtmjilokgpgajjaaGreatSThM4
import Derived.Test.YtmjilokgpgajjaaGreatSThM5
namespace Go.Proofs.YtmjilokgpgajjaaGreat.Th
open Go.RowKit Go.Proofs.YtmjilokgpgajjaaGreatW.PrintWords Go.Proofs.YtmjilokgpgajjaaGreatW.PrintLast Go.Proofs.YtmjilokgpgajjaaGreatW.PrintMore Go.Proofs.YtmjilokgpgajjaaGreat.PFnTHScripts
set_option linter.unusedVariables false
set_option linter.unusedSimpArgs false
end Go.Proofs.YtmjilokgpgajjaaGreat.Th

namespace Go.Proofs.YtmjilokgpgajjaaGreat.Th
open Go.RowKit Go.Proofs.YtmjilokgpgajjaaGreatW.PrintWords Go.Proofs.YtmjilokgpgajjaaGreatW.PrintLast Go.Proofs.YtmjilokgpgajjaaGreatW.PrintMore Go.Proofs.YtmjilokgpgajjaaGreat.PFnTHScripts
set_option linter.unusedVariables false
set_option linter.unusedSimpArgs false
set_option maxHeartbeats 4000000 in
set_option maxRecDepth 100000 in
theorem sp_two (op n : Int) (S : ByteArray) (a b : Int) (d : Bool) (zs : List Int) (w : World) (h : ∀ w : World, Calls Tryz.prog 20 #[.agg #[.int .i64 op, .int .i64 n, .string S, .int .i64 a, .int .i64 b, .bool d]] w fun e w' => ∃ v, e = .returned v ∧ (Kd.int .u8).R 5 w' w.heap.size (fun _ => True) v zs ∧ Below w.heap.size w w') :
    Calls Tryz.prog 12 #[.int .i64 2, .agg #[.int .i64 op, .int .i64 n, .string S, .int .i64 a, .int .i64 b, .bool d]] w fun e w' => ∃ v, e = .returned v ∧ (Kd.int .u8).R 5 w' w.heap.size (fun _ => True) v zs ∧ Below w.heap.size w w' := by
  have H := Aside0.mk h
  clear h
  go_enter Tryz.func12, Tryz.ntmps12
  go_wp2_with (first | ((with_reducible refine gate_dst (N := 3) rfl ?_); refine box_event ?xhg (N := 3) ?xhd (cs := #[.int .i64 op, .int .i64 n, .string S, .int .i64 a, .int .i64 b, .bool d]) (t := 25) ?xhr ?_; (case xhd => rfl); (case xhg => rfl); (case xhr => first | (go_simp; done) | (go_simp; rfl)); intro G hG W hb1 hg1; have HB := Aside0.mk hg1; have hsz := hg1.size; have c0 : W.cell? ⟨G, 0, none⟩ = some (.int .i64 op) := (blk_cell hb1 0).trans rfl; have c1 : W.cell? ⟨G, 1, none⟩ = some (.int .i64 n) := (blk_cell hb1 1).trans rfl; have c2 : W.cell? ⟨G, 2, none⟩ = some (.string S) := (blk_cell hb1 2).trans rfl; have c3 : W.cell? ⟨G, 3, none⟩ = some (.int .i64 a) := (blk_cell hb1 3).trans rfl; have c4 : W.cell? ⟨G, 4, none⟩ = some (.int .i64 b) := (blk_cell hb1 4).trans rfl; have c5 : W.cell? ⟨G, 5, none⟩ = some (.bool d) := (blk_cell hb1 5).trans rfl; have hlt := blk_lt hb1; clear hb1 hg1 hG) | (go_at_call 20; (with_reducible refine (H.out _).mono ?_); rintro e w5 ⟨v5, rfl, ho, hb⟩; have HR5 := Aside0.mk (Kd.R_lower ho hsz); have HB5 := Aside0.mk (HB.out.trans (hb.mono hsz)); clear ho hb))
  go_ret
  exact ⟨v5, rfl, HR5.out, HB5.out⟩
theorem nb_zero : nb 0 (((⟨#[]⟩ : ByteArray).size : Nat) : Int) := by simp only [nb]; decide
theorem small_zero : (⟨#[]⟩ : ByteArray).size < 2147483648 := by decide
end Go.Proofs.YtmjilokgpgajjaaGreat.Th

