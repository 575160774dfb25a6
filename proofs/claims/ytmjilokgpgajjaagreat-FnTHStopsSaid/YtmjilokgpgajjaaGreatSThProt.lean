/- A protocol is made. -/
import Derived.Test.YtmjilokgpgajjaaGreatSThM1
namespace Go.Proofs.YtmjilokgpgajjaaGreat.Th
open Go.RowKit Go.Proofs.YtmjilokgpgajjaaGreatW.PrintWords Go.Proofs.YtmjilokgpgajjaaGreatW.PrintLast Go.Proofs.YtmjilokgpgajjaaGreatW.PrintMore
set_option linter.unusedVariables false
set_option linter.unusedSimpArgs false

set_option maxHeartbeats 4000000 in
set_option maxRecDepth 100000 in
theorem protocol_0 (w : World) : Calls Tryz.prog 16 #[.int .i64 0] w fun e w' => e = .returned (.iface 67 (.pointer (some ⟨w.heap.size, 0, none⟩))) ∧ w'.heap[w.heap.size]? = some (.cells #[.bool false] 69 (0, 0)) ∧ Below w.heap.size w w' := by
  go_enter Tryz.func16, Tryz.ntmps16
  go_wp2_with (((with_reducible refine gate_dst (N := 15) rfl ?_); refine box_event ?xhg (N := 15) ?xhd (cs := #[.bool false]) (t := 69) ?xhr ?_; (case xhd => rfl); (case xhg => rfl); (case xhr => first | (go_simp; done) | (go_simp; rfl)); intro Bg hG w1 hb1 hg1; subst hG))
  go_ret
  exact ⟨rfl, hb1, hg1⟩

set_option maxHeartbeats 4000000 in
set_option maxRecDepth 100000 in
theorem protocol_1 (w : World) : Calls Tryz.prog 16 #[.int .i64 1] w fun e w' => e = .returned (.iface 67 (.pointer (some ⟨w.heap.size, 0, none⟩))) ∧ w'.heap[w.heap.size]? = some (.cells #[.bool true] 69 (0, 0)) ∧ Below w.heap.size w w' := by
  go_enter Tryz.func16, Tryz.ntmps16
  go_wp2_with (((with_reducible refine gate_dst (N := 7) rfl ?_); refine box_event ?xhg (N := 7) ?xhd (cs := #[.bool true]) (t := 69) ?xhr ?_; (case xhd => rfl); (case xhg => rfl); (case xhr => first | (go_simp; done) | (go_simp; rfl)); intro Bg hG w1 hb1 hg1; subst hG))
  go_ret
  exact ⟨rfl, hb1, hg1⟩

set_option maxHeartbeats 4000000 in
set_option maxRecDepth 100000 in
theorem protocol_2 (w : World) : Calls Tryz.prog 16 #[.int .i64 2] w fun e w' => e = .returned (.iface 70 (.pointer (some ⟨w.heap.size, 0, none⟩))) ∧ w'.heap[w.heap.size]? = some (.cells #[] 72 (0, 0)) ∧ Below w.heap.size w w' := by
  go_enter Tryz.func16, Tryz.ntmps16
  go_wp2_with (((with_reducible refine gate_dst (N := 12) rfl ?_); refine box_event ?xhg (N := 12) ?xhd (cs := #[]) (t := 72) ?xhr ?_; (case xhd => rfl); (case xhg => rfl); (case xhr => first | (go_simp; done) | (go_simp; rfl)); intro Bg hG w1 hb1 hg1; subst hG))
  go_ret
  exact ⟨rfl, hb1, hg1⟩

end Go.Proofs.YtmjilokgpgajjaaGreat.Th

