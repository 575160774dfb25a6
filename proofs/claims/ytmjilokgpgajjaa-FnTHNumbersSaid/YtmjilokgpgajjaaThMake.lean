/- A protocol and its writer are made. -/
import Derived.Test.YtmjilokgpgajjaaThCall3
namespace Go.Proofs.Ytmjilokgpgajjaa.Th
open Go.RowKit Go.Proofs.YtmjilokgpgajjaaW.PrintWords Go.Proofs.YtmjilokgpgajjaaW.PrintLast Go.Proofs.YtmjilokgpgajjaaW.PrintMore Go.Proofs.Ytmjilokgpgajjaa.PFnTHWrites
set_option linter.unusedVariables false
set_option linter.unusedSimpArgs false

set_option maxHeartbeats 4000000 in
set_option maxRecDepth 100000 in
theorem protocol_0 (w : World) : Calls Try.prog 16 #[.int .i64 0] w fun e w' => e = .returned (.iface 70 (.pointer (some ⟨w.heap.size, 0, none⟩))) ∧ w'.heap[w.heap.size]? = some (.cells #[.bool false] 72 (0, 0)) ∧ Below w.heap.size w w' := by
  go_enter Try.func16, Try.ntmps16
  go_wp2_with (((with_reducible refine gate_dst (N := 15) rfl ?_); refine box_event ?xhg (N := 15) ?xhd (cs := #[.bool false]) (t := 72) ?xhr ?_; (case xhd => rfl); (case xhg => rfl); (case xhr => first | (go_simp; done) | (go_simp; rfl)); intro Bg hG w1 hb1 hg1; subst hG))
  go_ret
  exact ⟨rfl, hb1, hg1⟩

set_option maxHeartbeats 4000000 in
set_option maxRecDepth 100000 in
theorem protocol_1 (w : World) : Calls Try.prog 16 #[.int .i64 1] w fun e w' => e = .returned (.iface 70 (.pointer (some ⟨w.heap.size, 0, none⟩))) ∧ w'.heap[w.heap.size]? = some (.cells #[.bool true] 72 (0, 0)) ∧ Below w.heap.size w w' := by
  go_enter Try.func16, Try.ntmps16
  go_wp2_with (((with_reducible refine gate_dst (N := 7) rfl ?_); refine box_event ?xhg (N := 7) ?xhd (cs := #[.bool true]) (t := 72) ?xhr ?_; (case xhd => rfl); (case xhg => rfl); (case xhr => first | (go_simp; done) | (go_simp; rfl)); intro Bg hG w1 hb1 hg1; subst hG))
  go_ret
  exact ⟨rfl, hb1, hg1⟩

set_option maxHeartbeats 4000000 in
set_option maxRecDepth 100000 in
theorem protocol_2 (w : World) : Calls Try.prog 16 #[.int .i64 2] w fun e w' => e = .returned (.iface 73 (.pointer (some ⟨w.heap.size, 0, none⟩))) ∧ w'.heap[w.heap.size]? = some (.cells #[] 75 (0, 0)) ∧ Below w.heap.size w w' := by
  go_enter Try.func16, Try.ntmps16
  go_wp2_with (((with_reducible refine gate_dst (N := 12) rfl ?_); refine box_event ?xhg (N := 12) ?xhd (cs := #[]) (t := 75) ?xhr ?_; (case xhd => rfl); (case xhg => rfl); (case xhr => first | (go_simp; done) | (go_simp; rfl)); intro Bg hG w1 hb1 hg1; subst hG))
  go_ret
  exact ⟨rfl, hb1, hg1⟩

set_option maxHeartbeats 4000000 in
set_option maxRecDepth 100000 in
theorem new_b (w : World) (Pg Sg : Nat) : Calls Try.prog 46 #[.pointer (some ⟨Pg, 0, none⟩), .iface 51 (.pointer (some ⟨Sg, 0, none⟩))] w fun e w' => e = .returned (.iface 163 (.pointer (some ⟨w.heap.size, 0, none⟩))) ∧ w'.heap[w.heap.size]? = some (.cells #[.pointer (some ⟨Pg, 0, none⟩), .int .u8 0, .int .u8 0, .int .u8 0, .int .u8 0, .int .u8 0, .int .u8 0, .int .u8 0, .int .u8 0, .iface 51 (.pointer (some ⟨Sg, 0, none⟩))] 165 (0, 0)) ∧ Below w.heap.size w w' := by
  go_enter Try.func46, Try.ntmps46
  go_wp2_with (((with_reducible refine gate_dst (N := 8) rfl ?_); refine box_event ?xhg (N := 8) ?xhd (cs := #[.pointer (some ⟨Pg, 0, none⟩), .int .u8 0, .int .u8 0, .int .u8 0, .int .u8 0, .int .u8 0, .int .u8 0, .int .u8 0, .int .u8 0, .iface 51 (.pointer (some ⟨Sg, 0, none⟩))]) (t := 165) ?xhr ?_; (case xhd => rfl); (case xhg => rfl); (case xhr => first | (go_simp; done) | (go_simp; rfl)); intro Bg hG w1 hb1 hg1; subst hG))
  go_ret
  exact ⟨rfl, hb1, hg1⟩

set_option maxHeartbeats 4000000 in
set_option maxRecDepth 100000 in
theorem new_c (w : World) (Pg Sg : Nat) : Calls Try.prog 49 #[.pointer (some ⟨Pg, 0, none⟩), .iface 51 (.pointer (some ⟨Sg, 0, none⟩))] w fun e w' => e = .returned (.iface 169 (.pointer (some ⟨w.heap.size, 0, none⟩))) ∧ w'.heap[w.heap.size]? = some (.cells #[.pointer (some ⟨Pg, 0, none⟩), .pointer none, .int .u8 0, .int .u8 0, .int .u8 0, .int .u8 0, .int .u8 0, .int .u8 0, .int .u8 0, .int .u8 0, .iface 51 (.pointer (some ⟨Sg, 0, none⟩)), .int .u8 0, .int .u8 0, .int .u8 0, .int .u8 0, .int .u8 0, .int .u8 0, .int .u8 0, .int .u8 0, .int .u8 0, .int .u8 0] 172 (0, 0)) ∧ Below w.heap.size w w' := by
  go_enter Try.func49, Try.ntmps49
  go_wp2_with (((with_reducible refine gate_dst (N := 9) rfl ?_); refine box_event ?xhg (N := 9) ?xhd (cs := #[.pointer (some ⟨Pg, 0, none⟩), .pointer none, .int .u8 0, .int .u8 0, .int .u8 0, .int .u8 0, .int .u8 0, .int .u8 0, .int .u8 0, .int .u8 0, .iface 51 (.pointer (some ⟨Sg, 0, none⟩)), .int .u8 0, .int .u8 0, .int .u8 0, .int .u8 0, .int .u8 0, .int .u8 0, .int .u8 0, .int .u8 0, .int .u8 0, .int .u8 0]) (t := 172) ?xhr ?_; (case xhd => rfl); (case xhg => rfl); (case xhr => first | (go_simp; done) | (go_simp; rfl)); intro Bg hG w1 hb1 hg1; subst hG))
  go_ret
  exact ⟨rfl, hb1, hg1⟩
end Go.Proofs.Ytmjilokgpgajjaa.Th
