/- Merged by merge.py (wip/tpl) out of ThCall3, ThMake: Calls of a writer through its interface: what each kind of call writes. A protocol's writer is made. -/
import Derived.Test.YtmjilokgpgajjaaGreatSThM7
import Derived.Test.YtmjilokgpgajjaaGreatSThProt
namespace Go.Proofs.YtmjilokgpgajjaaGreat.Th
open Go.RowKit Go.Proofs.YtmjilokgpgajjaaGreatW.PrintWords Go.Proofs.YtmjilokgpgajjaaGreatW.PrintLast Go.Proofs.YtmjilokgpgajjaaGreatW.PrintMore Go.Proofs.YtmjilokgpgajjaaGreat.PFnTHScripts
set_option linter.unusedVariables false
set_option linter.unusedSimpArgs false

end Go.Proofs.YtmjilokgpgajjaaGreat.Th

namespace Go.Proofs.YtmjilokgpgajjaaGreat.Th
open Go.RowKit Go.Proofs.YtmjilokgpgajjaaGreatW.PrintWords Go.Proofs.YtmjilokgpgajjaaGreatW.PrintLast Go.Proofs.YtmjilokgpgajjaaGreatW.PrintMore Go.Proofs.YtmjilokgpgajjaaGreat.PFnTHScripts
set_option linter.unusedVariables false
set_option linter.unusedSimpArgs false

set_option maxHeartbeats 4000000 in
set_option maxRecDepth 100000 in
theorem new_b (w : World) (Pg Sg : Nat) : Calls Tryz.prog 46 #[.pointer (some ⟨Pg, 0, none⟩), .iface 42 (.pointer (some ⟨Sg, 0, none⟩))] w fun e w' => e = .returned (.iface 161 (.pointer (some ⟨w.heap.size, 0, none⟩))) ∧ w'.heap[w.heap.size]? = some (.cells #[.pointer (some ⟨Pg, 0, none⟩), .int .u8 0, .int .u8 0, .int .u8 0, .int .u8 0, .int .u8 0, .int .u8 0, .int .u8 0, .int .u8 0, .iface 42 (.pointer (some ⟨Sg, 0, none⟩))] 163 (0, 0)) ∧ Below w.heap.size w w' := by
  go_enter Tryz.func46, Tryz.ntmps46
  go_wp2_with (((with_reducible refine gate_dst (N := 8) rfl ?_); refine box_event ?xhg (N := 8) ?xhd (cs := #[.pointer (some ⟨Pg, 0, none⟩), .int .u8 0, .int .u8 0, .int .u8 0, .int .u8 0, .int .u8 0, .int .u8 0, .int .u8 0, .int .u8 0, .iface 42 (.pointer (some ⟨Sg, 0, none⟩))]) (t := 163) ?xhr ?_; (case xhd => rfl); (case xhg => rfl); (case xhr => first | (go_simp; done) | (go_simp; rfl)); intro Bg hG w1 hb1 hg1; subst hG))
  go_ret
  exact ⟨rfl, hb1, hg1⟩

set_option maxHeartbeats 4000000 in
set_option maxRecDepth 100000 in
theorem new_c (w : World) (Pg Sg : Nat) : Calls Tryz.prog 49 #[.pointer (some ⟨Pg, 0, none⟩), .iface 42 (.pointer (some ⟨Sg, 0, none⟩))] w fun e w' => e = .returned (.iface 167 (.pointer (some ⟨w.heap.size, 0, none⟩))) ∧ w'.heap[w.heap.size]? = some (.cells #[.pointer (some ⟨Pg, 0, none⟩), .pointer none, .int .u8 0, .int .u8 0, .int .u8 0, .int .u8 0, .int .u8 0, .int .u8 0, .int .u8 0, .int .u8 0, .iface 42 (.pointer (some ⟨Sg, 0, none⟩)), .int .u8 0, .int .u8 0, .int .u8 0, .int .u8 0, .int .u8 0, .int .u8 0, .int .u8 0, .int .u8 0, .int .u8 0, .int .u8 0] 170 (0, 0)) ∧ Below w.heap.size w w' := by
  go_enter Tryz.func49, Tryz.ntmps49
  go_wp2_with (((with_reducible refine gate_dst (N := 9) rfl ?_); refine box_event ?xhg (N := 9) ?xhd (cs := #[.pointer (some ⟨Pg, 0, none⟩), .pointer none, .int .u8 0, .int .u8 0, .int .u8 0, .int .u8 0, .int .u8 0, .int .u8 0, .int .u8 0, .int .u8 0, .iface 42 (.pointer (some ⟨Sg, 0, none⟩)), .int .u8 0, .int .u8 0, .int .u8 0, .int .u8 0, .int .u8 0, .int .u8 0, .int .u8 0, .int .u8 0, .int .u8 0, .int .u8 0]) (t := 170) ?xhr ?_; (case xhd => rfl); (case xhg => rfl); (case xhr => first | (go_simp; done) | (go_simp; rfl)); intro Bg hG w1 hb1 hg1; subst hG))
  go_ret
  exact ⟨rfl, hb1, hg1⟩
end Go.Proofs.YtmjilokgpgajjaaGreat.Th

