/- Merged by merge.py (wip/tpl) out of ThComp3, ThCall: What a compact writer's calls for heads write. Calls of a writer through its interface: what each kind of call writes. -/
import Derived.Test.YtmjilokgpgajjaaGreatSThM1
namespace Go.Proofs.YtmjilokgpgajjaaGreat.Th
open Go.RowKit Go.Proofs.YtmjilokgpgajjaaGreatW.PrintWords Go.Proofs.YtmjilokgpgajjaaGreatW.PrintLast Go.Proofs.YtmjilokgpgajjaaGreatW.PrintMore Go.Proofs.YtmjilokgpgajjaaGreat.PFnTHScripts
set_option linter.unusedVariables false
set_option linter.unusedSimpArgs false

set_option maxHeartbeats 4000000 in
set_option maxRecDepth 100000 in
theorem c_field_stop (w : World) (base Sg Wg T Pg PT : Nat) (ps : Array Value) (pv : Value) (xs : List Int) (id : Int) (dl : Bool) (hst : St w base Sg Wg T 1 21 Pg PT ps pv xs)  (hl : xs.length < 1000000000) :
    Calls Tryz.prog 126 #[.pointer (some ⟨Wg, 0, none⟩), .agg #[.int .i16 id, .int .i8 0, .bool dl]] w fun e w' => e = .returned .nilIface ∧ St w' base Sg Wg T 1 21 Pg PT ps pv (xs ++ [0]) ∧ Below base w w' ∧ Rest w w' Sg Wg := by
  have HST := Aside0.mk hst
  clear hst
  go_enter Tryz.func126, Tryz.ntmps126
  go_wp2_with (first | ((with_reducible refine gate_dst (N := 3) rfl ?_); refine box_event ?xhg (N := 3) ?xhd (cs := #[.int .i16 id, .int .i8 0, .bool dl]) (t := 114) ?xhr ?_; (case xhd => rfl); (case xhg => rfl); (case xhr => first | (go_simp; done) | (go_simp; rfl)); intro Bg hG w1 hb1 hg1; have HHELD := Aside0.mk (fun w' (hr : Rest w1 w' Sg Wg) => HST.out.held hg1 hb1 (Nat.le_of_eq hG.symm) hr); have HS1 := Aside0.mk (HST.out.below hg1); have HB1 := Aside0.mk (hg1.mono HST.out.b3); have HR1 := Aside0.mk (Rest.below (Sg := Sg) (Wg := Wg) (Below.refl w1.heap.size w1)); have HR0 := Aside0.mk (Rest.below (Sg := Sg) (Wg := Wg) hg1); have c1_0 : w1.cell? ⟨Bg, 0, none⟩ = some (.int .i16 id) := (blk_cell hb1 0).trans rfl; have c1_1 : w1.cell? ⟨Bg, 1, none⟩ = some (.int .i8 0) := (blk_cell hb1 1).trans rfl; have c1_2 : w1.cell? ⟨Bg, 2, none⟩ = some (.bool dl) := (blk_cell hb1 2).trans rfl; clear hb1 hg1 hG) | (go_at_call 95; (with_reducible refine (w_byte _ base Sg Wg T 1 21 Pg PT ps pv _ _ HS1.out (by (try simp only [List.length_append, List.length_cons, List.length_nil, hib_len, vbytes_len, bytesOf_length]); omega)).mono ?_); rintro e w2 ⟨rfl, hs, hb, hr⟩; have HS2 := Aside0.mk hs; have HB2 := Aside0.mk (HB1.out.trans hb); have HR2 := Aside0.mk (HR1.out.trans hr); have HK2 := Aside0.mk (HHELD.out _ HR2.out); have c2_0 : w2.cell? ⟨Bg, 0, none⟩ = some (.int .i16 id) := (blk_cell HK2.out 0).trans rfl; have c2_1 : w2.cell? ⟨Bg, 1, none⟩ = some (.int .i8 0) := (blk_cell HK2.out 1).trans rfl; have c2_2 : w2.cell? ⟨Bg, 2, none⟩ = some (.bool dl) := (blk_cell HK2.out 2).trans rfl; clear hs hb hr))
  go_ret
  exact ⟨rfl, by have h := HS2.out; (try simp only [List.append_assoc, List.cons_append, List.nil_append] at h); exact h, HB2.out, HR0.out.trans HR2.out⟩

end Go.Proofs.YtmjilokgpgajjaaGreat.Th

namespace Go.Proofs.YtmjilokgpgajjaaGreat.Th
open Go.RowKit Go.Proofs.YtmjilokgpgajjaaGreatW.PrintWords Go.Proofs.YtmjilokgpgajjaaGreatW.PrintLast Go.Proofs.YtmjilokgpgajjaaGreatW.PrintMore Go.Proofs.YtmjilokgpgajjaaGreat.PFnTHScripts
set_option linter.unusedVariables false
set_option linter.unusedSimpArgs false

end Go.Proofs.YtmjilokgpgajjaaGreat.Th

