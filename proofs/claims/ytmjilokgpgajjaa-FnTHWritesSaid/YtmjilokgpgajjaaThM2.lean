/- Merged by merge.py (wip/tpl) out of ThCall3, ThMake: Calls of a writer through its interface: what each kind of call writes. A protocol and its writer are made. -/
import Derived.Test.YtmjilokgpgajjaaThM7
namespace Go.Proofs.Ytmjilokgpgajjaa.Th
open Go.RowKit Go.Proofs.YtmjilokgpgajjaaW.PrintWords Go.Proofs.YtmjilokgpgajjaaW.PrintLast Go.Proofs.YtmjilokgpgajjaaW.PrintMore Go.Proofs.Ytmjilokgpgajjaa.PFnTHWrites
set_option linter.unusedVariables false
set_option linter.unusedSimpArgs false

/-- A text's bytes, made anew beside a writer. -/
theorem made_bytes {w : World} {base Sg Wg T off SZ Pg PT : Nat} {ps : Array Value} {pv : Value} {xs : List Int} (hst : St w base Sg Wg T off SZ Pg PT ps pv xs) (S : ByteArray) (hS : S.size < 2147483648) :
    ∃ (W : World) (B C : Nat), Sem.run Try.prog (convert 9 26 (.string S)) w = .ok (.slice (some ⟨B, 0, none⟩) (bytesOf S).length C) W ∧ Below w.heap.size w W ∧
      Kd.F (Kd.int .u8) W (fun k => k ≠ Sg ∧ k ≠ Wg ∧ ∀ v, W.heap[Sg]? = some (.cells #[v] 53 (0, 0)) → some k ≠ v.ownBlock) (some ⟨B, 0, none⟩) (bytesOf S).length (bytesOf S) := by
  have kb := print_bytes (P := Try.prog) 9 26 5 Try.underlying9 Try.underlying26 Try.underlying5 S w
  have hrd := bytes_reads w 5 S (by omega)
  have hbw := bytes_below (Below.refl w.heap.size w) (Nat.le_refl _) 5 S
  obtain ⟨v, h1, h2⟩ := hst.hS
  obtain ⟨ws, h3, _⟩ := hst.hW
  refine ⟨Lib.bytesWorld w 5 S, w.heap.size, _, by rw [bytesOf_length]; exact kb, hbw, ?_⟩
  intro W' hW'
  have hB : W'.heap[w.heap.size]? = (Lib.bytesWorld w 5 S).heap[w.heap.size]? := by
    refine hW' w.heap.size ⟨fun e => by have := blk_lt h1; omega, fun e => by have := blk_lt h3; omega, fun u hu e => ?_⟩ (by rw [Lib.bytesWorld_size]; omega)
    have hv := (blk_below h1 hbw).symm.trans hu
    injection hv with hv
    injection hv with hv
    have huv : v = u := by
      have := congrArg (fun a : Array Value => a[0]?) hv
      simpa using this
    subst huv
    have := Kd.R_lt h2 _ e.symm
    omega
  rw [bytesOf_length]
  refine Kd.C_of_reads (d := 0) ⟨hrd.1, hrd.2.1, fun hn => ?_⟩
  obtain ⟨ad, e, hc⟩ := hrd.2.2 hn
  refine ⟨ad, e, fun j hj => ?_⟩
  refine Eq.trans ?_ (hc j hj)
  obtain rfl := Option.some.inj e
  rw [add_plain]
  unfold World.cell?
  rw [hB]

set_option maxHeartbeats 4000000 in
set_option maxRecDepth 100000 in
theorem wr7_b (w : World) (base Sg Wg T Pg PT : Nat) (ps : Array Value) (pv : Value) (xs : List Int) (n : Int) (S : ByteArray) (a b : Int) (d : Bool) (hst : St w base Sg Wg T 0 10 Pg PT ps pv xs) (hS : S.size < 2147483648) (hl : xs.length < 800000000) :
    Calls Try.prog 17 #[.agg #[.int .i64 7, .int .i64 n, .string S, .int .i64 a, .int .i64 b, .bool d], .iface 163 (.pointer (some ⟨Wg, 0, none⟩))] w fun e w' => e = .returned (.bool true) ∧ St w' base Sg Wg T 0 10 Pg PT ps pv (xs ++ (hib 4 (bytesOf S).length ++ bytesOf S)) ∧ Below base w w' ∧ Rest w w' Sg Wg := by
  have HST := Aside0.mk hst
  have HLS := Aside0.mk (show (bytesOf S).length < 2147483648 by rw [bytesOf_length]; exact hS)
  clear hst
  go_enter Try.func17, Try.ntmps17
  go_wp2_with (first | ((with_reducible refine gate_dst (N := 2) rfl ?_); refine box_event ?xhg (N := 2) ?xhd (cs := #[.int .i64 7, .int .i64 n, .string S, .int .i64 a, .int .i64 b, .bool d]) (t := 30) ?xhr ?_; (case xhd => rfl); (case xhg => rfl); (case xhr => first | (go_simp; done) | (go_simp; rfl)); intro Bg hG w1 hb1 hg1; have HHELD := Aside0.mk (fun w' (hr : Rest w1 w' Sg Wg) => HST.out.held hg1 hb1 (Nat.le_of_eq hG.symm) hr); have HS1 := Aside0.mk (HST.out.below hg1); have HB1 := Aside0.mk (hg1.mono HST.out.b3); have HR1 := Aside0.mk (Rest.below (Sg := Sg) (Wg := Wg) (Below.refl w1.heap.size w1)); have HR0 := Aside0.mk (Rest.below (Sg := Sg) (Wg := Wg) hg1); have c1_0 : w1.cell? ⟨Bg, 0, none⟩ = some (.int .i64 7) := (blk_cell hb1 0).trans rfl; have c1_1 : w1.cell? ⟨Bg, 1, none⟩ = some (.int .i64 n) := (blk_cell hb1 1).trans rfl; have c1_2 : w1.cell? ⟨Bg, 2, none⟩ = some (.string S) := (blk_cell hb1 2).trans rfl; have c1_3 : w1.cell? ⟨Bg, 3, none⟩ = some (.int .i64 a) := (blk_cell hb1 3).trans rfl; have c1_4 : w1.cell? ⟨Bg, 4, none⟩ = some (.int .i64 b) := (blk_cell hb1 4).trans rfl; have c1_5 : w1.cell? ⟨Bg, 5, none⟩ = some (.bool d) := (blk_cell hb1 5).trans rfl; obtain ⟨W2, B2, C2, kb, hb2, hF2⟩ := made_bytes HS1.out S hS; have HSB := Aside0.mk (HS1.out.below hb2); have HFB := Aside0.mk hF2; have HBB := Aside0.mk (HB1.out.trans (hb2.mono HS1.out.b3)); have HRB := Aside0.mk (HR1.out.trans (Rest.below (Sg := Sg) (Wg := Wg) hb2)); clear hb1 hg1 hG hb2 hF2) | (go_at_call 81; (with_reducible refine (w_blob _ base Sg Wg T 0 10 Pg PT ps pv _ (bytesOf S) (some ⟨B2, 0, none⟩) C2 HSB.out HLS.out HFB.out (by (try simp only [List.length_append, List.length_cons, List.length_nil, hib_len, vbytes_len, bytesOf_length]); omega)).mono ?_); rintro e w2 ⟨rfl, hs, hb, hr⟩; have HS2 := Aside0.mk hs; have HB2 := Aside0.mk (HBB.out.trans hb); have HR2 := Aside0.mk (HRB.out.trans hr); clear hs hb hr))
  go_ret
  exact ⟨rfl, HS2.out, HB2.out, HR0.out.trans HR2.out⟩

set_option maxHeartbeats 4000000 in
set_option maxRecDepth 100000 in
theorem wr7_c (w : World) (base Sg Wg T Pg PT : Nat) (ps : Array Value) (pv : Value) (xs : List Int) (n : Int) (S : ByteArray) (a b : Int) (d : Bool) (hst : St w base Sg Wg T 1 21 Pg PT ps pv xs) (hS : S.size < 2147483648) (j : Nat) (hj : j < 10) (hn : nb j ((bytesOf S).length : Int)) (hl : xs.length < 800000000) :
    Calls Try.prog 17 #[.agg #[.int .i64 7, .int .i64 n, .string S, .int .i64 a, .int .i64 b, .bool d], .iface 169 (.pointer (some ⟨Wg, 0, none⟩))] w fun e w' => e = .returned (.bool true) ∧ St w' base Sg Wg T 1 21 Pg PT ps pv (xs ++ (vbytes j (bytesOf S).length ++ bytesOf S)) ∧ Below base w w' ∧ Rest w w' Sg Wg := by
  have HST := Aside0.mk hst
  have HLS := Aside0.mk (show (bytesOf S).length < 2147483648 by rw [bytesOf_length]; exact hS)
  have HN := Aside0.mk hn
  clear hn
  clear hst
  go_enter Try.func17, Try.ntmps17
  go_wp2_with (first | ((with_reducible refine gate_dst (N := 2) rfl ?_); refine box_event ?xhg (N := 2) ?xhd (cs := #[.int .i64 7, .int .i64 n, .string S, .int .i64 a, .int .i64 b, .bool d]) (t := 30) ?xhr ?_; (case xhd => rfl); (case xhg => rfl); (case xhr => first | (go_simp; done) | (go_simp; rfl)); intro Bg hG w1 hb1 hg1; have HHELD := Aside0.mk (fun w' (hr : Rest w1 w' Sg Wg) => HST.out.held hg1 hb1 (Nat.le_of_eq hG.symm) hr); have HS1 := Aside0.mk (HST.out.below hg1); have HB1 := Aside0.mk (hg1.mono HST.out.b3); have HR1 := Aside0.mk (Rest.below (Sg := Sg) (Wg := Wg) (Below.refl w1.heap.size w1)); have HR0 := Aside0.mk (Rest.below (Sg := Sg) (Wg := Wg) hg1); have c1_0 : w1.cell? ⟨Bg, 0, none⟩ = some (.int .i64 7) := (blk_cell hb1 0).trans rfl; have c1_1 : w1.cell? ⟨Bg, 1, none⟩ = some (.int .i64 n) := (blk_cell hb1 1).trans rfl; have c1_2 : w1.cell? ⟨Bg, 2, none⟩ = some (.string S) := (blk_cell hb1 2).trans rfl; have c1_3 : w1.cell? ⟨Bg, 3, none⟩ = some (.int .i64 a) := (blk_cell hb1 3).trans rfl; have c1_4 : w1.cell? ⟨Bg, 4, none⟩ = some (.int .i64 b) := (blk_cell hb1 4).trans rfl; have c1_5 : w1.cell? ⟨Bg, 5, none⟩ = some (.bool d) := (blk_cell hb1 5).trans rfl; obtain ⟨W2, B2, C2, kb, hb2, hF2⟩ := made_bytes HS1.out S hS; have HSB := Aside0.mk (HS1.out.below hb2); have HFB := Aside0.mk hF2; have HBB := Aside0.mk (HB1.out.trans (hb2.mono HS1.out.b3)); have HRB := Aside0.mk (HR1.out.trans (Rest.below (Sg := Sg) (Wg := Wg) hb2)); clear hb1 hg1 hG hb2 hF2) | (go_at_call 125; (with_reducible refine (c_blob _ base Sg Wg T Pg PT ps pv _ (bytesOf S) (some ⟨B2, 0, none⟩) C2 HSB.out HLS.out j hj HN.out HFB.out (by (try simp only [List.length_append, List.length_cons, List.length_nil, hib_len, vbytes_len, bytesOf_length]); omega)).mono ?_); rintro e w2 ⟨rfl, hs, hb, hr⟩; have HS2 := Aside0.mk hs; have HB2 := Aside0.mk (HBB.out.trans hb); have HR2 := Aside0.mk (HRB.out.trans hr); clear hs hb hr))
  go_ret
  exact ⟨rfl, HS2.out, HB2.out, HR0.out.trans HR2.out⟩
end Go.Proofs.Ytmjilokgpgajjaa.Th

namespace Go.Proofs.Ytmjilokgpgajjaa.Th
open Go.RowKit Go.Proofs.YtmjilokgpgajjaaW.PrintWords Go.Proofs.YtmjilokgpgajjaaW.PrintLast Go.Proofs.YtmjilokgpgajjaaW.PrintMore Go.Proofs.Ytmjilokgpgajjaa.PFnTHWrites
set_option linter.unusedVariables false
set_option linter.unusedSimpArgs false

set_option maxHeartbeats 4000000 in
set_option maxRecDepth 100000 in
theorem protocol_0 (w : World) : Calls Try.prog 16 #[.int .i64 0] w fun e w' => e = .returned (.iface 70 (.pointer (some ⟨w.heap.size, 0, none⟩))) ∧ w'.heap[w.heap.size]? = some (.cells #[.bool false] 72 (0, 0)) ∧ Below w.heap.size w w' := by
  go_enter Try.func16, Try.ntmps16
  go_wp2_with (((with_reducible refine gate_dst (N := 15) rfl ?_); refine box_event ?xhg (N := 15) ?xhd (cs := #[.bool false]) (t := 72) ?xhr ?_; (case xhd => rfl); (case xhg => rfl); (case xhr => first | (go_simp; done) | (go_simp; rfl)); intro Bg hG w1 hb1 hg1; subst hG))
  go_ret
  exact ⟨rfl, hb1, hg1⟩

set_option maxHeartbeats 4000000 in
set_option maxRecDepth 100000 in
theorem protocol_1 (w : World) : Calls Try.prog 16 #[.int .i64 1] w fun e w' => e = .returned (.iface 70 (.pointer (some ⟨w.heap.size, 0, none⟩))) ∧ w'.heap[w.heap.size]? = some (.cells #[.bool true] 72 (0, 0)) ∧ Below w.heap.size w w' := by
  go_enter Try.func16, Try.ntmps16
  go_wp2_with (((with_reducible refine gate_dst (N := 7) rfl ?_); refine box_event ?xhg (N := 7) ?xhd (cs := #[.bool true]) (t := 72) ?xhr ?_; (case xhd => rfl); (case xhg => rfl); (case xhr => first | (go_simp; done) | (go_simp; rfl)); intro Bg hG w1 hb1 hg1; subst hG))
  go_ret
  exact ⟨rfl, hb1, hg1⟩

set_option maxHeartbeats 4000000 in
set_option maxRecDepth 100000 in
theorem protocol_2 (w : World) : Calls Try.prog 16 #[.int .i64 2] w fun e w' => e = .returned (.iface 73 (.pointer (some ⟨w.heap.size, 0, none⟩))) ∧ w'.heap[w.heap.size]? = some (.cells #[] 75 (0, 0)) ∧ Below w.heap.size w w' := by
  go_enter Try.func16, Try.ntmps16
  go_wp2_with (((with_reducible refine gate_dst (N := 12) rfl ?_); refine box_event ?xhg (N := 12) ?xhd (cs := #[]) (t := 75) ?xhr ?_; (case xhd => rfl); (case xhg => rfl); (case xhr => first | (go_simp; done) | (go_simp; rfl)); intro Bg hG w1 hb1 hg1; subst hG))
  go_ret
  exact ⟨rfl, hb1, hg1⟩

set_option maxHeartbeats 4000000 in
set_option maxRecDepth 100000 in
theorem new_b (w : World) (Pg Sg : Nat) : Calls Try.prog 46 #[.pointer (some ⟨Pg, 0, none⟩), .iface 51 (.pointer (some ⟨Sg, 0, none⟩))] w fun e w' => e = .returned (.iface 163 (.pointer (some ⟨w.heap.size, 0, none⟩))) ∧ w'.heap[w.heap.size]? = some (.cells #[.pointer (some ⟨Pg, 0, none⟩), .int .u8 0, .int .u8 0, .int .u8 0, .int .u8 0, .int .u8 0, .int .u8 0, .int .u8 0, .int .u8 0, .iface 51 (.pointer (some ⟨Sg, 0, none⟩))] 165 (0, 0)) ∧ Below w.heap.size w w' := by
  go_enter Try.func46, Try.ntmps46
  go_wp2_with (((with_reducible refine gate_dst (N := 8) rfl ?_); refine box_event ?xhg (N := 8) ?xhd (cs := #[.pointer (some ⟨Pg, 0, none⟩), .int .u8 0, .int .u8 0, .int .u8 0, .int .u8 0, .int .u8 0, .int .u8 0, .int .u8 0, .int .u8 0, .iface 51 (.pointer (some ⟨Sg, 0, none⟩))]) (t := 165) ?xhr ?_; (case xhd => rfl); (case xhg => rfl); (case xhr => first | (go_simp; done) | (go_simp; rfl)); intro Bg hG w1 hb1 hg1; subst hG))
  go_ret
  exact ⟨rfl, hb1, hg1⟩

set_option maxHeartbeats 4000000 in
set_option maxRecDepth 100000 in
theorem new_c (w : World) (Pg Sg : Nat) : Calls Try.prog 49 #[.pointer (some ⟨Pg, 0, none⟩), .iface 51 (.pointer (some ⟨Sg, 0, none⟩))] w fun e w' => e = .returned (.iface 169 (.pointer (some ⟨w.heap.size, 0, none⟩))) ∧ w'.heap[w.heap.size]? = some (.cells #[.pointer (some ⟨Pg, 0, none⟩), .pointer none, .int .u8 0, .int .u8 0, .int .u8 0, .int .u8 0, .int .u8 0, .int .u8 0, .int .u8 0, .int .u8 0, .iface 51 (.pointer (some ⟨Sg, 0, none⟩)), .int .u8 0, .int .u8 0, .int .u8 0, .int .u8 0, .int .u8 0, .int .u8 0, .int .u8 0, .int .u8 0, .int .u8 0, .int .u8 0] 172 (0, 0)) ∧ Below w.heap.size w w' := by
  go_enter Try.func49, Try.ntmps49
  go_wp2_with (((with_reducible refine gate_dst (N := 9) rfl ?_); refine box_event ?xhg (N := 9) ?xhd (cs := #[.pointer (some ⟨Pg, 0, none⟩), .pointer none, .int .u8 0, .int .u8 0, .int .u8 0, .int .u8 0, .int .u8 0, .int .u8 0, .int .u8 0, .int .u8 0, .iface 51 (.pointer (some ⟨Sg, 0, none⟩)), .int .u8 0, .int .u8 0, .int .u8 0, .int .u8 0, .int .u8 0, .int .u8 0, .int .u8 0, .int .u8 0, .int .u8 0, .int .u8 0]) (t := 172) ?xhr ?_; (case xhd => rfl); (case xhg => rfl); (case xhr => first | (go_simp; done) | (go_simp; rfl)); intro Bg hG w1 hb1 hg1; subst hG))
  go_ret
  exact ⟨rfl, hb1, hg1⟩
end Go.Proofs.Ytmjilokgpgajjaa.Th
