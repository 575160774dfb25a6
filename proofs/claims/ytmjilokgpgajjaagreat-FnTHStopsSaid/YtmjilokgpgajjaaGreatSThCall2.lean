/- Calls of a writer through its interface: what each kind of call writes. -/
import Derived.Test.YtmjilokgpgajjaaGreatSThM7
namespace Go.Proofs.YtmjilokgpgajjaaGreat.Th
open Go.RowKit Go.Proofs.YtmjilokgpgajjaaGreatW.PrintWords Go.Proofs.YtmjilokgpgajjaaGreatW.PrintLast Go.Proofs.YtmjilokgpgajjaaGreatW.PrintMore Go.Proofs.YtmjilokgpgajjaaGreat.PFnTHScripts
set_option linter.unusedVariables false
set_option linter.unusedSimpArgs false

set_option maxHeartbeats 4000000 in
set_option maxRecDepth 100000 in
theorem wh11_b (w : World) (base Sg Wg T Pg PT : Nat) (ps : Array Value) (pv : Value) (xs : List Int) (n : Int) (S : ByteArray) (a b : Int) (d : Bool) (hst : St w base Sg Wg T 0 10 Pg PT ps pv xs) (h0 : -32768 ≤ n) (h1 : n < 32768) (a0 : 0 ≤ a) (a1 : a < 100) (hl : xs.length < 800000000) :
    Calls Tryz.prog 23 #[.agg #[.int .i64 11, .int .i64 n, .string S, .int .i64 a, .int .i64 b, .bool d], .iface 161 (.pointer (some ⟨Wg, 0, none⟩))] w fun e w' => e = .returned (.bool true) ∧ St w' base Sg Wg T 0 10 Pg PT ps pv (xs ++ (IntKind.u8.wrap a :: hib 2 n)) ∧ Below base w w' ∧ Rest w w' Sg Wg := by
  have HST := Aside0.mk hst
  clear hst
  go_enter Tryz.func23, Tryz.ntmps23
  go_wp2_with (first | ((with_reducible refine gate_dst (N := 2) rfl ?_); refine box_event ?xhg (N := 2) ?xhd (cs := #[.int .i64 11, .int .i64 n, .string S, .int .i64 a, .int .i64 b, .bool d]) (t := 25) ?xhr ?_; (case xhd => rfl); (case xhg => rfl); (case xhr => first | (go_simp; done) | (go_simp; rfl)); intro Bg hG w1 hb1 hg1; have HHELD := Aside0.mk (fun w' (hr : Rest w1 w' Sg Wg) => HST.out.held hg1 hb1 (Nat.le_of_eq hG.symm) hr); have HS1 := Aside0.mk (HST.out.below hg1); have HB1 := Aside0.mk (hg1.mono HST.out.b3); have HR1 := Aside0.mk (Rest.below (Sg := Sg) (Wg := Wg) (Below.refl w1.heap.size w1)); have HR0 := Aside0.mk (Rest.below (Sg := Sg) (Wg := Wg) hg1); have c1_0 : w1.cell? ⟨Bg, 0, none⟩ = some (.int .i64 11) := (blk_cell hb1 0).trans rfl; have c1_1 : w1.cell? ⟨Bg, 1, none⟩ = some (.int .i64 n) := (blk_cell hb1 1).trans rfl; have c1_2 : w1.cell? ⟨Bg, 2, none⟩ = some (.string S) := (blk_cell hb1 2).trans rfl; have c1_3 : w1.cell? ⟨Bg, 3, none⟩ = some (.int .i64 a) := (blk_cell hb1 3).trans rfl; have c1_4 : w1.cell? ⟨Bg, 4, none⟩ = some (.int .i64 b) := (blk_cell hb1 4).trans rfl; have c1_5 : w1.cell? ⟨Bg, 5, none⟩ = some (.bool d) := (blk_cell hb1 5).trans rfl; clear hb1 hg1 hG) | (go_at_call 82; (with_reducible refine (w_field _ base Sg Wg T 0 10 Pg PT ps pv _ n a d HS1.out h0 h1 (by (try simp only [List.length_append, List.length_cons, List.length_nil, hib_len, vbytes_len, bytesOf_length]); omega)).mono ?_); rintro e w2 ⟨rfl, hs, hb, hr⟩; have HS2 := Aside0.mk hs; have HB2 := Aside0.mk (HB1.out.trans hb); have HR2 := Aside0.mk (HR1.out.trans hr); clear hs hb hr))
  go_ret
  exact ⟨rfl, HS2.out, HB2.out, HR0.out.trans HR2.out⟩

set_option maxHeartbeats 4000000 in
set_option maxRecDepth 100000 in
theorem wr11_b (w : World) (base Sg Wg T Pg PT : Nat) (ps : Array Value) (pv : Value) (xs : List Int) (n : Int) (S : ByteArray) (a b : Int) (d : Bool) (hst : St w base Sg Wg T 0 10 Pg PT ps pv xs) (h0 : -32768 ≤ n) (h1 : n < 32768) (a0 : 0 ≤ a) (a1 : a < 100) (hl : xs.length < 700000000) :
    Calls Tryz.prog 17 #[.agg #[.int .i64 11, .int .i64 n, .string S, .int .i64 a, .int .i64 b, .bool d], .iface 161 (.pointer (some ⟨Wg, 0, none⟩))] w fun e w' => e = .returned (.bool true) ∧ St w' base Sg Wg T 0 10 Pg PT ps pv (xs ++ (IntKind.u8.wrap a :: hib 2 n)) ∧ Below base w w' ∧ Rest w w' Sg Wg := by
  have HST := Aside0.mk hst
  clear hst
  go_enter Tryz.func17, Tryz.ntmps17
  go_wp2_with (first | ((with_reducible refine gate_dst (N := 2) rfl ?_); refine box_event ?xhg (N := 2) ?xhd (cs := #[.int .i64 11, .int .i64 n, .string S, .int .i64 a, .int .i64 b, .bool d]) (t := 25) ?xhr ?_; (case xhd => rfl); (case xhg => rfl); (case xhr => first | (go_simp; done) | (go_simp; rfl)); intro Bg hG w1 hb1 hg1; have HHELD := Aside0.mk (fun w' (hr : Rest w1 w' Sg Wg) => HST.out.held hg1 hb1 (Nat.le_of_eq hG.symm) hr); have HS1 := Aside0.mk (HST.out.below hg1); have HB1 := Aside0.mk (hg1.mono HST.out.b3); have HR1 := Aside0.mk (Rest.below (Sg := Sg) (Wg := Wg) (Below.refl w1.heap.size w1)); have HR0 := Aside0.mk (Rest.below (Sg := Sg) (Wg := Wg) hg1); have c1_0 : w1.cell? ⟨Bg, 0, none⟩ = some (.int .i64 11) := (blk_cell hb1 0).trans rfl; have c1_1 : w1.cell? ⟨Bg, 1, none⟩ = some (.int .i64 n) := (blk_cell hb1 1).trans rfl; have c1_2 : w1.cell? ⟨Bg, 2, none⟩ = some (.string S) := (blk_cell hb1 2).trans rfl; have c1_3 : w1.cell? ⟨Bg, 3, none⟩ = some (.int .i64 a) := (blk_cell hb1 3).trans rfl; have c1_4 : w1.cell? ⟨Bg, 4, none⟩ = some (.int .i64 b) := (blk_cell hb1 4).trans rfl; have c1_5 : w1.cell? ⟨Bg, 5, none⟩ = some (.bool d) := (blk_cell hb1 5).trans rfl; clear hb1 hg1 hG) | (go_at_call 23; (with_reducible refine (wh11_b _ base Sg Wg T Pg PT ps pv _ n S a b d HS1.out h0 h1 a0 a1 (by (try simp only [List.length_append, List.length_cons, List.length_nil, hib_len, vbytes_len, bytesOf_length]); omega)).mono ?_); rintro e w2 ⟨rfl, hs, hb, hr⟩; have HS2 := Aside0.mk hs; have HB2 := Aside0.mk (HB1.out.trans hb); have HR2 := Aside0.mk (HR1.out.trans hr); clear hs hb hr))
  go_ret
  exact ⟨rfl, HS2.out, HB2.out, HR0.out.trans HR2.out⟩

end Go.Proofs.YtmjilokgpgajjaaGreat.Th

