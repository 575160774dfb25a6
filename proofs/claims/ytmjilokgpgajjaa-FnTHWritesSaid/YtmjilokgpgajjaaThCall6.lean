/- A writer's call for a number with parts of 1, by its bits; and the compact protocol's end of a struct. -/
import Derived.Test.YtmjilokgpgajjaaThM7
namespace Go.Proofs.Ytmjilokgpgajjaa.Th
open Go.RowKit Go.Proofs.YtmjilokgpgajjaaW.PrintWords Go.Proofs.YtmjilokgpgajjaaW.PrintLast Go.Proofs.YtmjilokgpgajjaaW.PrintMore Go.Proofs.Ytmjilokgpgajjaa.PFnTHWrites
set_option linter.unusedVariables false
set_option linter.unusedSimpArgs false
theorem frombits (n : Int) (w : World) : Sem.run Try.prog (callFunc 22 #[.int .u64 n]) w = .ok (.value (.float .f64 n.toNat)) w := by
  rw [run_callFunc_extern Try.func22 (by kernel_rfl) (by kernel_rfl) (by kernel_rfl) (e := Extern.MathFloatBits.float64frombits) (by kernel_rfl)]
  rfl
theorem bits_wrap (n : Int) : ((IntKind.u64.wrap n).toNat : Int) = IntKind.u64.wrap n := by simp only [IntKind.wrap_u64]; omega

set_option maxHeartbeats 4000000 in
set_option maxRecDepth 100000 in
theorem wr6_b (w : World) (base Sg Wg T Pg PT : Nat) (ps : Array Value) (pv : Value) (xs : List Int) (n : Int) (S : ByteArray) (a b : Int) (d : Bool) (m : Nat) (hst : St w base Sg Wg T 0 10 Pg PT ps pv xs) (hm : (IntKind.u64.wrap n).toNat = m) (h1 : m < 18446744073709551616) (hl : xs.length < 800000000) :
    Calls Try.prog 17 #[.agg #[.int .i64 6, .int .i64 n, .string S, .int .i64 a, .int .i64 b, .bool d], .iface 163 (.pointer (some ⟨Wg, 0, none⟩))] w fun e w' => e = .returned (.bool true) ∧ St w' base Sg Wg T 0 10 Pg PT ps pv (xs ++ hib 8 (m : Int)) ∧ Below base w w' ∧ Rest w w' Sg Wg := by
  have HST := Aside0.mk hst
  have hx : ∀ W, Sem.run Try.prog (callFunc 22 #[.int .u64 (IntKind.u64.wrap n)]) W = .ok (.value (.float .f64 m)) W := fun W => by rw [frombits, hm]
  have nh : ∀ (k : Nat) (W : World), Sem.run Try.prog (nilAhead (k + 3) 163 (.pointer (some ⟨Wg, 0, none⟩)) "WriteFloat64") W = .ok (some false) W := fun k W => by kernel_rfl
  clear hm
  clear hst
  go_enter Try.func17, Try.ntmps17
  go_upto_region 13 with ((with_reducible refine gate_dst (N := 2) rfl ?_); refine box_event ?xhg (N := 2) ?xhd (cs := #[.int .i64 6, .int .i64 n, .string S, .int .i64 a, .int .i64 b, .bool d]) (t := 30) ?xhr ?_; (case xhd => rfl); (case xhg => rfl); (case xhr => first | (go_simp; done) | (go_simp; rfl)); intro Bg hG w1 hb1 hg1; have HHELD := Aside0.mk (fun w' (hr : Rest w1 w' Sg Wg) => HST.out.held hg1 hb1 (Nat.le_of_eq hG.symm) hr); have HS1 := Aside0.mk (HST.out.below hg1); have HB1 := Aside0.mk (hg1.mono HST.out.b3); have HR1 := Aside0.mk (Rest.below (Sg := Sg) (Wg := Wg) (Below.refl w1.heap.size w1)); have HR0 := Aside0.mk (Rest.below (Sg := Sg) (Wg := Wg) hg1); have c1_0 : w1.cell? ⟨Bg, 0, none⟩ = some (.int .i64 6) := (blk_cell hb1 0).trans rfl; have c1_1 : w1.cell? ⟨Bg, 1, none⟩ = some (.int .i64 n) := (blk_cell hb1 1).trans rfl; have c1_2 : w1.cell? ⟨Bg, 2, none⟩ = some (.string S) := (blk_cell hb1 2).trans rfl; have c1_3 : w1.cell? ⟨Bg, 3, none⟩ = some (.int .i64 a) := (blk_cell hb1 3).trans rfl; have c1_4 : w1.cell? ⟨Bg, 4, none⟩ = some (.int .i64 b) := (blk_cell hb1 4).trans rfl; have c1_5 : w1.cell? ⟨Bg, 5, none⟩ = some (.bool d) := (blk_cell hb1 5).trans rfl; clear hb1 hg1 hG)
  have HSD := Aside0.mk (HS1.out.below (below_drew (Below.refl _ w1)))
  have HBD := Aside0.mk (below_drew HB1.out)
  have HRD := Aside0.mk (HR1.out.trans (Rest.below (Sg := Sg) (Wg := Wg) (below_drew (Below.refl _ w1))))
  go_region_with (go_at_call 83; (with_reducible refine (w_float _ base Sg Wg T 0 10 Pg PT ps pv _ m HSD.out h1 (by (try simp only [List.length_append, List.length_cons, List.length_nil, hib_len, vbytes_len, bytesOf_length]); omega)).mono ?_); rintro e w2 ⟨rfl, hs, hb, hr⟩; have HS2 := Aside0.mk hs; have HB2 := Aside0.mk (HBD.out.trans hb); have HR2 := Aside0.mk (HRD.out.trans hr); clear hs hb hr)
  all_goals
    go_wp2_with fail
    go_ret
    exact ⟨rfl, HS2.out, HB2.out, HR0.out.trans HR2.out⟩

set_option maxHeartbeats 4000000 in
set_option maxRecDepth 100000 in
theorem wr6_c (w : World) (base Sg Wg T Pg PT : Nat) (ps : Array Value) (pv : Value) (xs : List Int) (n : Int) (S : ByteArray) (a b : Int) (d : Bool) (m : Nat) (hst : St w base Sg Wg T 1 21 Pg PT ps pv xs) (hm : (IntKind.u64.wrap n).toNat = m) (h1 : m < 18446744073709551616) (hl : xs.length < 800000000) :
    Calls Try.prog 17 #[.agg #[.int .i64 6, .int .i64 n, .string S, .int .i64 a, .int .i64 b, .bool d], .iface 169 (.pointer (some ⟨Wg, 0, none⟩))] w fun e w' => e = .returned (.bool true) ∧ St w' base Sg Wg T 1 21 Pg PT ps pv (xs ++ hib 8 (m : Int)) ∧ Below base w w' ∧ Rest w w' Sg Wg := by
  have HST := Aside0.mk hst
  have hx : ∀ W, Sem.run Try.prog (callFunc 22 #[.int .u64 (IntKind.u64.wrap n)]) W = .ok (.value (.float .f64 m)) W := fun W => by rw [frombits, hm]
  have nh : ∀ (k : Nat) (W : World), Sem.run Try.prog (nilAhead (k + 3) 169 (.pointer (some ⟨Wg, 0, none⟩)) "WriteFloat64") W = .ok (some false) W := fun k W => by kernel_rfl
  clear hm
  clear hst
  go_enter Try.func17, Try.ntmps17
  go_upto_region 13 with ((with_reducible refine gate_dst (N := 2) rfl ?_); refine box_event ?xhg (N := 2) ?xhd (cs := #[.int .i64 6, .int .i64 n, .string S, .int .i64 a, .int .i64 b, .bool d]) (t := 30) ?xhr ?_; (case xhd => rfl); (case xhg => rfl); (case xhr => first | (go_simp; done) | (go_simp; rfl)); intro Bg hG w1 hb1 hg1; have HHELD := Aside0.mk (fun w' (hr : Rest w1 w' Sg Wg) => HST.out.held hg1 hb1 (Nat.le_of_eq hG.symm) hr); have HS1 := Aside0.mk (HST.out.below hg1); have HB1 := Aside0.mk (hg1.mono HST.out.b3); have HR1 := Aside0.mk (Rest.below (Sg := Sg) (Wg := Wg) (Below.refl w1.heap.size w1)); have HR0 := Aside0.mk (Rest.below (Sg := Sg) (Wg := Wg) hg1); have c1_0 : w1.cell? ⟨Bg, 0, none⟩ = some (.int .i64 6) := (blk_cell hb1 0).trans rfl; have c1_1 : w1.cell? ⟨Bg, 1, none⟩ = some (.int .i64 n) := (blk_cell hb1 1).trans rfl; have c1_2 : w1.cell? ⟨Bg, 2, none⟩ = some (.string S) := (blk_cell hb1 2).trans rfl; have c1_3 : w1.cell? ⟨Bg, 3, none⟩ = some (.int .i64 a) := (blk_cell hb1 3).trans rfl; have c1_4 : w1.cell? ⟨Bg, 4, none⟩ = some (.int .i64 b) := (blk_cell hb1 4).trans rfl; have c1_5 : w1.cell? ⟨Bg, 5, none⟩ = some (.bool d) := (blk_cell hb1 5).trans rfl; clear hb1 hg1 hG)
  have HSD := Aside0.mk (HS1.out.below (below_drew (Below.refl _ w1)))
  have HBD := Aside0.mk (below_drew HB1.out)
  have HRD := Aside0.mk (HR1.out.trans (Rest.below (Sg := Sg) (Wg := Wg) (below_drew (Below.refl _ w1))))
  go_region_with (go_at_call 127; (with_reducible refine (c_float _ base Sg Wg T Pg PT ps pv _ m HSD.out h1 (by (try simp only [List.length_append, List.length_cons, List.length_nil, hib_len, vbytes_len, bytesOf_length]); omega)).mono ?_); rintro e w2 ⟨rfl, hs, hb, hr⟩; have HS2 := Aside0.mk hs; have HB2 := Aside0.mk (HBD.out.trans hb); have HR2 := Aside0.mk (HRD.out.trans hr); clear hs hb hr)
  all_goals
    go_wp2_with fail
    go_ret
    exact ⟨rfl, HS2.out, HB2.out, HR0.out.trans HR2.out⟩
end Go.Proofs.Ytmjilokgpgajjaa.Th
