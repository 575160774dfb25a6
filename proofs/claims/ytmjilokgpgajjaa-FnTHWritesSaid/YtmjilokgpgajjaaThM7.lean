/- Merged by merge.py (wip/tpl) out of ThComp3, ThCall: What a compact writer's calls for heads write. Calls of a writer through its interface: what each kind of call writes. -/
import Derived.Test.YtmjilokgpgajjaaThM1
namespace Go.Proofs.Ytmjilokgpgajjaa.Th
open Go.RowKit Go.Proofs.YtmjilokgpgajjaaW.PrintWords Go.Proofs.YtmjilokgpgajjaaW.PrintLast Go.Proofs.YtmjilokgpgajjaaW.PrintMore Go.Proofs.Ytmjilokgpgajjaa.PFnTHWrites
set_option linter.unusedVariables false
set_option linter.unusedSimpArgs false

set_option maxHeartbeats 4000000 in
set_option maxRecDepth 100000 in
theorem c_message (w : World) (base Sg Wg T Pg PT : Nat) (ps : Array Value) (pv : Value) (xs : List Int) (mt id : Int) (S : ByteArray) (hst : St w base Sg Wg T 1 21 Pg PT ps pv xs) (h0 : 0 ≤ id) (h1 : id < 2147483648) (hS : S.size < 2147483648) (j : Nat) (hj : j < 10) (hn : nb j id) (j2 : Nat) (hj2 : j2 < 10) (hn2 : nb j2 (S.size : Int)) (hl : xs.length < 900000000) :
    Calls Try.prog 135 #[.pointer (some ⟨Wg, 0, none⟩), .agg #[.int .i8 mt, .string S, .int .i32 id]] w fun e w' => e = .returned .nilIface ∧ St w' base Sg Wg T 1 21 Pg PT ps pv (xs ++ (130 :: IntKind.u8.wrap mt :: (vbytes j id ++ (vbytes j2 S.size ++ bytesOf S)))) ∧ Below base w w' ∧ Rest w w' Sg Wg := by
  have HST := Aside0.mk hst
  have HN := Aside0.mk hn
  have HN2 := Aside0.mk hn2
  clear hn hn2
  clear hst
  go_enter Try.func135, Try.ntmps135
  go_upto_region 4 with (first | ((with_reducible refine gate_dst (N := 3) rfl ?_); refine box_event ?xhg (N := 3) ?xhd (cs := #[.int .i8 mt, .string S, .int .i32 id]) (t := 114) ?xhr ?_; (case xhd => rfl); (case xhg => rfl); (case xhr => first | (go_simp; done) | (go_simp; rfl)); intro Bg hG w1 hb1 hg1; have HHELD := Aside0.mk (fun w' (hr : Rest w1 w' Sg Wg) => HST.out.held hg1 hb1 (Nat.le_of_eq hG.symm) hr); have HS1 := Aside0.mk (HST.out.below hg1); have HB1 := Aside0.mk (hg1.mono HST.out.b3); have HR1 := Aside0.mk (Rest.below (Sg := Sg) (Wg := Wg) (Below.refl w1.heap.size w1)); have HR0 := Aside0.mk (Rest.below (Sg := Sg) (Wg := Wg) hg1); have c1_0 : w1.cell? ⟨Bg, 0, none⟩ = some (.int .i8 mt) := (blk_cell hb1 0).trans rfl; have c1_1 : w1.cell? ⟨Bg, 1, none⟩ = some (.string S) := (blk_cell hb1 1).trans rfl; have c1_2 : w1.cell? ⟨Bg, 2, none⟩ = some (.int .i32 id) := (blk_cell hb1 2).trans rfl; clear hb1 hg1 hG) | (go_at_call 95; (with_reducible refine (w_byte _ base Sg Wg T 1 21 Pg PT ps pv _ _ HS1.out (by (try simp only [List.length_append, List.length_cons, List.length_nil, hib_len, vbytes_len, bytesOf_length]); omega)).mono ?_); rintro e w2 ⟨rfl, hs, hb, hr⟩; have HS2 := Aside0.mk hs; have HB2 := Aside0.mk (HB1.out.trans hb); have HR2 := Aside0.mk (HR1.out.trans hr); have HK2 := Aside0.mk (HHELD.out _ HR2.out); have c2_0 : w2.cell? ⟨Bg, 0, none⟩ = some (.int .i8 mt) := (blk_cell HK2.out 0).trans rfl; have c2_1 : w2.cell? ⟨Bg, 1, none⟩ = some (.string S) := (blk_cell HK2.out 1).trans rfl; have c2_2 : w2.cell? ⟨Bg, 2, none⟩ = some (.int .i32 id) := (blk_cell HK2.out 2).trans rfl; clear hs hb hr))
  have HSD := Aside0.mk (HS2.out.below (below_drew (Below.refl _ _)))
  have HBD := Aside0.mk (below_drew HB2.out)
  have HRD := Aside0.mk (HR2.out.trans (Rest.below (Sg := Sg) (Wg := Wg) (below_drew (Below.refl w2.heap.size w2))))
  go_region_with (go_at_call 95; (with_reducible refine (w_byte _ base Sg Wg T 1 21 Pg PT ps pv _ _ HSD.out (by (try simp only [List.length_append, List.length_cons, List.length_nil, hib_len, vbytes_len, bytesOf_length]); omega)).mono ?_); rintro e w3 ⟨rfl, hs, hb, hr⟩; have HS3 := Aside0.mk hs; have HB3 := Aside0.mk (HBD.out.trans hb); have HR3 := Aside0.mk (HRD.out.trans hr); have HK3 := Aside0.mk (HHELD.out _ HR3.out); have c3_0 : w3.cell? ⟨Bg, 0, none⟩ = some (.int .i8 mt) := (blk_cell HK3.out 0).trans rfl; have c3_1 : w3.cell? ⟨Bg, 1, none⟩ = some (.string S) := (blk_cell HK3.out 1).trans rfl; have c3_2 : w3.cell? ⟨Bg, 2, none⟩ = some (.int .i32 id) := (blk_cell HK3.out 2).trans rfl; clear hs hb hr)
  all_goals
    go_wp2_with (first | (go_at_call 140; (with_reducible refine (c_uvar _ base Sg Wg T Pg PT ps pv _ HS3.out id (by omega) (by omega) j hj HN.out (by (try simp only [List.length_append, List.length_cons, List.length_nil, hib_len, vbytes_len, bytesOf_length]); omega)).mono ?_); rintro e w4 ⟨rfl, hs, hb, hr⟩; have HS4 := Aside0.mk hs; have HB4 := Aside0.mk (HB3.out.trans hb); have HR4 := Aside0.mk (HR3.out.trans hr); have HK4 := Aside0.mk (HHELD.out _ HR4.out); have c4_0 : w4.cell? ⟨Bg, 0, none⟩ = some (.int .i8 mt) := (blk_cell HK4.out 0).trans rfl; have c4_1 : w4.cell? ⟨Bg, 1, none⟩ = some (.string S) := (blk_cell HK4.out 1).trans rfl; have c4_2 : w4.cell? ⟨Bg, 2, none⟩ = some (.int .i32 id) := (blk_cell HK4.out 2).trans rfl; clear hs hb hr) | (go_at_call 137; (with_reducible refine (c_text _ base Sg Wg T Pg PT ps pv _ S HS4.out hS j2 hj2 HN2.out (by (try simp only [List.length_append, List.length_cons, List.length_nil, hib_len, vbytes_len, bytesOf_length]); omega)).mono ?_); rintro e w5 ⟨rfl, hs, hb, hr⟩; have HS5 := Aside0.mk hs; have HB5 := Aside0.mk (HB4.out.trans hb); have HR5 := Aside0.mk (HR4.out.trans hr); have HK5 := Aside0.mk (HHELD.out _ HR5.out); have c5_0 : w5.cell? ⟨Bg, 0, none⟩ = some (.int .i8 mt) := (blk_cell HK5.out 0).trans rfl; have c5_1 : w5.cell? ⟨Bg, 1, none⟩ = some (.string S) := (blk_cell HK5.out 1).trans rfl; have c5_2 : w5.cell? ⟨Bg, 2, none⟩ = some (.int .i32 id) := (blk_cell HK5.out 2).trans rfl; clear hs hb hr))
    go_ret
    exact ⟨rfl, by have h := HS5.out; (try simp only [List.append_assoc, List.cons_append, List.nil_append] at h); exact h, HB5.out, HR0.out.trans HR5.out⟩

set_option maxHeartbeats 4000000 in
set_option maxRecDepth 100000 in
theorem c_field_long (w : World) (base Sg Wg T Pg PT : Nat) (ps : Array Value) (pv : Value) (xs : List Int) (id ty : Int) (dl : Bool) (hst : St w base Sg Wg T 1 21 Pg PT ps pv xs) (h0 : 15 < id) (h1 : id < 32768) (ht : ty ≠ 0) (j : Nat) (hj : j < 10) (hn : nb j (zig id)) (hl : xs.length < 900000000) :
    Calls Try.prog 126 #[.pointer (some ⟨Wg, 0, none⟩), .agg #[.int .i16 id, .int .i8 ty, .bool dl]] w fun e w' => e = .returned .nilIface ∧ St w' base Sg Wg T 1 21 Pg PT ps pv (xs ++ (IntKind.u8.wrap ty :: vbytes j (zig id))) ∧ Below base w w' ∧ Rest w w' Sg Wg := by
  have HST := Aside0.mk hst
  have HN := Aside0.mk hn
  have t0 : (ty == 0) = false := beq_eq_false_iff_ne.2 ht
  have t1 : decide (id ≤ 15) = false := by simp; omega
  clear hn ht
  clear hst
  go_enter Try.func126, Try.ntmps126
  go_upto_region 5 with (first | ((with_reducible refine gate_dst (N := 3) rfl ?_); refine box_event ?xhg (N := 3) ?xhd (cs := #[.int .i16 id, .int .i8 ty, .bool dl]) (t := 117) ?xhr ?_; (case xhd => rfl); (case xhg => rfl); (case xhr => first | (go_simp; done) | (go_simp; rfl)); intro Bg hG w1 hb1 hg1; have HHELD := Aside0.mk (fun w' (hr : Rest w1 w' Sg Wg) => HST.out.held hg1 hb1 (Nat.le_of_eq hG.symm) hr); have HS1 := Aside0.mk (HST.out.below hg1); have HB1 := Aside0.mk (hg1.mono HST.out.b3); have HR1 := Aside0.mk (Rest.below (Sg := Sg) (Wg := Wg) (Below.refl w1.heap.size w1)); have HR0 := Aside0.mk (Rest.below (Sg := Sg) (Wg := Wg) hg1); have c1_0 : w1.cell? ⟨Bg, 0, none⟩ = some (.int .i16 id) := (blk_cell hb1 0).trans rfl; have c1_1 : w1.cell? ⟨Bg, 1, none⟩ = some (.int .i8 ty) := (blk_cell hb1 1).trans rfl; have c1_2 : w1.cell? ⟨Bg, 2, none⟩ = some (.bool dl) := (blk_cell hb1 2).trans rfl; clear hb1 hg1 hG))
  have HSD := Aside0.mk (HS1.out.below (below_drew (Below.refl _ _)))
  have HBD := Aside0.mk (below_drew HB1.out)
  have HRD := Aside0.mk (HR1.out.trans (Rest.below (Sg := Sg) (Wg := Wg) (below_drew (Below.refl w1.heap.size w1))))
  go_region_with (go_at_call 95; (with_reducible refine (w_byte _ base Sg Wg T 1 21 Pg PT ps pv _ _ HSD.out (by (try simp only [List.length_append, List.length_cons, List.length_nil, hib_len, vbytes_len, bytesOf_length]); omega)).mono ?_); rintro e w2 ⟨rfl, hs, hb, hr⟩; have HS2 := Aside0.mk hs; have HB2 := Aside0.mk (HBD.out.trans hb); have HR2 := Aside0.mk (HRD.out.trans hr); have HK2 := Aside0.mk (HHELD.out _ HR2.out); have c2_0 : w2.cell? ⟨Bg, 0, none⟩ = some (.int .i16 id) := (blk_cell HK2.out 0).trans rfl; have c2_1 : w2.cell? ⟨Bg, 1, none⟩ = some (.int .i8 ty) := (blk_cell HK2.out 1).trans rfl; have c2_2 : w2.cell? ⟨Bg, 2, none⟩ = some (.bool dl) := (blk_cell HK2.out 2).trans rfl; clear hs hb hr)
  all_goals
    go_wp2_with (first | (go_at_call 128; (with_reducible refine (c_int16 _ base Sg Wg T Pg PT ps pv _ id HS2.out (by omega) h1 j hj HN.out (by (try simp only [List.length_append, List.length_cons, List.length_nil, hib_len, vbytes_len, bytesOf_length]); omega)).mono ?_); rintro e w3 ⟨rfl, hs, hb, hr⟩; have HS3 := Aside0.mk hs; have HB3 := Aside0.mk (HB2.out.trans hb); have HR3 := Aside0.mk (HR2.out.trans hr); have HK3 := Aside0.mk (HHELD.out _ HR3.out); have c3_0 : w3.cell? ⟨Bg, 0, none⟩ = some (.int .i16 id) := (blk_cell HK3.out 0).trans rfl; have c3_1 : w3.cell? ⟨Bg, 1, none⟩ = some (.int .i8 ty) := (blk_cell HK3.out 1).trans rfl; have c3_2 : w3.cell? ⟨Bg, 2, none⟩ = some (.bool dl) := (blk_cell HK3.out 2).trans rfl; clear hs hb hr))
    go_ret
    exact ⟨rfl, by have h := HS3.out; (try simp only [List.append_assoc, List.cons_append, List.nil_append] at h); exact h, HB3.out, HR0.out.trans HR3.out⟩

set_option maxHeartbeats 4000000 in
set_option maxRecDepth 100000 in
theorem c_field_short (w : World) (base Sg Wg T Pg PT : Nat) (ps : Array Value) (pv : Value) (xs : List Int) (id ty : Int) (dl : Bool) (hst : St w base Sg Wg T 1 21 Pg PT ps pv xs) (h0 : id ≤ 15) (ht : ty ≠ 0) (hl : xs.length < 900000000) :
    Calls Try.prog 126 #[.pointer (some ⟨Wg, 0, none⟩), .agg #[.int .i16 id, .int .i8 ty, .bool dl]] w fun e w' => e = .returned .nilIface ∧ St w' base Sg Wg T 1 21 Pg PT ps pv (xs ++ [Go.bits .or .u8 (IntKind.u8.wrap (IntKind.i16.wrap (id * 16))) (IntKind.u8.wrap ty)]) ∧ Below base w w' ∧ Rest w w' Sg Wg := by
  have HST := Aside0.mk hst
  have t0 : (ty == 0) = false := beq_eq_false_iff_ne.2 ht
  have t1 : decide (id ≤ 15) = true := by simp; omega
  clear ht h0
  clear hst
  go_enter Try.func126, Try.ntmps126
  go_upto_region 4 with (first | ((with_reducible refine gate_dst (N := 3) rfl ?_); refine box_event ?xhg (N := 3) ?xhd (cs := #[.int .i16 id, .int .i8 ty, .bool dl]) (t := 117) ?xhr ?_; (case xhd => rfl); (case xhg => rfl); (case xhr => first | (go_simp; done) | (go_simp; rfl)); intro Bg hG w1 hb1 hg1; have HHELD := Aside0.mk (fun w' (hr : Rest w1 w' Sg Wg) => HST.out.held hg1 hb1 (Nat.le_of_eq hG.symm) hr); have HS1 := Aside0.mk (HST.out.below hg1); have HB1 := Aside0.mk (hg1.mono HST.out.b3); have HR1 := Aside0.mk (Rest.below (Sg := Sg) (Wg := Wg) (Below.refl w1.heap.size w1)); have HR0 := Aside0.mk (Rest.below (Sg := Sg) (Wg := Wg) hg1); have c1_0 : w1.cell? ⟨Bg, 0, none⟩ = some (.int .i16 id) := (blk_cell hb1 0).trans rfl; have c1_1 : w1.cell? ⟨Bg, 1, none⟩ = some (.int .i8 ty) := (blk_cell hb1 1).trans rfl; have c1_2 : w1.cell? ⟨Bg, 2, none⟩ = some (.bool dl) := (blk_cell hb1 2).trans rfl; clear hb1 hg1 hG))
  have HSD := Aside0.mk (HS1.out.below (below_drew (Below.refl _ _)))
  have HBD := Aside0.mk (below_drew HB1.out)
  have HRD := Aside0.mk (HR1.out.trans (Rest.below (Sg := Sg) (Wg := Wg) (below_drew (Below.refl w1.heap.size w1))))
  go_region_with (go_at_call 95; (with_reducible refine (w_byte _ base Sg Wg T 1 21 Pg PT ps pv _ _ HSD.out (by (try simp only [List.length_append, List.length_cons, List.length_nil, hib_len, vbytes_len, bytesOf_length]); omega)).mono ?_); rintro e w2 ⟨rfl, hs, hb, hr⟩; have HS2 := Aside0.mk hs; have HB2 := Aside0.mk (HBD.out.trans hb); have HR2 := Aside0.mk (HRD.out.trans hr); have HK2 := Aside0.mk (HHELD.out _ HR2.out); have c2_0 : w2.cell? ⟨Bg, 0, none⟩ = some (.int .i16 id) := (blk_cell HK2.out 0).trans rfl; have c2_1 : w2.cell? ⟨Bg, 1, none⟩ = some (.int .i8 ty) := (blk_cell HK2.out 1).trans rfl; have c2_2 : w2.cell? ⟨Bg, 2, none⟩ = some (.bool dl) := (blk_cell HK2.out 2).trans rfl; clear hs hb hr)
  all_goals
    go_wp2_with fail
    go_ret
    exact ⟨rfl, by have h := HS2.out; (try simp only [List.append_assoc, List.cons_append, List.nil_append] at h); exact h, HB2.out, HR0.out.trans HR2.out⟩

set_option maxHeartbeats 4000000 in
set_option maxRecDepth 100000 in
theorem c_field_stop (w : World) (base Sg Wg T Pg PT : Nat) (ps : Array Value) (pv : Value) (xs : List Int) (id : Int) (dl : Bool) (hst : St w base Sg Wg T 1 21 Pg PT ps pv xs)  (hl : xs.length < 1000000000) :
    Calls Try.prog 126 #[.pointer (some ⟨Wg, 0, none⟩), .agg #[.int .i16 id, .int .i8 0, .bool dl]] w fun e w' => e = .returned .nilIface ∧ St w' base Sg Wg T 1 21 Pg PT ps pv (xs ++ [0]) ∧ Below base w w' ∧ Rest w w' Sg Wg := by
  have HST := Aside0.mk hst
  clear hst
  go_enter Try.func126, Try.ntmps126
  go_wp2_with (first | ((with_reducible refine gate_dst (N := 3) rfl ?_); refine box_event ?xhg (N := 3) ?xhd (cs := #[.int .i16 id, .int .i8 0, .bool dl]) (t := 117) ?xhr ?_; (case xhd => rfl); (case xhg => rfl); (case xhr => first | (go_simp; done) | (go_simp; rfl)); intro Bg hG w1 hb1 hg1; have HHELD := Aside0.mk (fun w' (hr : Rest w1 w' Sg Wg) => HST.out.held hg1 hb1 (Nat.le_of_eq hG.symm) hr); have HS1 := Aside0.mk (HST.out.below hg1); have HB1 := Aside0.mk (hg1.mono HST.out.b3); have HR1 := Aside0.mk (Rest.below (Sg := Sg) (Wg := Wg) (Below.refl w1.heap.size w1)); have HR0 := Aside0.mk (Rest.below (Sg := Sg) (Wg := Wg) hg1); have c1_0 : w1.cell? ⟨Bg, 0, none⟩ = some (.int .i16 id) := (blk_cell hb1 0).trans rfl; have c1_1 : w1.cell? ⟨Bg, 1, none⟩ = some (.int .i8 0) := (blk_cell hb1 1).trans rfl; have c1_2 : w1.cell? ⟨Bg, 2, none⟩ = some (.bool dl) := (blk_cell hb1 2).trans rfl; clear hb1 hg1 hG) | (go_at_call 95; (with_reducible refine (w_byte _ base Sg Wg T 1 21 Pg PT ps pv _ _ HS1.out (by (try simp only [List.length_append, List.length_cons, List.length_nil, hib_len, vbytes_len, bytesOf_length]); omega)).mono ?_); rintro e w2 ⟨rfl, hs, hb, hr⟩; have HS2 := Aside0.mk hs; have HB2 := Aside0.mk (HB1.out.trans hb); have HR2 := Aside0.mk (HR1.out.trans hr); have HK2 := Aside0.mk (HHELD.out _ HR2.out); have c2_0 : w2.cell? ⟨Bg, 0, none⟩ = some (.int .i16 id) := (blk_cell HK2.out 0).trans rfl; have c2_1 : w2.cell? ⟨Bg, 1, none⟩ = some (.int .i8 0) := (blk_cell HK2.out 1).trans rfl; have c2_2 : w2.cell? ⟨Bg, 2, none⟩ = some (.bool dl) := (blk_cell HK2.out 2).trans rfl; clear hs hb hr))
  go_ret
  exact ⟨rfl, by have h := HS2.out; (try simp only [List.append_assoc, List.cons_append, List.nil_append] at h); exact h, HB2.out, HR0.out.trans HR2.out⟩

set_option maxHeartbeats 4000000 in
set_option maxRecDepth 100000 in
theorem c_list_short (w : World) (base Sg Wg T Pg PT : Nat) (ps : Array Value) (pv : Value) (xs : List Int) (n ty : Int) (hst : St w base Sg Wg T 1 21 Pg PT ps pv xs) (h0 : n ≤ 14) (hl : xs.length < 900000000) :
    Calls Try.prog 133 #[.pointer (some ⟨Wg, 0, none⟩), .agg #[.int .i32 n, .int .i8 ty]] w fun e w' => e = .returned .nilIface ∧ St w' base Sg Wg T 1 21 Pg PT ps pv (xs ++ [Go.bits .or .u8 (IntKind.u8.wrap (IntKind.i32.wrap (n * 16))) (IntKind.u8.wrap ty)]) ∧ Below base w w' ∧ Rest w w' Sg Wg := by
  have HST := Aside0.mk hst
  have t1 : decide (n ≤ 14) = true := by simp; omega
  clear h0
  clear hst
  go_enter Try.func133, Try.ntmps133
  go_upto_region 2 with (first | ((with_reducible refine gate_dst (N := 3) rfl ?_); refine box_event ?xhg (N := 3) ?xhd (cs := #[.int .i32 n, .int .i8 ty]) (t := 120) ?xhr ?_; (case xhd => rfl); (case xhg => rfl); (case xhr => first | (go_simp; done) | (go_simp; rfl)); intro Bg hG w1 hb1 hg1; have HHELD := Aside0.mk (fun w' (hr : Rest w1 w' Sg Wg) => HST.out.held hg1 hb1 (Nat.le_of_eq hG.symm) hr); have HS1 := Aside0.mk (HST.out.below hg1); have HB1 := Aside0.mk (hg1.mono HST.out.b3); have HR1 := Aside0.mk (Rest.below (Sg := Sg) (Wg := Wg) (Below.refl w1.heap.size w1)); have HR0 := Aside0.mk (Rest.below (Sg := Sg) (Wg := Wg) hg1); have c1_0 : w1.cell? ⟨Bg, 0, none⟩ = some (.int .i32 n) := (blk_cell hb1 0).trans rfl; have c1_1 : w1.cell? ⟨Bg, 1, none⟩ = some (.int .i8 ty) := (blk_cell hb1 1).trans rfl; clear hb1 hg1 hG))
  have HSD := Aside0.mk (HS1.out.below (below_drew (Below.refl _ _)))
  have HBD := Aside0.mk (below_drew HB1.out)
  have HRD := Aside0.mk (HR1.out.trans (Rest.below (Sg := Sg) (Wg := Wg) (below_drew (Below.refl w1.heap.size w1))))
  go_region_with (go_at_call 95; (with_reducible refine (w_byte _ base Sg Wg T 1 21 Pg PT ps pv _ _ HSD.out (by (try simp only [List.length_append, List.length_cons, List.length_nil, hib_len, vbytes_len, bytesOf_length]); omega)).mono ?_); rintro e w2 ⟨rfl, hs, hb, hr⟩; have HS2 := Aside0.mk hs; have HB2 := Aside0.mk (HBD.out.trans hb); have HR2 := Aside0.mk (HRD.out.trans hr); have HK2 := Aside0.mk (HHELD.out _ HR2.out); have c2_0 : w2.cell? ⟨Bg, 0, none⟩ = some (.int .i32 n) := (blk_cell HK2.out 0).trans rfl; have c2_1 : w2.cell? ⟨Bg, 1, none⟩ = some (.int .i8 ty) := (blk_cell HK2.out 1).trans rfl; clear hs hb hr)
  all_goals
    go_wp2_with fail
    go_ret
    exact ⟨rfl, by have h := HS2.out; (try simp only [List.append_assoc, List.cons_append, List.nil_append] at h); exact h, HB2.out, HR0.out.trans HR2.out⟩

set_option maxHeartbeats 4000000 in
set_option maxRecDepth 100000 in
theorem c_list_long (w : World) (base Sg Wg T Pg PT : Nat) (ps : Array Value) (pv : Value) (xs : List Int) (n ty : Int) (hst : St w base Sg Wg T 1 21 Pg PT ps pv xs) (h0 : 14 < n) (h1 : n < 2147483648) (j : Nat) (hj : j < 10) (hn : nb j n) (hl : xs.length < 900000000) :
    Calls Try.prog 133 #[.pointer (some ⟨Wg, 0, none⟩), .agg #[.int .i32 n, .int .i8 ty]] w fun e w' => e = .returned .nilIface ∧ St w' base Sg Wg T 1 21 Pg PT ps pv (xs ++ (Go.bits .or .u8 240 (IntKind.u8.wrap ty) :: vbytes j n)) ∧ Below base w w' ∧ Rest w w' Sg Wg := by
  have HST := Aside0.mk hst
  have HN := Aside0.mk hn
  have t1 : decide (n ≤ 14) = false := by simp; omega
  clear hn
  clear hst
  go_enter Try.func133, Try.ntmps133
  go_upto_region 3 with (first | ((with_reducible refine gate_dst (N := 3) rfl ?_); refine box_event ?xhg (N := 3) ?xhd (cs := #[.int .i32 n, .int .i8 ty]) (t := 120) ?xhr ?_; (case xhd => rfl); (case xhg => rfl); (case xhr => first | (go_simp; done) | (go_simp; rfl)); intro Bg hG w1 hb1 hg1; have HHELD := Aside0.mk (fun w' (hr : Rest w1 w' Sg Wg) => HST.out.held hg1 hb1 (Nat.le_of_eq hG.symm) hr); have HS1 := Aside0.mk (HST.out.below hg1); have HB1 := Aside0.mk (hg1.mono HST.out.b3); have HR1 := Aside0.mk (Rest.below (Sg := Sg) (Wg := Wg) (Below.refl w1.heap.size w1)); have HR0 := Aside0.mk (Rest.below (Sg := Sg) (Wg := Wg) hg1); have c1_0 : w1.cell? ⟨Bg, 0, none⟩ = some (.int .i32 n) := (blk_cell hb1 0).trans rfl; have c1_1 : w1.cell? ⟨Bg, 1, none⟩ = some (.int .i8 ty) := (blk_cell hb1 1).trans rfl; clear hb1 hg1 hG))
  have HSD := Aside0.mk (HS1.out.below (below_drew (Below.refl _ _)))
  have HBD := Aside0.mk (below_drew HB1.out)
  have HRD := Aside0.mk (HR1.out.trans (Rest.below (Sg := Sg) (Wg := Wg) (below_drew (Below.refl w1.heap.size w1))))
  go_region_with (go_at_call 95; (with_reducible refine (w_byte _ base Sg Wg T 1 21 Pg PT ps pv _ _ HSD.out (by (try simp only [List.length_append, List.length_cons, List.length_nil, hib_len, vbytes_len, bytesOf_length]); omega)).mono ?_); rintro e w2 ⟨rfl, hs, hb, hr⟩; have HS2 := Aside0.mk hs; have HB2 := Aside0.mk (HBD.out.trans hb); have HR2 := Aside0.mk (HRD.out.trans hr); have HK2 := Aside0.mk (HHELD.out _ HR2.out); have c2_0 : w2.cell? ⟨Bg, 0, none⟩ = some (.int .i32 n) := (blk_cell HK2.out 0).trans rfl; have c2_1 : w2.cell? ⟨Bg, 1, none⟩ = some (.int .i8 ty) := (blk_cell HK2.out 1).trans rfl; clear hs hb hr)
  all_goals
    go_wp2_with (first | (go_at_call 140; (with_reducible refine (c_uvar _ base Sg Wg T Pg PT ps pv _ HS2.out n (by omega) (by omega) j hj HN.out (by (try simp only [List.length_append, List.length_cons, List.length_nil, hib_len, vbytes_len, bytesOf_length]); omega)).mono ?_); rintro e w3 ⟨rfl, hs, hb, hr⟩; have HS3 := Aside0.mk hs; have HB3 := Aside0.mk (HB2.out.trans hb); have HR3 := Aside0.mk (HR2.out.trans hr); have HK3 := Aside0.mk (HHELD.out _ HR3.out); have c3_0 : w3.cell? ⟨Bg, 0, none⟩ = some (.int .i32 n) := (blk_cell HK3.out 0).trans rfl; have c3_1 : w3.cell? ⟨Bg, 1, none⟩ = some (.int .i8 ty) := (blk_cell HK3.out 1).trans rfl; clear hs hb hr))
    go_ret
    exact ⟨rfl, by have h := HS3.out; (try simp only [List.append_assoc, List.cons_append, List.nil_append] at h); exact h, HB3.out, HR0.out.trans HR3.out⟩

set_option maxHeartbeats 4000000 in
set_option maxRecDepth 100000 in
theorem c_set_short (w : World) (base Sg Wg T Pg PT : Nat) (ps : Array Value) (pv : Value) (xs : List Int) (n ty : Int) (hst : St w base Sg Wg T 1 21 Pg PT ps pv xs) (h0 : n ≤ 14) (hl2 : xs.length < 800000000) (hl : xs.length < 1000000000) :
    Calls Try.prog 136 #[.pointer (some ⟨Wg, 0, none⟩), .agg #[.int .i32 n, .int .i8 ty]] w fun e w' => e = .returned .nilIface ∧ St w' base Sg Wg T 1 21 Pg PT ps pv (xs ++ [Go.bits .or .u8 (IntKind.u8.wrap (IntKind.i32.wrap (n * 16))) (IntKind.u8.wrap ty)]) ∧ Below base w w' ∧ Rest w w' Sg Wg := by
  have HST := Aside0.mk hst
  clear hst
  go_enter Try.func136, Try.ntmps136
  go_wp2_with (first | ((with_reducible refine gate_dst (N := 3) rfl ?_); refine box_event ?xhg (N := 3) ?xhd (cs := #[.int .i32 n, .int .i8 ty]) (t := 122) ?xhr ?_; (case xhd => rfl); (case xhg => rfl); (case xhr => first | (go_simp; done) | (go_simp; rfl)); intro Bg hG w1 hb1 hg1; have HHELD := Aside0.mk (fun w' (hr : Rest w1 w' Sg Wg) => HST.out.held hg1 hb1 (Nat.le_of_eq hG.symm) hr); have HS1 := Aside0.mk (HST.out.below hg1); have HB1 := Aside0.mk (hg1.mono HST.out.b3); have HR1 := Aside0.mk (Rest.below (Sg := Sg) (Wg := Wg) (Below.refl w1.heap.size w1)); have HR0 := Aside0.mk (Rest.below (Sg := Sg) (Wg := Wg) hg1); have c1_0 : w1.cell? ⟨Bg, 0, none⟩ = some (.int .i32 n) := (blk_cell hb1 0).trans rfl; have c1_1 : w1.cell? ⟨Bg, 1, none⟩ = some (.int .i8 ty) := (blk_cell hb1 1).trans rfl; clear hb1 hg1 hG) | (go_at_call 133; (with_reducible refine (c_list_short _ base Sg Wg T Pg PT ps pv _ n ty HS1.out h0 (by (try simp only [List.length_append, List.length_cons, List.length_nil, hib_len, vbytes_len, bytesOf_length]); omega)).mono ?_); rintro e w2 ⟨rfl, hs, hb, hr⟩; have HS2 := Aside0.mk hs; have HB2 := Aside0.mk (HB1.out.trans hb); have HR2 := Aside0.mk (HR1.out.trans hr); have HK2 := Aside0.mk (HHELD.out _ HR2.out); have c2_0 : w2.cell? ⟨Bg, 0, none⟩ = some (.int .i32 n) := (blk_cell HK2.out 0).trans rfl; have c2_1 : w2.cell? ⟨Bg, 1, none⟩ = some (.int .i8 ty) := (blk_cell HK2.out 1).trans rfl; clear hs hb hr))
  go_ret
  exact ⟨rfl, by have h := HS2.out; (try simp only [List.append_assoc, List.cons_append, List.nil_append] at h); exact h, HB2.out, HR0.out.trans HR2.out⟩

set_option maxHeartbeats 4000000 in
set_option maxRecDepth 100000 in
theorem c_set_long (w : World) (base Sg Wg T Pg PT : Nat) (ps : Array Value) (pv : Value) (xs : List Int) (n ty : Int) (hst : St w base Sg Wg T 1 21 Pg PT ps pv xs) (h0 : 14 < n) (h1 : n < 2147483648) (j : Nat) (hj : j < 10) (hn : nb j n) (hl2 : xs.length < 800000000) (hl : xs.length < 1000000000) :
    Calls Try.prog 136 #[.pointer (some ⟨Wg, 0, none⟩), .agg #[.int .i32 n, .int .i8 ty]] w fun e w' => e = .returned .nilIface ∧ St w' base Sg Wg T 1 21 Pg PT ps pv (xs ++ (Go.bits .or .u8 240 (IntKind.u8.wrap ty) :: vbytes j n)) ∧ Below base w w' ∧ Rest w w' Sg Wg := by
  have HST := Aside0.mk hst
  have HN := Aside0.mk hn
  clear hn
  clear hst
  go_enter Try.func136, Try.ntmps136
  go_wp2_with (first | ((with_reducible refine gate_dst (N := 3) rfl ?_); refine box_event ?xhg (N := 3) ?xhd (cs := #[.int .i32 n, .int .i8 ty]) (t := 122) ?xhr ?_; (case xhd => rfl); (case xhg => rfl); (case xhr => first | (go_simp; done) | (go_simp; rfl)); intro Bg hG w1 hb1 hg1; have HHELD := Aside0.mk (fun w' (hr : Rest w1 w' Sg Wg) => HST.out.held hg1 hb1 (Nat.le_of_eq hG.symm) hr); have HS1 := Aside0.mk (HST.out.below hg1); have HB1 := Aside0.mk (hg1.mono HST.out.b3); have HR1 := Aside0.mk (Rest.below (Sg := Sg) (Wg := Wg) (Below.refl w1.heap.size w1)); have HR0 := Aside0.mk (Rest.below (Sg := Sg) (Wg := Wg) hg1); have c1_0 : w1.cell? ⟨Bg, 0, none⟩ = some (.int .i32 n) := (blk_cell hb1 0).trans rfl; have c1_1 : w1.cell? ⟨Bg, 1, none⟩ = some (.int .i8 ty) := (blk_cell hb1 1).trans rfl; clear hb1 hg1 hG) | (go_at_call 133; (with_reducible refine (c_list_long _ base Sg Wg T Pg PT ps pv _ n ty HS1.out h0 h1 j hj HN.out (by (try simp only [List.length_append, List.length_cons, List.length_nil, hib_len, vbytes_len, bytesOf_length]); omega)).mono ?_); rintro e w2 ⟨rfl, hs, hb, hr⟩; have HS2 := Aside0.mk hs; have HB2 := Aside0.mk (HB1.out.trans hb); have HR2 := Aside0.mk (HR1.out.trans hr); have HK2 := Aside0.mk (HHELD.out _ HR2.out); have c2_0 : w2.cell? ⟨Bg, 0, none⟩ = some (.int .i32 n) := (blk_cell HK2.out 0).trans rfl; have c2_1 : w2.cell? ⟨Bg, 1, none⟩ = some (.int .i8 ty) := (blk_cell HK2.out 1).trans rfl; clear hs hb hr))
  go_ret
  exact ⟨rfl, by have h := HS2.out; (try simp only [List.append_assoc, List.cons_append, List.nil_append] at h); exact h, HB2.out, HR0.out.trans HR2.out⟩

set_option maxHeartbeats 4000000 in
set_option maxRecDepth 100000 in
theorem c_map_none (w : World) (base Sg Wg T Pg PT : Nat) (ps : Array Value) (pv : Value) (xs : List Int) (kt vt : Int) (hst : St w base Sg Wg T 1 21 Pg PT ps pv xs)  (hl : xs.length < 1000000000) :
    Calls Try.prog 134 #[.pointer (some ⟨Wg, 0, none⟩), .agg #[.int .i32 0, .int .i8 kt, .int .i8 vt]] w fun e w' => e = .returned .nilIface ∧ St w' base Sg Wg T 1 21 Pg PT ps pv (xs ++ [0]) ∧ Below base w w' ∧ Rest w w' Sg Wg := by
  have HST := Aside0.mk hst
  clear hst
  go_enter Try.func134, Try.ntmps134
  go_wp2_with (first | ((with_reducible refine gate_dst (N := 3) rfl ?_); refine box_event ?xhg (N := 3) ?xhd (cs := #[.int .i32 0, .int .i8 kt, .int .i8 vt]) (t := 125) ?xhr ?_; (case xhd => rfl); (case xhg => rfl); (case xhr => first | (go_simp; done) | (go_simp; rfl)); intro Bg hG w1 hb1 hg1; have HHELD := Aside0.mk (fun w' (hr : Rest w1 w' Sg Wg) => HST.out.held hg1 hb1 (Nat.le_of_eq hG.symm) hr); have HS1 := Aside0.mk (HST.out.below hg1); have HB1 := Aside0.mk (hg1.mono HST.out.b3); have HR1 := Aside0.mk (Rest.below (Sg := Sg) (Wg := Wg) (Below.refl w1.heap.size w1)); have HR0 := Aside0.mk (Rest.below (Sg := Sg) (Wg := Wg) hg1); have c1_0 : w1.cell? ⟨Bg, 0, none⟩ = some (.int .i32 0) := (blk_cell hb1 0).trans rfl; have c1_1 : w1.cell? ⟨Bg, 1, none⟩ = some (.int .i8 kt) := (blk_cell hb1 1).trans rfl; have c1_2 : w1.cell? ⟨Bg, 2, none⟩ = some (.int .i8 vt) := (blk_cell hb1 2).trans rfl; clear hb1 hg1 hG) | (go_at_call 140; (with_reducible refine (c_uvar _ base Sg Wg T Pg PT ps pv _ HS1.out 0 (by decide) (by decide) 0 (by decide) (by unfold nb; decide) (by (try simp only [List.length_append, List.length_cons, List.length_nil, hib_len, vbytes_len, bytesOf_length]); omega)).mono ?_); rintro e w2 ⟨rfl, hs, hb, hr⟩; have HS2 := Aside0.mk hs; have HB2 := Aside0.mk (HB1.out.trans hb); have HR2 := Aside0.mk (HR1.out.trans hr); have HK2 := Aside0.mk (HHELD.out _ HR2.out); have c2_0 : w2.cell? ⟨Bg, 0, none⟩ = some (.int .i32 0) := (blk_cell HK2.out 0).trans rfl; have c2_1 : w2.cell? ⟨Bg, 1, none⟩ = some (.int .i8 kt) := (blk_cell HK2.out 1).trans rfl; have c2_2 : w2.cell? ⟨Bg, 2, none⟩ = some (.int .i8 vt) := (blk_cell HK2.out 2).trans rfl; clear hs hb hr))
  go_ret
  exact ⟨rfl, by have h := HS2.out; (try simp only [List.append_assoc, List.cons_append, List.nil_append] at h); exact h, HB2.out, HR0.out.trans HR2.out⟩

set_option maxHeartbeats 4000000 in
set_option maxRecDepth 100000 in
theorem c_map_some (w : World) (base Sg Wg T Pg PT : Nat) (ps : Array Value) (pv : Value) (xs : List Int) (n kt vt : Int) (hst : St w base Sg Wg T 1 21 Pg PT ps pv xs) (h0 : 0 < n) (h1 : n < 2147483648) (j : Nat) (hj : j < 10) (hn : nb j n) (hl : xs.length < 900000000) :
    Calls Try.prog 134 #[.pointer (some ⟨Wg, 0, none⟩), .agg #[.int .i32 n, .int .i8 kt, .int .i8 vt]] w fun e w' => e = .returned .nilIface ∧ St w' base Sg Wg T 1 21 Pg PT ps pv (xs ++ (vbytes j n ++ [Go.bits .or .u8 (IntKind.u8.wrap (IntKind.u8.wrap kt * 16)) (IntKind.u8.wrap vt)])) ∧ Below base w w' ∧ Rest w w' Sg Wg := by
  have HST := Aside0.mk hst
  have HN := Aside0.mk hn
  have t1 : (n == 0) = false := beq_eq_false_iff_ne.2 (by omega)
  clear hn
  clear hst
  go_enter Try.func134, Try.ntmps134
  go_upto_region 4 with (first | ((with_reducible refine gate_dst (N := 3) rfl ?_); refine box_event ?xhg (N := 3) ?xhd (cs := #[.int .i32 n, .int .i8 kt, .int .i8 vt]) (t := 125) ?xhr ?_; (case xhd => rfl); (case xhg => rfl); (case xhr => first | (go_simp; done) | (go_simp; rfl)); intro Bg hG w1 hb1 hg1; have HHELD := Aside0.mk (fun w' (hr : Rest w1 w' Sg Wg) => HST.out.held hg1 hb1 (Nat.le_of_eq hG.symm) hr); have HS1 := Aside0.mk (HST.out.below hg1); have HB1 := Aside0.mk (hg1.mono HST.out.b3); have HR1 := Aside0.mk (Rest.below (Sg := Sg) (Wg := Wg) (Below.refl w1.heap.size w1)); have HR0 := Aside0.mk (Rest.below (Sg := Sg) (Wg := Wg) hg1); have c1_0 : w1.cell? ⟨Bg, 0, none⟩ = some (.int .i32 n) := (blk_cell hb1 0).trans rfl; have c1_1 : w1.cell? ⟨Bg, 1, none⟩ = some (.int .i8 kt) := (blk_cell hb1 1).trans rfl; have c1_2 : w1.cell? ⟨Bg, 2, none⟩ = some (.int .i8 vt) := (blk_cell hb1 2).trans rfl; clear hb1 hg1 hG) | (go_at_call 140; (with_reducible refine (c_uvar _ base Sg Wg T Pg PT ps pv _ HS1.out n (by omega) (by omega) j hj HN.out (by (try simp only [List.length_append, List.length_cons, List.length_nil, hib_len, vbytes_len, bytesOf_length]); omega)).mono ?_); rintro e w2 ⟨rfl, hs, hb, hr⟩; have HS2 := Aside0.mk hs; have HB2 := Aside0.mk (HB1.out.trans hb); have HR2 := Aside0.mk (HR1.out.trans hr); have HK2 := Aside0.mk (HHELD.out _ HR2.out); have c2_0 : w2.cell? ⟨Bg, 0, none⟩ = some (.int .i32 n) := (blk_cell HK2.out 0).trans rfl; have c2_1 : w2.cell? ⟨Bg, 1, none⟩ = some (.int .i8 kt) := (blk_cell HK2.out 1).trans rfl; have c2_2 : w2.cell? ⟨Bg, 2, none⟩ = some (.int .i8 vt) := (blk_cell HK2.out 2).trans rfl; clear hs hb hr))
  have HSD := Aside0.mk (HS2.out.below (below_drew (Below.refl _ _)))
  have HBD := Aside0.mk (below_drew HB2.out)
  have HRD := Aside0.mk (HR2.out.trans (Rest.below (Sg := Sg) (Wg := Wg) (below_drew (Below.refl w2.heap.size w2))))
  go_region_with (go_at_call 95; (with_reducible refine (w_byte _ base Sg Wg T 1 21 Pg PT ps pv _ _ HSD.out (by (try simp only [List.length_append, List.length_cons, List.length_nil, hib_len, vbytes_len, bytesOf_length]); omega)).mono ?_); rintro e w3 ⟨rfl, hs, hb, hr⟩; have HS3 := Aside0.mk hs; have HB3 := Aside0.mk (HBD.out.trans hb); have HR3 := Aside0.mk (HRD.out.trans hr); have HK3 := Aside0.mk (HHELD.out _ HR3.out); have c3_0 : w3.cell? ⟨Bg, 0, none⟩ = some (.int .i32 n) := (blk_cell HK3.out 0).trans rfl; have c3_1 : w3.cell? ⟨Bg, 1, none⟩ = some (.int .i8 kt) := (blk_cell HK3.out 1).trans rfl; have c3_2 : w3.cell? ⟨Bg, 2, none⟩ = some (.int .i8 vt) := (blk_cell HK3.out 2).trans rfl; clear hs hb hr)
  all_goals
    go_wp2_with fail
    go_ret
    exact ⟨rfl, by have h := HS3.out; (try simp only [List.append_assoc, List.cons_append, List.nil_append] at h); exact h, HB3.out, HR0.out.trans HR3.out⟩
end Go.Proofs.Ytmjilokgpgajjaa.Th

namespace Go.Proofs.Ytmjilokgpgajjaa.Th
open Go.RowKit Go.Proofs.YtmjilokgpgajjaaW.PrintWords Go.Proofs.YtmjilokgpgajjaaW.PrintLast Go.Proofs.YtmjilokgpgajjaaW.PrintMore Go.Proofs.Ytmjilokgpgajjaa.PFnTHWrites
set_option linter.unusedVariables false
set_option linter.unusedSimpArgs false

set_option maxHeartbeats 4000000 in
set_option maxRecDepth 100000 in
theorem wr1z_b (w : World) (base Sg Wg T Pg PT : Nat) (ps : Array Value) (pv : Value) (xs : List Int) (S : ByteArray) (a b : Int) (d : Bool) (hst : St w base Sg Wg T 0 10 Pg PT ps pv xs)  (hl : xs.length < 800000000) :
    Calls Try.prog 17 #[.agg #[.int .i64 1, .int .i64 0, .string S, .int .i64 a, .int .i64 b, .bool d], .iface 163 (.pointer (some ⟨Wg, 0, none⟩))] w fun e w' => e = .returned (.bool true) ∧ St w' base Sg Wg T 0 10 Pg PT ps pv (xs ++ [0]) ∧ Below base w w' ∧ Rest w w' Sg Wg := by
  have HST := Aside0.mk hst
  clear hst
  go_enter Try.func17, Try.ntmps17
  go_wp2_with (first | ((with_reducible refine gate_dst (N := 2) rfl ?_); refine box_event ?xhg (N := 2) ?xhd (cs := #[.int .i64 1, .int .i64 0, .string S, .int .i64 a, .int .i64 b, .bool d]) (t := 30) ?xhr ?_; (case xhd => rfl); (case xhg => rfl); (case xhr => first | (go_simp; done) | (go_simp; rfl)); intro Bg hG w1 hb1 hg1; have HHELD := Aside0.mk (fun w' (hr : Rest w1 w' Sg Wg) => HST.out.held hg1 hb1 (Nat.le_of_eq hG.symm) hr); have HS1 := Aside0.mk (HST.out.below hg1); have HB1 := Aside0.mk (hg1.mono HST.out.b3); have HR1 := Aside0.mk (Rest.below (Sg := Sg) (Wg := Wg) (Below.refl w1.heap.size w1)); have HR0 := Aside0.mk (Rest.below (Sg := Sg) (Wg := Wg) hg1); have c1_0 : w1.cell? ⟨Bg, 0, none⟩ = some (.int .i64 1) := (blk_cell hb1 0).trans rfl; have c1_1 : w1.cell? ⟨Bg, 1, none⟩ = some (.int .i64 0) := (blk_cell hb1 1).trans rfl; have c1_2 : w1.cell? ⟨Bg, 2, none⟩ = some (.string S) := (blk_cell hb1 2).trans rfl; have c1_3 : w1.cell? ⟨Bg, 3, none⟩ = some (.int .i64 a) := (blk_cell hb1 3).trans rfl; have c1_4 : w1.cell? ⟨Bg, 4, none⟩ = some (.int .i64 b) := (blk_cell hb1 4).trans rfl; have c1_5 : w1.cell? ⟨Bg, 5, none⟩ = some (.bool d) := (blk_cell hb1 5).trans rfl; clear hb1 hg1 hG) | (go_at_call 80; (with_reducible refine (w_bool_false _ base Sg Wg T 0 10 Pg PT ps pv _ HS1.out (by (try simp only [List.length_append, List.length_cons, List.length_nil, hib_len, vbytes_len, bytesOf_length]); omega)).mono ?_); rintro e w2 ⟨rfl, hs, hb, hr⟩; have HS2 := Aside0.mk hs; have HB2 := Aside0.mk (HB1.out.trans hb); have HR2 := Aside0.mk (HR1.out.trans hr); clear hs hb hr))
  go_ret
  exact ⟨rfl, HS2.out, HB2.out, HR0.out.trans HR2.out⟩

set_option maxHeartbeats 4000000 in
set_option maxRecDepth 100000 in
theorem wr1o_b (w : World) (base Sg Wg T Pg PT : Nat) (ps : Array Value) (pv : Value) (xs : List Int) (S : ByteArray) (a b : Int) (d : Bool) (hst : St w base Sg Wg T 0 10 Pg PT ps pv xs)  (hl : xs.length < 800000000) :
    Calls Try.prog 17 #[.agg #[.int .i64 1, .int .i64 1, .string S, .int .i64 a, .int .i64 b, .bool d], .iface 163 (.pointer (some ⟨Wg, 0, none⟩))] w fun e w' => e = .returned (.bool true) ∧ St w' base Sg Wg T 0 10 Pg PT ps pv (xs ++ [1]) ∧ Below base w w' ∧ Rest w w' Sg Wg := by
  have HST := Aside0.mk hst
  clear hst
  go_enter Try.func17, Try.ntmps17
  go_wp2_with (first | ((with_reducible refine gate_dst (N := 2) rfl ?_); refine box_event ?xhg (N := 2) ?xhd (cs := #[.int .i64 1, .int .i64 1, .string S, .int .i64 a, .int .i64 b, .bool d]) (t := 30) ?xhr ?_; (case xhd => rfl); (case xhg => rfl); (case xhr => first | (go_simp; done) | (go_simp; rfl)); intro Bg hG w1 hb1 hg1; have HHELD := Aside0.mk (fun w' (hr : Rest w1 w' Sg Wg) => HST.out.held hg1 hb1 (Nat.le_of_eq hG.symm) hr); have HS1 := Aside0.mk (HST.out.below hg1); have HB1 := Aside0.mk (hg1.mono HST.out.b3); have HR1 := Aside0.mk (Rest.below (Sg := Sg) (Wg := Wg) (Below.refl w1.heap.size w1)); have HR0 := Aside0.mk (Rest.below (Sg := Sg) (Wg := Wg) hg1); have c1_0 : w1.cell? ⟨Bg, 0, none⟩ = some (.int .i64 1) := (blk_cell hb1 0).trans rfl; have c1_1 : w1.cell? ⟨Bg, 1, none⟩ = some (.int .i64 1) := (blk_cell hb1 1).trans rfl; have c1_2 : w1.cell? ⟨Bg, 2, none⟩ = some (.string S) := (blk_cell hb1 2).trans rfl; have c1_3 : w1.cell? ⟨Bg, 3, none⟩ = some (.int .i64 a) := (blk_cell hb1 3).trans rfl; have c1_4 : w1.cell? ⟨Bg, 4, none⟩ = some (.int .i64 b) := (blk_cell hb1 4).trans rfl; have c1_5 : w1.cell? ⟨Bg, 5, none⟩ = some (.bool d) := (blk_cell hb1 5).trans rfl; clear hb1 hg1 hG) | (go_at_call 80; (with_reducible refine (w_bool_true _ base Sg Wg T 0 10 Pg PT ps pv _ HS1.out (by (try simp only [List.length_append, List.length_cons, List.length_nil, hib_len, vbytes_len, bytesOf_length]); omega)).mono ?_); rintro e w2 ⟨rfl, hs, hb, hr⟩; have HS2 := Aside0.mk hs; have HB2 := Aside0.mk (HB1.out.trans hb); have HR2 := Aside0.mk (HR1.out.trans hr); clear hs hb hr))
  go_ret
  exact ⟨rfl, HS2.out, HB2.out, HR0.out.trans HR2.out⟩

set_option maxHeartbeats 4000000 in
set_option maxRecDepth 100000 in
theorem wr2_b (w : World) (base Sg Wg T Pg PT : Nat) (ps : Array Value) (pv : Value) (xs : List Int) (n : Int) (S : ByteArray) (a b : Int) (d : Bool) (hst : St w base Sg Wg T 0 10 Pg PT ps pv xs) (h0 : -128 ≤ n) (h1 : n < 128) (hl : xs.length < 800000000) :
    Calls Try.prog 17 #[.agg #[.int .i64 2, .int .i64 n, .string S, .int .i64 a, .int .i64 b, .bool d], .iface 163 (.pointer (some ⟨Wg, 0, none⟩))] w fun e w' => e = .returned (.bool true) ∧ St w' base Sg Wg T 0 10 Pg PT ps pv (xs ++ [IntKind.u8.wrap n]) ∧ Below base w w' ∧ Rest w w' Sg Wg := by
  have HST := Aside0.mk hst
  clear hst
  go_enter Try.func17, Try.ntmps17
  go_wp2_with (first | ((with_reducible refine gate_dst (N := 2) rfl ?_); refine box_event ?xhg (N := 2) ?xhd (cs := #[.int .i64 2, .int .i64 n, .string S, .int .i64 a, .int .i64 b, .bool d]) (t := 30) ?xhr ?_; (case xhd => rfl); (case xhg => rfl); (case xhr => first | (go_simp; done) | (go_simp; rfl)); intro Bg hG w1 hb1 hg1; have HHELD := Aside0.mk (fun w' (hr : Rest w1 w' Sg Wg) => HST.out.held hg1 hb1 (Nat.le_of_eq hG.symm) hr); have HS1 := Aside0.mk (HST.out.below hg1); have HB1 := Aside0.mk (hg1.mono HST.out.b3); have HR1 := Aside0.mk (Rest.below (Sg := Sg) (Wg := Wg) (Below.refl w1.heap.size w1)); have HR0 := Aside0.mk (Rest.below (Sg := Sg) (Wg := Wg) hg1); have c1_0 : w1.cell? ⟨Bg, 0, none⟩ = some (.int .i64 2) := (blk_cell hb1 0).trans rfl; have c1_1 : w1.cell? ⟨Bg, 1, none⟩ = some (.int .i64 n) := (blk_cell hb1 1).trans rfl; have c1_2 : w1.cell? ⟨Bg, 2, none⟩ = some (.string S) := (blk_cell hb1 2).trans rfl; have c1_3 : w1.cell? ⟨Bg, 3, none⟩ = some (.int .i64 a) := (blk_cell hb1 3).trans rfl; have c1_4 : w1.cell? ⟨Bg, 4, none⟩ = some (.int .i64 b) := (blk_cell hb1 4).trans rfl; have c1_5 : w1.cell? ⟨Bg, 5, none⟩ = some (.bool d) := (blk_cell hb1 5).trans rfl; clear hb1 hg1 hG) | (go_at_call 87; (with_reducible refine (w_int8 _ base Sg Wg T 0 10 Pg PT ps pv _ n HS1.out (by (try simp only [List.length_append, List.length_cons, List.length_nil, hib_len, vbytes_len, bytesOf_length]); omega)).mono ?_); rintro e w2 ⟨rfl, hs, hb, hr⟩; have HS2 := Aside0.mk hs; have HB2 := Aside0.mk (HB1.out.trans hb); have HR2 := Aside0.mk (HR1.out.trans hr); clear hs hb hr))
  go_ret
  exact ⟨rfl, HS2.out, HB2.out, HR0.out.trans HR2.out⟩

set_option maxHeartbeats 4000000 in
set_option maxRecDepth 100000 in
theorem wr3_b (w : World) (base Sg Wg T Pg PT : Nat) (ps : Array Value) (pv : Value) (xs : List Int) (n : Int) (S : ByteArray) (a b : Int) (d : Bool) (hst : St w base Sg Wg T 0 10 Pg PT ps pv xs) (h0 : -32768 ≤ n) (h1 : n < 32768) (hl : xs.length < 800000000) :
    Calls Try.prog 17 #[.agg #[.int .i64 3, .int .i64 n, .string S, .int .i64 a, .int .i64 b, .bool d], .iface 163 (.pointer (some ⟨Wg, 0, none⟩))] w fun e w' => e = .returned (.bool true) ∧ St w' base Sg Wg T 0 10 Pg PT ps pv (xs ++ hib 2 n) ∧ Below base w w' ∧ Rest w w' Sg Wg := by
  have HST := Aside0.mk hst
  clear hst
  go_enter Try.func17, Try.ntmps17
  go_wp2_with (first | ((with_reducible refine gate_dst (N := 2) rfl ?_); refine box_event ?xhg (N := 2) ?xhd (cs := #[.int .i64 3, .int .i64 n, .string S, .int .i64 a, .int .i64 b, .bool d]) (t := 30) ?xhr ?_; (case xhd => rfl); (case xhg => rfl); (case xhr => first | (go_simp; done) | (go_simp; rfl)); intro Bg hG w1 hb1 hg1; have HHELD := Aside0.mk (fun w' (hr : Rest w1 w' Sg Wg) => HST.out.held hg1 hb1 (Nat.le_of_eq hG.symm) hr); have HS1 := Aside0.mk (HST.out.below hg1); have HB1 := Aside0.mk (hg1.mono HST.out.b3); have HR1 := Aside0.mk (Rest.below (Sg := Sg) (Wg := Wg) (Below.refl w1.heap.size w1)); have HR0 := Aside0.mk (Rest.below (Sg := Sg) (Wg := Wg) hg1); have c1_0 : w1.cell? ⟨Bg, 0, none⟩ = some (.int .i64 3) := (blk_cell hb1 0).trans rfl; have c1_1 : w1.cell? ⟨Bg, 1, none⟩ = some (.int .i64 n) := (blk_cell hb1 1).trans rfl; have c1_2 : w1.cell? ⟨Bg, 2, none⟩ = some (.string S) := (blk_cell hb1 2).trans rfl; have c1_3 : w1.cell? ⟨Bg, 3, none⟩ = some (.int .i64 a) := (blk_cell hb1 3).trans rfl; have c1_4 : w1.cell? ⟨Bg, 4, none⟩ = some (.int .i64 b) := (blk_cell hb1 4).trans rfl; have c1_5 : w1.cell? ⟨Bg, 5, none⟩ = some (.bool d) := (blk_cell hb1 5).trans rfl; clear hb1 hg1 hG) | (go_at_call 84; (with_reducible refine (w_int16 _ base Sg Wg T 0 10 Pg PT ps pv _ n HS1.out h0 h1 (by (try simp only [List.length_append, List.length_cons, List.length_nil, hib_len, vbytes_len, bytesOf_length]); omega)).mono ?_); rintro e w2 ⟨rfl, hs, hb, hr⟩; have HS2 := Aside0.mk hs; have HB2 := Aside0.mk (HB1.out.trans hb); have HR2 := Aside0.mk (HR1.out.trans hr); clear hs hb hr))
  go_ret
  exact ⟨rfl, HS2.out, HB2.out, HR0.out.trans HR2.out⟩

set_option maxHeartbeats 4000000 in
set_option maxRecDepth 100000 in
theorem wr4_b (w : World) (base Sg Wg T Pg PT : Nat) (ps : Array Value) (pv : Value) (xs : List Int) (n : Int) (S : ByteArray) (a b : Int) (d : Bool) (hst : St w base Sg Wg T 0 10 Pg PT ps pv xs) (h0 : -2147483648 ≤ n) (h1 : n < 2147483648) (hl : xs.length < 800000000) :
    Calls Try.prog 17 #[.agg #[.int .i64 4, .int .i64 n, .string S, .int .i64 a, .int .i64 b, .bool d], .iface 163 (.pointer (some ⟨Wg, 0, none⟩))] w fun e w' => e = .returned (.bool true) ∧ St w' base Sg Wg T 0 10 Pg PT ps pv (xs ++ hib 4 n) ∧ Below base w w' ∧ Rest w w' Sg Wg := by
  have HST := Aside0.mk hst
  clear hst
  go_enter Try.func17, Try.ntmps17
  go_wp2_with (first | ((with_reducible refine gate_dst (N := 2) rfl ?_); refine box_event ?xhg (N := 2) ?xhd (cs := #[.int .i64 4, .int .i64 n, .string S, .int .i64 a, .int .i64 b, .bool d]) (t := 30) ?xhr ?_; (case xhd => rfl); (case xhg => rfl); (case xhr => first | (go_simp; done) | (go_simp; rfl)); intro Bg hG w1 hb1 hg1; have HHELD := Aside0.mk (fun w' (hr : Rest w1 w' Sg Wg) => HST.out.held hg1 hb1 (Nat.le_of_eq hG.symm) hr); have HS1 := Aside0.mk (HST.out.below hg1); have HB1 := Aside0.mk (hg1.mono HST.out.b3); have HR1 := Aside0.mk (Rest.below (Sg := Sg) (Wg := Wg) (Below.refl w1.heap.size w1)); have HR0 := Aside0.mk (Rest.below (Sg := Sg) (Wg := Wg) hg1); have c1_0 : w1.cell? ⟨Bg, 0, none⟩ = some (.int .i64 4) := (blk_cell hb1 0).trans rfl; have c1_1 : w1.cell? ⟨Bg, 1, none⟩ = some (.int .i64 n) := (blk_cell hb1 1).trans rfl; have c1_2 : w1.cell? ⟨Bg, 2, none⟩ = some (.string S) := (blk_cell hb1 2).trans rfl; have c1_3 : w1.cell? ⟨Bg, 3, none⟩ = some (.int .i64 a) := (blk_cell hb1 3).trans rfl; have c1_4 : w1.cell? ⟨Bg, 4, none⟩ = some (.int .i64 b) := (blk_cell hb1 4).trans rfl; have c1_5 : w1.cell? ⟨Bg, 5, none⟩ = some (.bool d) := (blk_cell hb1 5).trans rfl; clear hb1 hg1 hG) | (go_at_call 85; (with_reducible refine (w_int32 _ base Sg Wg T 0 10 Pg PT ps pv _ n HS1.out h0 h1 (by (try simp only [List.length_append, List.length_cons, List.length_nil, hib_len, vbytes_len, bytesOf_length]); omega)).mono ?_); rintro e w2 ⟨rfl, hs, hb, hr⟩; have HS2 := Aside0.mk hs; have HB2 := Aside0.mk (HB1.out.trans hb); have HR2 := Aside0.mk (HR1.out.trans hr); clear hs hb hr))
  go_ret
  exact ⟨rfl, HS2.out, HB2.out, HR0.out.trans HR2.out⟩

set_option maxHeartbeats 4000000 in
set_option maxRecDepth 100000 in
theorem wr5_b (w : World) (base Sg Wg T Pg PT : Nat) (ps : Array Value) (pv : Value) (xs : List Int) (n : Int) (S : ByteArray) (a b : Int) (d : Bool) (hst : St w base Sg Wg T 0 10 Pg PT ps pv xs) (h0 : -9223372036854775808 ≤ n) (h1 : n < 9223372036854775808) (hl : xs.length < 800000000) :
    Calls Try.prog 17 #[.agg #[.int .i64 5, .int .i64 n, .string S, .int .i64 a, .int .i64 b, .bool d], .iface 163 (.pointer (some ⟨Wg, 0, none⟩))] w fun e w' => e = .returned (.bool true) ∧ St w' base Sg Wg T 0 10 Pg PT ps pv (xs ++ hib 8 n) ∧ Below base w w' ∧ Rest w w' Sg Wg := by
  have HST := Aside0.mk hst
  clear hst
  go_enter Try.func17, Try.ntmps17
  go_wp2_with (first | ((with_reducible refine gate_dst (N := 2) rfl ?_); refine box_event ?xhg (N := 2) ?xhd (cs := #[.int .i64 5, .int .i64 n, .string S, .int .i64 a, .int .i64 b, .bool d]) (t := 30) ?xhr ?_; (case xhd => rfl); (case xhg => rfl); (case xhr => first | (go_simp; done) | (go_simp; rfl)); intro Bg hG w1 hb1 hg1; have HHELD := Aside0.mk (fun w' (hr : Rest w1 w' Sg Wg) => HST.out.held hg1 hb1 (Nat.le_of_eq hG.symm) hr); have HS1 := Aside0.mk (HST.out.below hg1); have HB1 := Aside0.mk (hg1.mono HST.out.b3); have HR1 := Aside0.mk (Rest.below (Sg := Sg) (Wg := Wg) (Below.refl w1.heap.size w1)); have HR0 := Aside0.mk (Rest.below (Sg := Sg) (Wg := Wg) hg1); have c1_0 : w1.cell? ⟨Bg, 0, none⟩ = some (.int .i64 5) := (blk_cell hb1 0).trans rfl; have c1_1 : w1.cell? ⟨Bg, 1, none⟩ = some (.int .i64 n) := (blk_cell hb1 1).trans rfl; have c1_2 : w1.cell? ⟨Bg, 2, none⟩ = some (.string S) := (blk_cell hb1 2).trans rfl; have c1_3 : w1.cell? ⟨Bg, 3, none⟩ = some (.int .i64 a) := (blk_cell hb1 3).trans rfl; have c1_4 : w1.cell? ⟨Bg, 4, none⟩ = some (.int .i64 b) := (blk_cell hb1 4).trans rfl; have c1_5 : w1.cell? ⟨Bg, 5, none⟩ = some (.bool d) := (blk_cell hb1 5).trans rfl; clear hb1 hg1 hG) | (go_at_call 86; (with_reducible refine (w_int64 _ base Sg Wg T 0 10 Pg PT ps pv _ n HS1.out h0 h1 (by (try simp only [List.length_append, List.length_cons, List.length_nil, hib_len, vbytes_len, bytesOf_length]); omega)).mono ?_); rintro e w2 ⟨rfl, hs, hb, hr⟩; have HS2 := Aside0.mk hs; have HB2 := Aside0.mk (HB1.out.trans hb); have HR2 := Aside0.mk (HR1.out.trans hr); clear hs hb hr))
  go_ret
  exact ⟨rfl, HS2.out, HB2.out, HR0.out.trans HR2.out⟩

set_option maxHeartbeats 4000000 in
set_option maxRecDepth 100000 in
theorem wr8_b (w : World) (base Sg Wg T Pg PT : Nat) (ps : Array Value) (pv : Value) (xs : List Int) (n : Int) (S : ByteArray) (a b : Int) (d : Bool) (hst : St w base Sg Wg T 0 10 Pg PT ps pv xs) (hS : S.size < 2147483648) (hl : xs.length < 800000000) :
    Calls Try.prog 17 #[.agg #[.int .i64 8, .int .i64 n, .string S, .int .i64 a, .int .i64 b, .bool d], .iface 163 (.pointer (some ⟨Wg, 0, none⟩))] w fun e w' => e = .returned (.bool true) ∧ St w' base Sg Wg T 0 10 Pg PT ps pv (xs ++ (hib 4 S.size ++ bytesOf S)) ∧ Below base w w' ∧ Rest w w' Sg Wg := by
  have HST := Aside0.mk hst
  clear hst
  go_enter Try.func17, Try.ntmps17
  go_wp2_with (first | ((with_reducible refine gate_dst (N := 2) rfl ?_); refine box_event ?xhg (N := 2) ?xhd (cs := #[.int .i64 8, .int .i64 n, .string S, .int .i64 a, .int .i64 b, .bool d]) (t := 30) ?xhr ?_; (case xhd => rfl); (case xhg => rfl); (case xhr => first | (go_simp; done) | (go_simp; rfl)); intro Bg hG w1 hb1 hg1; have HHELD := Aside0.mk (fun w' (hr : Rest w1 w' Sg Wg) => HST.out.held hg1 hb1 (Nat.le_of_eq hG.symm) hr); have HS1 := Aside0.mk (HST.out.below hg1); have HB1 := Aside0.mk (hg1.mono HST.out.b3); have HR1 := Aside0.mk (Rest.below (Sg := Sg) (Wg := Wg) (Below.refl w1.heap.size w1)); have HR0 := Aside0.mk (Rest.below (Sg := Sg) (Wg := Wg) hg1); have c1_0 : w1.cell? ⟨Bg, 0, none⟩ = some (.int .i64 8) := (blk_cell hb1 0).trans rfl; have c1_1 : w1.cell? ⟨Bg, 1, none⟩ = some (.int .i64 n) := (blk_cell hb1 1).trans rfl; have c1_2 : w1.cell? ⟨Bg, 2, none⟩ = some (.string S) := (blk_cell hb1 2).trans rfl; have c1_3 : w1.cell? ⟨Bg, 3, none⟩ = some (.int .i64 a) := (blk_cell hb1 3).trans rfl; have c1_4 : w1.cell? ⟨Bg, 4, none⟩ = some (.int .i64 b) := (blk_cell hb1 4).trans rfl; have c1_5 : w1.cell? ⟨Bg, 5, none⟩ = some (.bool d) := (blk_cell hb1 5).trans rfl; clear hb1 hg1 hG) | (go_at_call 93; (with_reducible refine (w_text _ base Sg Wg T 0 10 Pg PT ps pv _ S HS1.out hS (by (try simp only [List.length_append, List.length_cons, List.length_nil, hib_len, vbytes_len, bytesOf_length]); omega)).mono ?_); rintro e w2 ⟨rfl, hs, hb, hr⟩; have HS2 := Aside0.mk hs; have HB2 := Aside0.mk (HB1.out.trans hb); have HR2 := Aside0.mk (HR1.out.trans hr); clear hs hb hr))
  go_ret
  exact ⟨rfl, HS2.out, HB2.out, HR0.out.trans HR2.out⟩

set_option maxHeartbeats 4000000 in
set_option maxRecDepth 100000 in
theorem wr9_b (w : World) (base Sg Wg T Pg PT : Nat) (ps : Array Value) (pv : Value) (xs : List Int) (n : Int) (S : ByteArray) (a b : Int) (d : Bool) (hst : St w base Sg Wg T 0 10 Pg PT ps pv xs) (h0 : 0 ≤ n) (h1 : n < 2147483648) (hl : xs.length < 800000000) :
    Calls Try.prog 17 #[.agg #[.int .i64 9, .int .i64 n, .string S, .int .i64 a, .int .i64 b, .bool d], .iface 163 (.pointer (some ⟨Wg, 0, none⟩))] w fun e w' => e = .returned (.bool true) ∧ St w' base Sg Wg T 0 10 Pg PT ps pv (xs ++ hib 4 n) ∧ Below base w w' ∧ Rest w w' Sg Wg := by
  have HST := Aside0.mk hst
  clear hst
  go_enter Try.func17, Try.ntmps17
  go_wp2_with (first | ((with_reducible refine gate_dst (N := 2) rfl ?_); refine box_event ?xhg (N := 2) ?xhd (cs := #[.int .i64 9, .int .i64 n, .string S, .int .i64 a, .int .i64 b, .bool d]) (t := 30) ?xhr ?_; (case xhd => rfl); (case xhg => rfl); (case xhr => first | (go_simp; done) | (go_simp; rfl)); intro Bg hG w1 hb1 hg1; have HHELD := Aside0.mk (fun w' (hr : Rest w1 w' Sg Wg) => HST.out.held hg1 hb1 (Nat.le_of_eq hG.symm) hr); have HS1 := Aside0.mk (HST.out.below hg1); have HB1 := Aside0.mk (hg1.mono HST.out.b3); have HR1 := Aside0.mk (Rest.below (Sg := Sg) (Wg := Wg) (Below.refl w1.heap.size w1)); have HR0 := Aside0.mk (Rest.below (Sg := Sg) (Wg := Wg) hg1); have c1_0 : w1.cell? ⟨Bg, 0, none⟩ = some (.int .i64 9) := (blk_cell hb1 0).trans rfl; have c1_1 : w1.cell? ⟨Bg, 1, none⟩ = some (.int .i64 n) := (blk_cell hb1 1).trans rfl; have c1_2 : w1.cell? ⟨Bg, 2, none⟩ = some (.string S) := (blk_cell hb1 2).trans rfl; have c1_3 : w1.cell? ⟨Bg, 3, none⟩ = some (.int .i64 a) := (blk_cell hb1 3).trans rfl; have c1_4 : w1.cell? ⟨Bg, 4, none⟩ = some (.int .i64 b) := (blk_cell hb1 4).trans rfl; have c1_5 : w1.cell? ⟨Bg, 5, none⟩ = some (.bool d) := (blk_cell hb1 5).trans rfl; clear hb1 hg1 hG) | (go_at_call 88; (with_reducible refine (w_len _ base Sg Wg T 0 10 Pg PT ps pv _ n HS1.out h0 h1 (by (try simp only [List.length_append, List.length_cons, List.length_nil, hib_len, vbytes_len, bytesOf_length]); omega)).mono ?_); rintro e w2 ⟨rfl, hs, hb, hr⟩; have HS2 := Aside0.mk hs; have HB2 := Aside0.mk (HB1.out.trans hb); have HR2 := Aside0.mk (HR1.out.trans hr); clear hs hb hr))
  go_ret
  exact ⟨rfl, HS2.out, HB2.out, HR0.out.trans HR2.out⟩

set_option maxHeartbeats 4000000 in
set_option maxRecDepth 100000 in
theorem wr1z_c (w : World) (base Sg Wg T Pg PT : Nat) (ps : Array Value) (pv : Value) (xs : List Int) (S : ByteArray) (a b : Int) (d : Bool) (hst : St w base Sg Wg T 1 21 Pg PT ps pv xs)  (hl : xs.length < 800000000) :
    Calls Try.prog 17 #[.agg #[.int .i64 1, .int .i64 0, .string S, .int .i64 a, .int .i64 b, .bool d], .iface 169 (.pointer (some ⟨Wg, 0, none⟩))] w fun e w' => e = .returned (.bool true) ∧ St w' base Sg Wg T 1 21 Pg PT ps pv (xs ++ [0]) ∧ Below base w w' ∧ Rest w w' Sg Wg := by
  have HST := Aside0.mk hst
  clear hst
  go_enter Try.func17, Try.ntmps17
  go_wp2_with (first | ((with_reducible refine gate_dst (N := 2) rfl ?_); refine box_event ?xhg (N := 2) ?xhd (cs := #[.int .i64 1, .int .i64 0, .string S, .int .i64 a, .int .i64 b, .bool d]) (t := 30) ?xhr ?_; (case xhd => rfl); (case xhg => rfl); (case xhr => first | (go_simp; done) | (go_simp; rfl)); intro Bg hG w1 hb1 hg1; have HHELD := Aside0.mk (fun w' (hr : Rest w1 w' Sg Wg) => HST.out.held hg1 hb1 (Nat.le_of_eq hG.symm) hr); have HS1 := Aside0.mk (HST.out.below hg1); have HB1 := Aside0.mk (hg1.mono HST.out.b3); have HR1 := Aside0.mk (Rest.below (Sg := Sg) (Wg := Wg) (Below.refl w1.heap.size w1)); have HR0 := Aside0.mk (Rest.below (Sg := Sg) (Wg := Wg) hg1); have c1_0 : w1.cell? ⟨Bg, 0, none⟩ = some (.int .i64 1) := (blk_cell hb1 0).trans rfl; have c1_1 : w1.cell? ⟨Bg, 1, none⟩ = some (.int .i64 0) := (blk_cell hb1 1).trans rfl; have c1_2 : w1.cell? ⟨Bg, 2, none⟩ = some (.string S) := (blk_cell hb1 2).trans rfl; have c1_3 : w1.cell? ⟨Bg, 3, none⟩ = some (.int .i64 a) := (blk_cell hb1 3).trans rfl; have c1_4 : w1.cell? ⟨Bg, 4, none⟩ = some (.int .i64 b) := (blk_cell hb1 4).trans rfl; have c1_5 : w1.cell? ⟨Bg, 5, none⟩ = some (.bool d) := (blk_cell hb1 5).trans rfl; clear hb1 hg1 hG) | (go_at_call 124; (with_reducible refine (c_bool_false _ base Sg Wg T Pg PT ps pv _ HS1.out (by (try simp only [List.length_append, List.length_cons, List.length_nil, hib_len, vbytes_len, bytesOf_length]); omega)).mono ?_); rintro e w2 ⟨rfl, hs, hb, hr⟩; have HS2 := Aside0.mk hs; have HB2 := Aside0.mk (HB1.out.trans hb); have HR2 := Aside0.mk (HR1.out.trans hr); clear hs hb hr))
  go_ret
  exact ⟨rfl, HS2.out, HB2.out, HR0.out.trans HR2.out⟩

set_option maxHeartbeats 4000000 in
set_option maxRecDepth 100000 in
theorem wr1o_c (w : World) (base Sg Wg T Pg PT : Nat) (ps : Array Value) (pv : Value) (xs : List Int) (S : ByteArray) (a b : Int) (d : Bool) (hst : St w base Sg Wg T 1 21 Pg PT ps pv xs)  (hl : xs.length < 800000000) :
    Calls Try.prog 17 #[.agg #[.int .i64 1, .int .i64 1, .string S, .int .i64 a, .int .i64 b, .bool d], .iface 169 (.pointer (some ⟨Wg, 0, none⟩))] w fun e w' => e = .returned (.bool true) ∧ St w' base Sg Wg T 1 21 Pg PT ps pv (xs ++ [1]) ∧ Below base w w' ∧ Rest w w' Sg Wg := by
  have HST := Aside0.mk hst
  clear hst
  go_enter Try.func17, Try.ntmps17
  go_wp2_with (first | ((with_reducible refine gate_dst (N := 2) rfl ?_); refine box_event ?xhg (N := 2) ?xhd (cs := #[.int .i64 1, .int .i64 1, .string S, .int .i64 a, .int .i64 b, .bool d]) (t := 30) ?xhr ?_; (case xhd => rfl); (case xhg => rfl); (case xhr => first | (go_simp; done) | (go_simp; rfl)); intro Bg hG w1 hb1 hg1; have HHELD := Aside0.mk (fun w' (hr : Rest w1 w' Sg Wg) => HST.out.held hg1 hb1 (Nat.le_of_eq hG.symm) hr); have HS1 := Aside0.mk (HST.out.below hg1); have HB1 := Aside0.mk (hg1.mono HST.out.b3); have HR1 := Aside0.mk (Rest.below (Sg := Sg) (Wg := Wg) (Below.refl w1.heap.size w1)); have HR0 := Aside0.mk (Rest.below (Sg := Sg) (Wg := Wg) hg1); have c1_0 : w1.cell? ⟨Bg, 0, none⟩ = some (.int .i64 1) := (blk_cell hb1 0).trans rfl; have c1_1 : w1.cell? ⟨Bg, 1, none⟩ = some (.int .i64 1) := (blk_cell hb1 1).trans rfl; have c1_2 : w1.cell? ⟨Bg, 2, none⟩ = some (.string S) := (blk_cell hb1 2).trans rfl; have c1_3 : w1.cell? ⟨Bg, 3, none⟩ = some (.int .i64 a) := (blk_cell hb1 3).trans rfl; have c1_4 : w1.cell? ⟨Bg, 4, none⟩ = some (.int .i64 b) := (blk_cell hb1 4).trans rfl; have c1_5 : w1.cell? ⟨Bg, 5, none⟩ = some (.bool d) := (blk_cell hb1 5).trans rfl; clear hb1 hg1 hG) | (go_at_call 124; (with_reducible refine (c_bool_true _ base Sg Wg T Pg PT ps pv _ HS1.out (by (try simp only [List.length_append, List.length_cons, List.length_nil, hib_len, vbytes_len, bytesOf_length]); omega)).mono ?_); rintro e w2 ⟨rfl, hs, hb, hr⟩; have HS2 := Aside0.mk hs; have HB2 := Aside0.mk (HB1.out.trans hb); have HR2 := Aside0.mk (HR1.out.trans hr); clear hs hb hr))
  go_ret
  exact ⟨rfl, HS2.out, HB2.out, HR0.out.trans HR2.out⟩

set_option maxHeartbeats 4000000 in
set_option maxRecDepth 100000 in
theorem wr2_c (w : World) (base Sg Wg T Pg PT : Nat) (ps : Array Value) (pv : Value) (xs : List Int) (n : Int) (S : ByteArray) (a b : Int) (d : Bool) (hst : St w base Sg Wg T 1 21 Pg PT ps pv xs) (h0 : -128 ≤ n) (h1 : n < 128) (hl : xs.length < 800000000) :
    Calls Try.prog 17 #[.agg #[.int .i64 2, .int .i64 n, .string S, .int .i64 a, .int .i64 b, .bool d], .iface 169 (.pointer (some ⟨Wg, 0, none⟩))] w fun e w' => e = .returned (.bool true) ∧ St w' base Sg Wg T 1 21 Pg PT ps pv (xs ++ [IntKind.u8.wrap n]) ∧ Below base w w' ∧ Rest w w' Sg Wg := by
  have HST := Aside0.mk hst
  clear hst
  go_enter Try.func17, Try.ntmps17
  go_wp2_with (first | ((with_reducible refine gate_dst (N := 2) rfl ?_); refine box_event ?xhg (N := 2) ?xhd (cs := #[.int .i64 2, .int .i64 n, .string S, .int .i64 a, .int .i64 b, .bool d]) (t := 30) ?xhr ?_; (case xhd => rfl); (case xhg => rfl); (case xhr => first | (go_simp; done) | (go_simp; rfl)); intro Bg hG w1 hb1 hg1; have HHELD := Aside0.mk (fun w' (hr : Rest w1 w' Sg Wg) => HST.out.held hg1 hb1 (Nat.le_of_eq hG.symm) hr); have HS1 := Aside0.mk (HST.out.below hg1); have HB1 := Aside0.mk (hg1.mono HST.out.b3); have HR1 := Aside0.mk (Rest.below (Sg := Sg) (Wg := Wg) (Below.refl w1.heap.size w1)); have HR0 := Aside0.mk (Rest.below (Sg := Sg) (Wg := Wg) hg1); have c1_0 : w1.cell? ⟨Bg, 0, none⟩ = some (.int .i64 2) := (blk_cell hb1 0).trans rfl; have c1_1 : w1.cell? ⟨Bg, 1, none⟩ = some (.int .i64 n) := (blk_cell hb1 1).trans rfl; have c1_2 : w1.cell? ⟨Bg, 2, none⟩ = some (.string S) := (blk_cell hb1 2).trans rfl; have c1_3 : w1.cell? ⟨Bg, 3, none⟩ = some (.int .i64 a) := (blk_cell hb1 3).trans rfl; have c1_4 : w1.cell? ⟨Bg, 4, none⟩ = some (.int .i64 b) := (blk_cell hb1 4).trans rfl; have c1_5 : w1.cell? ⟨Bg, 5, none⟩ = some (.bool d) := (blk_cell hb1 5).trans rfl; clear hb1 hg1 hG) | (go_at_call 131; (with_reducible refine (c_int8 _ base Sg Wg T Pg PT ps pv _ n HS1.out (by (try simp only [List.length_append, List.length_cons, List.length_nil, hib_len, vbytes_len, bytesOf_length]); omega)).mono ?_); rintro e w2 ⟨rfl, hs, hb, hr⟩; have HS2 := Aside0.mk hs; have HB2 := Aside0.mk (HB1.out.trans hb); have HR2 := Aside0.mk (HR1.out.trans hr); clear hs hb hr))
  go_ret
  exact ⟨rfl, HS2.out, HB2.out, HR0.out.trans HR2.out⟩

set_option maxHeartbeats 4000000 in
set_option maxRecDepth 100000 in
theorem wr3_c (w : World) (base Sg Wg T Pg PT : Nat) (ps : Array Value) (pv : Value) (xs : List Int) (n : Int) (S : ByteArray) (a b : Int) (d : Bool) (hst : St w base Sg Wg T 1 21 Pg PT ps pv xs) (h0 : -32768 ≤ n) (h1 : n < 32768) (j : Nat) (hj : j < 10) (hn : nb j (zig n)) (hl : xs.length < 800000000) :
    Calls Try.prog 17 #[.agg #[.int .i64 3, .int .i64 n, .string S, .int .i64 a, .int .i64 b, .bool d], .iface 169 (.pointer (some ⟨Wg, 0, none⟩))] w fun e w' => e = .returned (.bool true) ∧ St w' base Sg Wg T 1 21 Pg PT ps pv (xs ++ vbytes j (zig n)) ∧ Below base w w' ∧ Rest w w' Sg Wg := by
  have HST := Aside0.mk hst
  have HN := Aside0.mk hn
  clear hn
  clear hst
  go_enter Try.func17, Try.ntmps17
  go_wp2_with (first | ((with_reducible refine gate_dst (N := 2) rfl ?_); refine box_event ?xhg (N := 2) ?xhd (cs := #[.int .i64 3, .int .i64 n, .string S, .int .i64 a, .int .i64 b, .bool d]) (t := 30) ?xhr ?_; (case xhd => rfl); (case xhg => rfl); (case xhr => first | (go_simp; done) | (go_simp; rfl)); intro Bg hG w1 hb1 hg1; have HHELD := Aside0.mk (fun w' (hr : Rest w1 w' Sg Wg) => HST.out.held hg1 hb1 (Nat.le_of_eq hG.symm) hr); have HS1 := Aside0.mk (HST.out.below hg1); have HB1 := Aside0.mk (hg1.mono HST.out.b3); have HR1 := Aside0.mk (Rest.below (Sg := Sg) (Wg := Wg) (Below.refl w1.heap.size w1)); have HR0 := Aside0.mk (Rest.below (Sg := Sg) (Wg := Wg) hg1); have c1_0 : w1.cell? ⟨Bg, 0, none⟩ = some (.int .i64 3) := (blk_cell hb1 0).trans rfl; have c1_1 : w1.cell? ⟨Bg, 1, none⟩ = some (.int .i64 n) := (blk_cell hb1 1).trans rfl; have c1_2 : w1.cell? ⟨Bg, 2, none⟩ = some (.string S) := (blk_cell hb1 2).trans rfl; have c1_3 : w1.cell? ⟨Bg, 3, none⟩ = some (.int .i64 a) := (blk_cell hb1 3).trans rfl; have c1_4 : w1.cell? ⟨Bg, 4, none⟩ = some (.int .i64 b) := (blk_cell hb1 4).trans rfl; have c1_5 : w1.cell? ⟨Bg, 5, none⟩ = some (.bool d) := (blk_cell hb1 5).trans rfl; clear hb1 hg1 hG) | (go_at_call 128; (with_reducible refine (c_int16 _ base Sg Wg T Pg PT ps pv _ n HS1.out h0 h1 j hj HN.out (by (try simp only [List.length_append, List.length_cons, List.length_nil, hib_len, vbytes_len, bytesOf_length]); omega)).mono ?_); rintro e w2 ⟨rfl, hs, hb, hr⟩; have HS2 := Aside0.mk hs; have HB2 := Aside0.mk (HB1.out.trans hb); have HR2 := Aside0.mk (HR1.out.trans hr); clear hs hb hr))
  go_ret
  exact ⟨rfl, HS2.out, HB2.out, HR0.out.trans HR2.out⟩

set_option maxHeartbeats 4000000 in
set_option maxRecDepth 100000 in
theorem wr4_c (w : World) (base Sg Wg T Pg PT : Nat) (ps : Array Value) (pv : Value) (xs : List Int) (n : Int) (S : ByteArray) (a b : Int) (d : Bool) (hst : St w base Sg Wg T 1 21 Pg PT ps pv xs) (h0 : -2147483648 ≤ n) (h1 : n < 2147483648) (j : Nat) (hj : j < 10) (hn : nb j (zig n)) (hl : xs.length < 800000000) :
    Calls Try.prog 17 #[.agg #[.int .i64 4, .int .i64 n, .string S, .int .i64 a, .int .i64 b, .bool d], .iface 169 (.pointer (some ⟨Wg, 0, none⟩))] w fun e w' => e = .returned (.bool true) ∧ St w' base Sg Wg T 1 21 Pg PT ps pv (xs ++ vbytes j (zig n)) ∧ Below base w w' ∧ Rest w w' Sg Wg := by
  have HST := Aside0.mk hst
  have HN := Aside0.mk hn
  clear hn
  clear hst
  go_enter Try.func17, Try.ntmps17
  go_wp2_with (first | ((with_reducible refine gate_dst (N := 2) rfl ?_); refine box_event ?xhg (N := 2) ?xhd (cs := #[.int .i64 4, .int .i64 n, .string S, .int .i64 a, .int .i64 b, .bool d]) (t := 30) ?xhr ?_; (case xhd => rfl); (case xhg => rfl); (case xhr => first | (go_simp; done) | (go_simp; rfl)); intro Bg hG w1 hb1 hg1; have HHELD := Aside0.mk (fun w' (hr : Rest w1 w' Sg Wg) => HST.out.held hg1 hb1 (Nat.le_of_eq hG.symm) hr); have HS1 := Aside0.mk (HST.out.below hg1); have HB1 := Aside0.mk (hg1.mono HST.out.b3); have HR1 := Aside0.mk (Rest.below (Sg := Sg) (Wg := Wg) (Below.refl w1.heap.size w1)); have HR0 := Aside0.mk (Rest.below (Sg := Sg) (Wg := Wg) hg1); have c1_0 : w1.cell? ⟨Bg, 0, none⟩ = some (.int .i64 4) := (blk_cell hb1 0).trans rfl; have c1_1 : w1.cell? ⟨Bg, 1, none⟩ = some (.int .i64 n) := (blk_cell hb1 1).trans rfl; have c1_2 : w1.cell? ⟨Bg, 2, none⟩ = some (.string S) := (blk_cell hb1 2).trans rfl; have c1_3 : w1.cell? ⟨Bg, 3, none⟩ = some (.int .i64 a) := (blk_cell hb1 3).trans rfl; have c1_4 : w1.cell? ⟨Bg, 4, none⟩ = some (.int .i64 b) := (blk_cell hb1 4).trans rfl; have c1_5 : w1.cell? ⟨Bg, 5, none⟩ = some (.bool d) := (blk_cell hb1 5).trans rfl; clear hb1 hg1 hG) | (go_at_call 129; (with_reducible refine (c_int32 _ base Sg Wg T Pg PT ps pv _ n HS1.out h0 h1 j hj HN.out (by (try simp only [List.length_append, List.length_cons, List.length_nil, hib_len, vbytes_len, bytesOf_length]); omega)).mono ?_); rintro e w2 ⟨rfl, hs, hb, hr⟩; have HS2 := Aside0.mk hs; have HB2 := Aside0.mk (HB1.out.trans hb); have HR2 := Aside0.mk (HR1.out.trans hr); clear hs hb hr))
  go_ret
  exact ⟨rfl, HS2.out, HB2.out, HR0.out.trans HR2.out⟩

set_option maxHeartbeats 4000000 in
set_option maxRecDepth 100000 in
theorem wr5_c (w : World) (base Sg Wg T Pg PT : Nat) (ps : Array Value) (pv : Value) (xs : List Int) (n : Int) (S : ByteArray) (a b : Int) (d : Bool) (hst : St w base Sg Wg T 1 21 Pg PT ps pv xs) (h0 : -9223372036854775808 ≤ n) (h1 : n < 9223372036854775808) (j : Nat) (hj : j < 10) (hn : nb j (zig n)) (hl : xs.length < 800000000) :
    Calls Try.prog 17 #[.agg #[.int .i64 5, .int .i64 n, .string S, .int .i64 a, .int .i64 b, .bool d], .iface 169 (.pointer (some ⟨Wg, 0, none⟩))] w fun e w' => e = .returned (.bool true) ∧ St w' base Sg Wg T 1 21 Pg PT ps pv (xs ++ vbytes j (zig n)) ∧ Below base w w' ∧ Rest w w' Sg Wg := by
  have HST := Aside0.mk hst
  have HN := Aside0.mk hn
  clear hn
  clear hst
  go_enter Try.func17, Try.ntmps17
  go_wp2_with (first | ((with_reducible refine gate_dst (N := 2) rfl ?_); refine box_event ?xhg (N := 2) ?xhd (cs := #[.int .i64 5, .int .i64 n, .string S, .int .i64 a, .int .i64 b, .bool d]) (t := 30) ?xhr ?_; (case xhd => rfl); (case xhg => rfl); (case xhr => first | (go_simp; done) | (go_simp; rfl)); intro Bg hG w1 hb1 hg1; have HHELD := Aside0.mk (fun w' (hr : Rest w1 w' Sg Wg) => HST.out.held hg1 hb1 (Nat.le_of_eq hG.symm) hr); have HS1 := Aside0.mk (HST.out.below hg1); have HB1 := Aside0.mk (hg1.mono HST.out.b3); have HR1 := Aside0.mk (Rest.below (Sg := Sg) (Wg := Wg) (Below.refl w1.heap.size w1)); have HR0 := Aside0.mk (Rest.below (Sg := Sg) (Wg := Wg) hg1); have c1_0 : w1.cell? ⟨Bg, 0, none⟩ = some (.int .i64 5) := (blk_cell hb1 0).trans rfl; have c1_1 : w1.cell? ⟨Bg, 1, none⟩ = some (.int .i64 n) := (blk_cell hb1 1).trans rfl; have c1_2 : w1.cell? ⟨Bg, 2, none⟩ = some (.string S) := (blk_cell hb1 2).trans rfl; have c1_3 : w1.cell? ⟨Bg, 3, none⟩ = some (.int .i64 a) := (blk_cell hb1 3).trans rfl; have c1_4 : w1.cell? ⟨Bg, 4, none⟩ = some (.int .i64 b) := (blk_cell hb1 4).trans rfl; have c1_5 : w1.cell? ⟨Bg, 5, none⟩ = some (.bool d) := (blk_cell hb1 5).trans rfl; clear hb1 hg1 hG) | (go_at_call 130; (with_reducible refine (c_int64 _ base Sg Wg T Pg PT ps pv _ n HS1.out h0 h1 j hj HN.out (by (try simp only [List.length_append, List.length_cons, List.length_nil, hib_len, vbytes_len, bytesOf_length]); omega)).mono ?_); rintro e w2 ⟨rfl, hs, hb, hr⟩; have HS2 := Aside0.mk hs; have HB2 := Aside0.mk (HB1.out.trans hb); have HR2 := Aside0.mk (HR1.out.trans hr); clear hs hb hr))
  go_ret
  exact ⟨rfl, HS2.out, HB2.out, HR0.out.trans HR2.out⟩

set_option maxHeartbeats 4000000 in
set_option maxRecDepth 100000 in
theorem wr8_c (w : World) (base Sg Wg T Pg PT : Nat) (ps : Array Value) (pv : Value) (xs : List Int) (n : Int) (S : ByteArray) (a b : Int) (d : Bool) (hst : St w base Sg Wg T 1 21 Pg PT ps pv xs) (hS : S.size < 2147483648) (j : Nat) (hj : j < 10) (hn : nb j (S.size : Int)) (hl : xs.length < 800000000) :
    Calls Try.prog 17 #[.agg #[.int .i64 8, .int .i64 n, .string S, .int .i64 a, .int .i64 b, .bool d], .iface 169 (.pointer (some ⟨Wg, 0, none⟩))] w fun e w' => e = .returned (.bool true) ∧ St w' base Sg Wg T 1 21 Pg PT ps pv (xs ++ (vbytes j S.size ++ bytesOf S)) ∧ Below base w w' ∧ Rest w w' Sg Wg := by
  have HST := Aside0.mk hst
  have HN := Aside0.mk hn
  clear hn
  clear hst
  go_enter Try.func17, Try.ntmps17
  go_wp2_with (first | ((with_reducible refine gate_dst (N := 2) rfl ?_); refine box_event ?xhg (N := 2) ?xhd (cs := #[.int .i64 8, .int .i64 n, .string S, .int .i64 a, .int .i64 b, .bool d]) (t := 30) ?xhr ?_; (case xhd => rfl); (case xhg => rfl); (case xhr => first | (go_simp; done) | (go_simp; rfl)); intro Bg hG w1 hb1 hg1; have HHELD := Aside0.mk (fun w' (hr : Rest w1 w' Sg Wg) => HST.out.held hg1 hb1 (Nat.le_of_eq hG.symm) hr); have HS1 := Aside0.mk (HST.out.below hg1); have HB1 := Aside0.mk (hg1.mono HST.out.b3); have HR1 := Aside0.mk (Rest.below (Sg := Sg) (Wg := Wg) (Below.refl w1.heap.size w1)); have HR0 := Aside0.mk (Rest.below (Sg := Sg) (Wg := Wg) hg1); have c1_0 : w1.cell? ⟨Bg, 0, none⟩ = some (.int .i64 8) := (blk_cell hb1 0).trans rfl; have c1_1 : w1.cell? ⟨Bg, 1, none⟩ = some (.int .i64 n) := (blk_cell hb1 1).trans rfl; have c1_2 : w1.cell? ⟨Bg, 2, none⟩ = some (.string S) := (blk_cell hb1 2).trans rfl; have c1_3 : w1.cell? ⟨Bg, 3, none⟩ = some (.int .i64 a) := (blk_cell hb1 3).trans rfl; have c1_4 : w1.cell? ⟨Bg, 4, none⟩ = some (.int .i64 b) := (blk_cell hb1 4).trans rfl; have c1_5 : w1.cell? ⟨Bg, 5, none⟩ = some (.bool d) := (blk_cell hb1 5).trans rfl; clear hb1 hg1 hG) | (go_at_call 137; (with_reducible refine (c_text _ base Sg Wg T Pg PT ps pv _ S HS1.out hS j hj HN.out (by (try simp only [List.length_append, List.length_cons, List.length_nil, hib_len, vbytes_len, bytesOf_length]); omega)).mono ?_); rintro e w2 ⟨rfl, hs, hb, hr⟩; have HS2 := Aside0.mk hs; have HB2 := Aside0.mk (HB1.out.trans hb); have HR2 := Aside0.mk (HR1.out.trans hr); clear hs hb hr))
  go_ret
  exact ⟨rfl, HS2.out, HB2.out, HR0.out.trans HR2.out⟩

set_option maxHeartbeats 4000000 in
set_option maxRecDepth 100000 in
theorem wr9_c (w : World) (base Sg Wg T Pg PT : Nat) (ps : Array Value) (pv : Value) (xs : List Int) (n : Int) (S : ByteArray) (a b : Int) (d : Bool) (hst : St w base Sg Wg T 1 21 Pg PT ps pv xs) (h0 : 0 ≤ n) (h1 : n < 2147483648) (j : Nat) (hj : j < 10) (hn : nb j n) (hl : xs.length < 800000000) :
    Calls Try.prog 17 #[.agg #[.int .i64 9, .int .i64 n, .string S, .int .i64 a, .int .i64 b, .bool d], .iface 169 (.pointer (some ⟨Wg, 0, none⟩))] w fun e w' => e = .returned (.bool true) ∧ St w' base Sg Wg T 1 21 Pg PT ps pv (xs ++ vbytes j n) ∧ Below base w w' ∧ Rest w w' Sg Wg := by
  have HST := Aside0.mk hst
  have HN := Aside0.mk hn
  clear hn
  clear hst
  go_enter Try.func17, Try.ntmps17
  go_wp2_with (first | ((with_reducible refine gate_dst (N := 2) rfl ?_); refine box_event ?xhg (N := 2) ?xhd (cs := #[.int .i64 9, .int .i64 n, .string S, .int .i64 a, .int .i64 b, .bool d]) (t := 30) ?xhr ?_; (case xhd => rfl); (case xhg => rfl); (case xhr => first | (go_simp; done) | (go_simp; rfl)); intro Bg hG w1 hb1 hg1; have HHELD := Aside0.mk (fun w' (hr : Rest w1 w' Sg Wg) => HST.out.held hg1 hb1 (Nat.le_of_eq hG.symm) hr); have HS1 := Aside0.mk (HST.out.below hg1); have HB1 := Aside0.mk (hg1.mono HST.out.b3); have HR1 := Aside0.mk (Rest.below (Sg := Sg) (Wg := Wg) (Below.refl w1.heap.size w1)); have HR0 := Aside0.mk (Rest.below (Sg := Sg) (Wg := Wg) hg1); have c1_0 : w1.cell? ⟨Bg, 0, none⟩ = some (.int .i64 9) := (blk_cell hb1 0).trans rfl; have c1_1 : w1.cell? ⟨Bg, 1, none⟩ = some (.int .i64 n) := (blk_cell hb1 1).trans rfl; have c1_2 : w1.cell? ⟨Bg, 2, none⟩ = some (.string S) := (blk_cell hb1 2).trans rfl; have c1_3 : w1.cell? ⟨Bg, 3, none⟩ = some (.int .i64 a) := (blk_cell hb1 3).trans rfl; have c1_4 : w1.cell? ⟨Bg, 4, none⟩ = some (.int .i64 b) := (blk_cell hb1 4).trans rfl; have c1_5 : w1.cell? ⟨Bg, 5, none⟩ = some (.bool d) := (blk_cell hb1 5).trans rfl; clear hb1 hg1 hG) | (go_at_call 132; (with_reducible refine (c_len _ base Sg Wg T Pg PT ps pv _ n HS1.out h0 h1 j hj HN.out (by (try simp only [List.length_append, List.length_cons, List.length_nil, hib_len, vbytes_len, bytesOf_length]); omega)).mono ?_); rintro e w2 ⟨rfl, hs, hb, hr⟩; have HS2 := Aside0.mk hs; have HB2 := Aside0.mk (HB1.out.trans hb); have HR2 := Aside0.mk (HR1.out.trans hr); clear hs hb hr))
  go_ret
  exact ⟨rfl, HS2.out, HB2.out, HR0.out.trans HR2.out⟩
end Go.Proofs.Ytmjilokgpgajjaa.Th
