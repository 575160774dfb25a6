/- Calls of a writer through its interface: what each kind of call writes. -/
import Derived.Test.YtmjilokgpgajjaaThComp3
namespace Go.Proofs.Ytmjilokgpgajjaa.Th
open Go.RowKit Go.Proofs.YtmjilokgpgajjaaW.PrintWords Go.Proofs.YtmjilokgpgajjaaW.PrintLast Go.Proofs.YtmjilokgpgajjaaW.PrintMore Go.Proofs.Ytmjilokgpgajjaa.PFnTHWrites
set_option linter.unusedVariables false
set_option linter.unusedSimpArgs false

set_option maxHeartbeats 4000000 in
set_option maxRecDepth 100000 in
theorem wr1z_b (w : World) (base Sg Wg T Pg PT : Nat) (ps : Array Value) (pv : Value) (xs : List Int) (S : ByteArray) (a b : Int) (d : Bool) (hst : St w base Sg Wg T 0 10 Pg PT ps pv xs)  (hl : xs.length < 800000000) :
    Calls Try.prog 17 #[.agg #[.int .i64 1, .int .i64 0, .string S, .int .i64 a, .int .i64 b, .bool d], .iface 163 (.pointer (some ⟨Wg, 0, none⟩))] w fun e w' => e = .returned (.bool true) ∧ St w' base Sg Wg T 0 10 Pg PT ps pv (xs ++ [0]) ∧ Below base w w' ∧ Rest w w' Sg Wg := by
  have HST := Aside0.mk hst
  clear hst
  go_enter Try.func17, Try.ntmps17
  go_wp2_with (first | ((with_reducible refine gate_dst (N := 2) rfl ?_); refine box_event ?xhg (N := 2) ?xhd (cs := #[.int .i64 1, .int .i64 0, .string S, .int .i64 a, .int .i64 b, .bool d]) (t := 30) ?xhr ?_; (case xhd => rfl); (case xhg => rfl); (case xhr => first | (go_simp; done) | (go_simp; rfl)); intro Bg hG w1 hb1 hg1; have HHELD := Aside0.mk (fun w' (hr : Rest w1 w' Sg Wg) => HST.out.held hg1 hb1 (Nat.le_of_eq hG.symm) hr); have HS1 := Aside0.mk (HST.out.below hg1); have HB1 := Aside0.mk (hg1.mono HST.out.b3); have HR1 := Aside0.mk (Rest.below (Sg := Sg) (Wg := Wg) (Below.refl w1.heap.size w1)); have HR0 := Aside0.mk (Rest.below (Sg := Sg) (Wg := Wg) hg1); have c1_0 : w1.cell? ⟨Bg, 0, none⟩ = some (.int .i64 1) := (blk_cell hb1 0).trans rfl; have c1_1 : w1.cell? ⟨Bg, 1, none⟩ = some (.int .i64 0) := (blk_cell hb1 1).trans rfl; have c1_2 : w1.cell? ⟨Bg, 2, none⟩ = some (.string S) := (blk_cell hb1 2).trans rfl; have c1_3 : w1.cell? ⟨Bg, 3, none⟩ = some (.int .i64 a) := (blk_cell hb1 3).trans rfl; have c1_4 : w1.cell? ⟨Bg, 4, none⟩ = some (.int .i64 b) := (blk_cell hb1 4).trans rfl; have c1_5 : w1.cell? ⟨Bg, 5, none⟩ = some (.bool d) := (blk_cell hb1 5).trans rfl; clear hb1 hg1 hG) | (go_at_call 80; (with_reducible refine (w_bool_false _ base Sg Wg T 0 10 Pg PT ps pv _ HS1.out (by (try simp only [List.length_append, List.length_cons, List.length_nil, hib_len, vbytes_len, bytesOf_length]); omega)).mono ?_); rintro e w2 ⟨rfl, hs, hb, hr⟩; have HS2 := Aside0.mk hs; have HB2 := Aside0.mk (HB1.out.trans hb); have HR2 := Aside0.mk (HR1.out.trans hr); clear hs hb hr))
  go_ret
  exact ⟨rfl, HS2.out, HB2.out, HR0.out.trans HR2.out⟩

set_option maxHeartbeats 4000000 in
set_option maxRecDepth 100000 in
theorem wr1o_b (w : World) (base Sg Wg T Pg PT : Nat) (ps : Array Value) (pv : Value) (xs : List Int) (S : ByteArray) (a b : Int) (d : Bool) (hst : St w base Sg Wg T 0 10 Pg PT ps pv xs)  (hl : xs.length < 800000000) :
    Calls Try.prog 17 #[.agg #[.int .i64 1, .int .i64 1, .string S, .int .i64 a, .int .i64 b, .bool d], .iface 163 (.pointer (some ⟨Wg, 0, none⟩))] w fun e w' => e = .returned (.bool true) ∧ St w' base Sg Wg T 0 10 Pg PT ps pv (xs ++ [1]) ∧ Below base w w' ∧ Rest w w' Sg Wg := by
  have HST := Aside0.mk hst
  clear hst
  go_enter Try.func17, Try.ntmps17
  go_wp2_with (first | ((with_reducible refine gate_dst (N := 2) rfl ?_); refine box_event ?xhg (N := 2) ?xhd (cs := #[.int .i64 1, .int .i64 1, .string S, .int .i64 a, .int .i64 b, .bool d]) (t := 30) ?xhr ?_; (case xhd => rfl); (case xhg => rfl); (case xhr => first | (go_simp; done) | (go_simp; rfl)); intro Bg hG w1 hb1 hg1; have HHELD := Aside0.mk (fun w' (hr : Rest w1 w' Sg Wg) => HST.out.held hg1 hb1 (Nat.le_of_eq hG.symm) hr); have HS1 := Aside0.mk (HST.out.below hg1); have HB1 := Aside0.mk (hg1.mono HST.out.b3); have HR1 := Aside0.mk (Rest.below (Sg := Sg) (Wg := Wg) (Below.refl w1.heap.size w1)); have HR0 := Aside0.mk (Rest.below (Sg := Sg) (Wg := Wg) hg1); have c1_0 : w1.cell? ⟨Bg, 0, none⟩ = some (.int .i64 1) := (blk_cell hb1 0).trans rfl; have c1_1 : w1.cell? ⟨Bg, 1, none⟩ = some (.int .i64 1) := (blk_cell hb1 1).trans rfl; have c1_2 : w1.cell? ⟨Bg, 2, none⟩ = some (.string S) := (blk_cell hb1 2).trans rfl; have c1_3 : w1.cell? ⟨Bg, 3, none⟩ = some (.int .i64 a) := (blk_cell hb1 3).trans rfl; have c1_4 : w1.cell? ⟨Bg, 4, none⟩ = some (.int .i64 b) := (blk_cell hb1 4).trans rfl; have c1_5 : w1.cell? ⟨Bg, 5, none⟩ = some (.bool d) := (blk_cell hb1 5).trans rfl; clear hb1 hg1 hG) | (go_at_call 80; (with_reducible refine (w_bool_true _ base Sg Wg T 0 10 Pg PT ps pv _ HS1.out (by (try simp only [List.length_append, List.length_cons, List.length_nil, hib_len, vbytes_len, bytesOf_length]); omega)).mono ?_); rintro e w2 ⟨rfl, hs, hb, hr⟩; have HS2 := Aside0.mk hs; have HB2 := Aside0.mk (HB1.out.trans hb); have HR2 := Aside0.mk (HR1.out.trans hr); clear hs hb hr))
  go_ret
  exact ⟨rfl, HS2.out, HB2.out, HR0.out.trans HR2.out⟩

set_option maxHeartbeats 4000000 in
set_option maxRecDepth 100000 in
theorem wr2_b (w : World) (base Sg Wg T Pg PT : Nat) (ps : Array Value) (pv : Value) (xs : List Int) (n : Int) (S : ByteArray) (a b : Int) (d : Bool) (hst : St w base Sg Wg T 0 10 Pg PT ps pv xs) (h0 : -128 ≤ n) (h1 : n < 128) (hl : xs.length < 800000000) :
    Calls Try.prog 17 #[.agg #[.int .i64 2, .int .i64 n, .string S, .int .i64 a, .int .i64 b, .bool d], .iface 163 (.pointer (some ⟨Wg, 0, none⟩))] w fun e w' => e = .returned (.bool true) ∧ St w' base Sg Wg T 0 10 Pg PT ps pv (xs ++ [IntKind.u8.wrap n]) ∧ Below base w w' ∧ Rest w w' Sg Wg := by
  have HST := Aside0.mk hst
  clear hst
  go_enter Try.func17, Try.ntmps17
  go_wp2_with (first | ((with_reducible refine gate_dst (N := 2) rfl ?_); refine box_event ?xhg (N := 2) ?xhd (cs := #[.int .i64 2, .int .i64 n, .string S, .int .i64 a, .int .i64 b, .bool d]) (t := 30) ?xhr ?_; (case xhd => rfl); (case xhg => rfl); (case xhr => first | (go_simp; done) | (go_simp; rfl)); intro Bg hG w1 hb1 hg1; have HHELD := Aside0.mk (fun w' (hr : Rest w1 w' Sg Wg) => HST.out.held hg1 hb1 (Nat.le_of_eq hG.symm) hr); have HS1 := Aside0.mk (HST.out.below hg1); have HB1 := Aside0.mk (hg1.mono HST.out.b3); have HR1 := Aside0.mk (Rest.below (Sg := Sg) (Wg := Wg) (Below.refl w1.heap.size w1)); have HR0 := Aside0.mk (Rest.below (Sg := Sg) (Wg := Wg) hg1); have c1_0 : w1.cell? ⟨Bg, 0, none⟩ = some (.int .i64 2) := (blk_cell hb1 0).trans rfl; have c1_1 : w1.cell? ⟨Bg, 1, none⟩ = some (.int .i64 n) := (blk_cell hb1 1).trans rfl; have c1_2 : w1.cell? ⟨Bg, 2, none⟩ = some (.string S) := (blk_cell hb1 2).trans rfl; have c1_3 : w1.cell? ⟨Bg, 3, none⟩ = some (.int .i64 a) := (blk_cell hb1 3).trans rfl; have c1_4 : w1.cell? ⟨Bg, 4, none⟩ = some (.int .i64 b) := (blk_cell hb1 4).trans rfl; have c1_5 : w1.cell? ⟨Bg, 5, none⟩ = some (.bool d) := (blk_cell hb1 5).trans rfl; clear hb1 hg1 hG) | (go_at_call 87; (with_reducible refine (w_int8 _ base Sg Wg T 0 10 Pg PT ps pv _ n HS1.out (by (try simp only [List.length_append, List.length_cons, List.length_nil, hib_len, vbytes_len, bytesOf_length]); omega)).mono ?_); rintro e w2 ⟨rfl, hs, hb, hr⟩; have HS2 := Aside0.mk hs; have HB2 := Aside0.mk (HB1.out.trans hb); have HR2 := Aside0.mk (HR1.out.trans hr); clear hs hb hr))
  go_ret
  exact ⟨rfl, HS2.out, HB2.out, HR0.out.trans HR2.out⟩

set_option maxHeartbeats 4000000 in
set_option maxRecDepth 100000 in
theorem wr3_b (w : World) (base Sg Wg T Pg PT : Nat) (ps : Array Value) (pv : Value) (xs : List Int) (n : Int) (S : ByteArray) (a b : Int) (d : Bool) (hst : St w base Sg Wg T 0 10 Pg PT ps pv xs) (h0 : -32768 ≤ n) (h1 : n < 32768) (hl : xs.length < 800000000) :
    Calls Try.prog 17 #[.agg #[.int .i64 3, .int .i64 n, .string S, .int .i64 a, .int .i64 b, .bool d], .iface 163 (.pointer (some ⟨Wg, 0, none⟩))] w fun e w' => e = .returned (.bool true) ∧ St w' base Sg Wg T 0 10 Pg PT ps pv (xs ++ hib 2 n) ∧ Below base w w' ∧ Rest w w' Sg Wg := by
  have HST := Aside0.mk hst
  clear hst
  go_enter Try.func17, Try.ntmps17
  go_wp2_with (first | ((with_reducible refine gate_dst (N := 2) rfl ?_); refine box_event ?xhg (N := 2) ?xhd (cs := #[.int .i64 3, .int .i64 n, .string S, .int .i64 a, .int .i64 b, .bool d]) (t := 30) ?xhr ?_; (case xhd => rfl); (case xhg => rfl); (case xhr => first | (go_simp; done) | (go_simp; rfl)); intro Bg hG w1 hb1 hg1; have HHELD := Aside0.mk (fun w' (hr : Rest w1 w' Sg Wg) => HST.out.held hg1 hb1 (Nat.le_of_eq hG.symm) hr); have HS1 := Aside0.mk (HST.out.below hg1); have HB1 := Aside0.mk (hg1.mono HST.out.b3); have HR1 := Aside0.mk (Rest.below (Sg := Sg) (Wg := Wg) (Below.refl w1.heap.size w1)); have HR0 := Aside0.mk (Rest.below (Sg := Sg) (Wg := Wg) hg1); have c1_0 : w1.cell? ⟨Bg, 0, none⟩ = some (.int .i64 3) := (blk_cell hb1 0).trans rfl; have c1_1 : w1.cell? ⟨Bg, 1, none⟩ = some (.int .i64 n) := (blk_cell hb1 1).trans rfl; have c1_2 : w1.cell? ⟨Bg, 2, none⟩ = some (.string S) := (blk_cell hb1 2).trans rfl; have c1_3 : w1.cell? ⟨Bg, 3, none⟩ = some (.int .i64 a) := (blk_cell hb1 3).trans rfl; have c1_4 : w1.cell? ⟨Bg, 4, none⟩ = some (.int .i64 b) := (blk_cell hb1 4).trans rfl; have c1_5 : w1.cell? ⟨Bg, 5, none⟩ = some (.bool d) := (blk_cell hb1 5).trans rfl; clear hb1 hg1 hG) | (go_at_call 84; (with_reducible refine (w_int16 _ base Sg Wg T 0 10 Pg PT ps pv _ n HS1.out h0 h1 (by (try simp only [List.length_append, List.length_cons, List.length_nil, hib_len, vbytes_len, bytesOf_length]); omega)).mono ?_); rintro e w2 ⟨rfl, hs, hb, hr⟩; have HS2 := Aside0.mk hs; have HB2 := Aside0.mk (HB1.out.trans hb); have HR2 := Aside0.mk (HR1.out.trans hr); clear hs hb hr))
  go_ret
  exact ⟨rfl, HS2.out, HB2.out, HR0.out.trans HR2.out⟩

set_option maxHeartbeats 4000000 in
set_option maxRecDepth 100000 in
theorem wr4_b (w : World) (base Sg Wg T Pg PT : Nat) (ps : Array Value) (pv : Value) (xs : List Int) (n : Int) (S : ByteArray) (a b : Int) (d : Bool) (hst : St w base Sg Wg T 0 10 Pg PT ps pv xs) (h0 : -2147483648 ≤ n) (h1 : n < 2147483648) (hl : xs.length < 800000000) :
    Calls Try.prog 17 #[.agg #[.int .i64 4, .int .i64 n, .string S, .int .i64 a, .int .i64 b, .bool d], .iface 163 (.pointer (some ⟨Wg, 0, none⟩))] w fun e w' => e = .returned (.bool true) ∧ St w' base Sg Wg T 0 10 Pg PT ps pv (xs ++ hib 4 n) ∧ Below base w w' ∧ Rest w w' Sg Wg := by
  have HST := Aside0.mk hst
  clear hst
  go_enter Try.func17, Try.ntmps17
  go_wp2_with (first | ((with_reducible refine gate_dst (N := 2) rfl ?_); refine box_event ?xhg (N := 2) ?xhd (cs := #[.int .i64 4, .int .i64 n, .string S, .int .i64 a, .int .i64 b, .bool d]) (t := 30) ?xhr ?_; (case xhd => rfl); (case xhg => rfl); (case xhr => first | (go_simp; done) | (go_simp; rfl)); intro Bg hG w1 hb1 hg1; have HHELD := Aside0.mk (fun w' (hr : Rest w1 w' Sg Wg) => HST.out.held hg1 hb1 (Nat.le_of_eq hG.symm) hr); have HS1 := Aside0.mk (HST.out.below hg1); have HB1 := Aside0.mk (hg1.mono HST.out.b3); have HR1 := Aside0.mk (Rest.below (Sg := Sg) (Wg := Wg) (Below.refl w1.heap.size w1)); have HR0 := Aside0.mk (Rest.below (Sg := Sg) (Wg := Wg) hg1); have c1_0 : w1.cell? ⟨Bg, 0, none⟩ = some (.int .i64 4) := (blk_cell hb1 0).trans rfl; have c1_1 : w1.cell? ⟨Bg, 1, none⟩ = some (.int .i64 n) := (blk_cell hb1 1).trans rfl; have c1_2 : w1.cell? ⟨Bg, 2, none⟩ = some (.string S) := (blk_cell hb1 2).trans rfl; have c1_3 : w1.cell? ⟨Bg, 3, none⟩ = some (.int .i64 a) := (blk_cell hb1 3).trans rfl; have c1_4 : w1.cell? ⟨Bg, 4, none⟩ = some (.int .i64 b) := (blk_cell hb1 4).trans rfl; have c1_5 : w1.cell? ⟨Bg, 5, none⟩ = some (.bool d) := (blk_cell hb1 5).trans rfl; clear hb1 hg1 hG) | (go_at_call 85; (with_reducible refine (w_int32 _ base Sg Wg T 0 10 Pg PT ps pv _ n HS1.out h0 h1 (by (try simp only [List.length_append, List.length_cons, List.length_nil, hib_len, vbytes_len, bytesOf_length]); omega)).mono ?_); rintro e w2 ⟨rfl, hs, hb, hr⟩; have HS2 := Aside0.mk hs; have HB2 := Aside0.mk (HB1.out.trans hb); have HR2 := Aside0.mk (HR1.out.trans hr); clear hs hb hr))
  go_ret
  exact ⟨rfl, HS2.out, HB2.out, HR0.out.trans HR2.out⟩

set_option maxHeartbeats 4000000 in
set_option maxRecDepth 100000 in
theorem wr5_b (w : World) (base Sg Wg T Pg PT : Nat) (ps : Array Value) (pv : Value) (xs : List Int) (n : Int) (S : ByteArray) (a b : Int) (d : Bool) (hst : St w base Sg Wg T 0 10 Pg PT ps pv xs) (h0 : -9223372036854775808 ≤ n) (h1 : n < 9223372036854775808) (hl : xs.length < 800000000) :
    Calls Try.prog 17 #[.agg #[.int .i64 5, .int .i64 n, .string S, .int .i64 a, .int .i64 b, .bool d], .iface 163 (.pointer (some ⟨Wg, 0, none⟩))] w fun e w' => e = .returned (.bool true) ∧ St w' base Sg Wg T 0 10 Pg PT ps pv (xs ++ hib 8 n) ∧ Below base w w' ∧ Rest w w' Sg Wg := by
  have HST := Aside0.mk hst
  clear hst
  go_enter Try.func17, Try.ntmps17
  go_wp2_with (first | ((with_reducible refine gate_dst (N := 2) rfl ?_); refine box_event ?xhg (N := 2) ?xhd (cs := #[.int .i64 5, .int .i64 n, .string S, .int .i64 a, .int .i64 b, .bool d]) (t := 30) ?xhr ?_; (case xhd => rfl); (case xhg => rfl); (case xhr => first | (go_simp; done) | (go_simp; rfl)); intro Bg hG w1 hb1 hg1; have HHELD := Aside0.mk (fun w' (hr : Rest w1 w' Sg Wg) => HST.out.held hg1 hb1 (Nat.le_of_eq hG.symm) hr); have HS1 := Aside0.mk (HST.out.below hg1); have HB1 := Aside0.mk (hg1.mono HST.out.b3); have HR1 := Aside0.mk (Rest.below (Sg := Sg) (Wg := Wg) (Below.refl w1.heap.size w1)); have HR0 := Aside0.mk (Rest.below (Sg := Sg) (Wg := Wg) hg1); have c1_0 : w1.cell? ⟨Bg, 0, none⟩ = some (.int .i64 5) := (blk_cell hb1 0).trans rfl; have c1_1 : w1.cell? ⟨Bg, 1, none⟩ = some (.int .i64 n) := (blk_cell hb1 1).trans rfl; have c1_2 : w1.cell? ⟨Bg, 2, none⟩ = some (.string S) := (blk_cell hb1 2).trans rfl; have c1_3 : w1.cell? ⟨Bg, 3, none⟩ = some (.int .i64 a) := (blk_cell hb1 3).trans rfl; have c1_4 : w1.cell? ⟨Bg, 4, none⟩ = some (.int .i64 b) := (blk_cell hb1 4).trans rfl; have c1_5 : w1.cell? ⟨Bg, 5, none⟩ = some (.bool d) := (blk_cell hb1 5).trans rfl; clear hb1 hg1 hG) | (go_at_call 86; (with_reducible refine (w_int64 _ base Sg Wg T 0 10 Pg PT ps pv _ n HS1.out h0 h1 (by (try simp only [List.length_append, List.length_cons, List.length_nil, hib_len, vbytes_len, bytesOf_length]); omega)).mono ?_); rintro e w2 ⟨rfl, hs, hb, hr⟩; have HS2 := Aside0.mk hs; have HB2 := Aside0.mk (HB1.out.trans hb); have HR2 := Aside0.mk (HR1.out.trans hr); clear hs hb hr))
  go_ret
  exact ⟨rfl, HS2.out, HB2.out, HR0.out.trans HR2.out⟩

set_option maxHeartbeats 4000000 in
set_option maxRecDepth 100000 in
theorem wr8_b (w : World) (base Sg Wg T Pg PT : Nat) (ps : Array Value) (pv : Value) (xs : List Int) (n : Int) (S : ByteArray) (a b : Int) (d : Bool) (hst : St w base Sg Wg T 0 10 Pg PT ps pv xs) (hS : S.size < 2147483648) (hl : xs.length < 800000000) :
    Calls Try.prog 17 #[.agg #[.int .i64 8, .int .i64 n, .string S, .int .i64 a, .int .i64 b, .bool d], .iface 163 (.pointer (some ⟨Wg, 0, none⟩))] w fun e w' => e = .returned (.bool true) ∧ St w' base Sg Wg T 0 10 Pg PT ps pv (xs ++ (hib 4 S.size ++ bytesOf S)) ∧ Below base w w' ∧ Rest w w' Sg Wg := by
  have HST := Aside0.mk hst
  clear hst
  go_enter Try.func17, Try.ntmps17
  go_wp2_with (first | ((with_reducible refine gate_dst (N := 2) rfl ?_); refine box_event ?xhg (N := 2) ?xhd (cs := #[.int .i64 8, .int .i64 n, .string S, .int .i64 a, .int .i64 b, .bool d]) (t := 30) ?xhr ?_; (case xhd => rfl); (case xhg => rfl); (case xhr => first | (go_simp; done) | (go_simp; rfl)); intro Bg hG w1 hb1 hg1; have HHELD := Aside0.mk (fun w' (hr : Rest w1 w' Sg Wg) => HST.out.held hg1 hb1 (Nat.le_of_eq hG.symm) hr); have HS1 := Aside0.mk (HST.out.below hg1); have HB1 := Aside0.mk (hg1.mono HST.out.b3); have HR1 := Aside0.mk (Rest.below (Sg := Sg) (Wg := Wg) (Below.refl w1.heap.size w1)); have HR0 := Aside0.mk (Rest.below (Sg := Sg) (Wg := Wg) hg1); have c1_0 : w1.cell? ⟨Bg, 0, none⟩ = some (.int .i64 8) := (blk_cell hb1 0).trans rfl; have c1_1 : w1.cell? ⟨Bg, 1, none⟩ = some (.int .i64 n) := (blk_cell hb1 1).trans rfl; have c1_2 : w1.cell? ⟨Bg, 2, none⟩ = some (.string S) := (blk_cell hb1 2).trans rfl; have c1_3 : w1.cell? ⟨Bg, 3, none⟩ = some (.int .i64 a) := (blk_cell hb1 3).trans rfl; have c1_4 : w1.cell? ⟨Bg, 4, none⟩ = some (.int .i64 b) := (blk_cell hb1 4).trans rfl; have c1_5 : w1.cell? ⟨Bg, 5, none⟩ = some (.bool d) := (blk_cell hb1 5).trans rfl; clear hb1 hg1 hG) | (go_at_call 93; (with_reducible refine (w_text _ base Sg Wg T 0 10 Pg PT ps pv _ S HS1.out hS (by (try simp only [List.length_append, List.length_cons, List.length_nil, hib_len, vbytes_len, bytesOf_length]); omega)).mono ?_); rintro e w2 ⟨rfl, hs, hb, hr⟩; have HS2 := Aside0.mk hs; have HB2 := Aside0.mk (HB1.out.trans hb); have HR2 := Aside0.mk (HR1.out.trans hr); clear hs hb hr))
  go_ret
  exact ⟨rfl, HS2.out, HB2.out, HR0.out.trans HR2.out⟩

set_option maxHeartbeats 4000000 in
set_option maxRecDepth 100000 in
theorem wr9_b (w : World) (base Sg Wg T Pg PT : Nat) (ps : Array Value) (pv : Value) (xs : List Int) (n : Int) (S : ByteArray) (a b : Int) (d : Bool) (hst : St w base Sg Wg T 0 10 Pg PT ps pv xs) (h0 : 0 ≤ n) (h1 : n < 2147483648) (hl : xs.length < 800000000) :
    Calls Try.prog 17 #[.agg #[.int .i64 9, .int .i64 n, .string S, .int .i64 a, .int .i64 b, .bool d], .iface 163 (.pointer (some ⟨Wg, 0, none⟩))] w fun e w' => e = .returned (.bool true) ∧ St w' base Sg Wg T 0 10 Pg PT ps pv (xs ++ hib 4 n) ∧ Below base w w' ∧ Rest w w' Sg Wg := by
  have HST := Aside0.mk hst
  clear hst
  go_enter Try.func17, Try.ntmps17
  go_wp2_with (first | ((with_reducible refine gate_dst (N := 2) rfl ?_); refine box_event ?xhg (N := 2) ?xhd (cs := #[.int .i64 9, .int .i64 n, .string S, .int .i64 a, .int .i64 b, .bool d]) (t := 30) ?xhr ?_; (case xhd => rfl); (case xhg => rfl); (case xhr => first | (go_simp; done) | (go_simp; rfl)); intro Bg hG w1 hb1 hg1; have HHELD := Aside0.mk (fun w' (hr : Rest w1 w' Sg Wg) => HST.out.held hg1 hb1 (Nat.le_of_eq hG.symm) hr); have HS1 := Aside0.mk (HST.out.below hg1); have HB1 := Aside0.mk (hg1.mono HST.out.b3); have HR1 := Aside0.mk (Rest.below (Sg := Sg) (Wg := Wg) (Below.refl w1.heap.size w1)); have HR0 := Aside0.mk (Rest.below (Sg := Sg) (Wg := Wg) hg1); have c1_0 : w1.cell? ⟨Bg, 0, none⟩ = some (.int .i64 9) := (blk_cell hb1 0).trans rfl; have c1_1 : w1.cell? ⟨Bg, 1, none⟩ = some (.int .i64 n) := (blk_cell hb1 1).trans rfl; have c1_2 : w1.cell? ⟨Bg, 2, none⟩ = some (.string S) := (blk_cell hb1 2).trans rfl; have c1_3 : w1.cell? ⟨Bg, 3, none⟩ = some (.int .i64 a) := (blk_cell hb1 3).trans rfl; have c1_4 : w1.cell? ⟨Bg, 4, none⟩ = some (.int .i64 b) := (blk_cell hb1 4).trans rfl; have c1_5 : w1.cell? ⟨Bg, 5, none⟩ = some (.bool d) := (blk_cell hb1 5).trans rfl; clear hb1 hg1 hG) | (go_at_call 88; (with_reducible refine (w_len _ base Sg Wg T 0 10 Pg PT ps pv _ n HS1.out h0 h1 (by (try simp only [List.length_append, List.length_cons, List.length_nil, hib_len, vbytes_len, bytesOf_length]); omega)).mono ?_); rintro e w2 ⟨rfl, hs, hb, hr⟩; have HS2 := Aside0.mk hs; have HB2 := Aside0.mk (HB1.out.trans hb); have HR2 := Aside0.mk (HR1.out.trans hr); clear hs hb hr))
  go_ret
  exact ⟨rfl, HS2.out, HB2.out, HR0.out.trans HR2.out⟩

set_option maxHeartbeats 4000000 in
set_option maxRecDepth 100000 in
theorem wr1z_c (w : World) (base Sg Wg T Pg PT : Nat) (ps : Array Value) (pv : Value) (xs : List Int) (S : ByteArray) (a b : Int) (d : Bool) (hst : St w base Sg Wg T 1 21 Pg PT ps pv xs)  (hl : xs.length < 800000000) :
    Calls Try.prog 17 #[.agg #[.int .i64 1, .int .i64 0, .string S, .int .i64 a, .int .i64 b, .bool d], .iface 169 (.pointer (some ⟨Wg, 0, none⟩))] w fun e w' => e = .returned (.bool true) ∧ St w' base Sg Wg T 1 21 Pg PT ps pv (xs ++ [0]) ∧ Below base w w' ∧ Rest w w' Sg Wg := by
  have HST := Aside0.mk hst
  clear hst
  go_enter Try.func17, Try.ntmps17
  go_wp2_with (first | ((with_reducible refine gate_dst (N := 2) rfl ?_); refine box_event ?xhg (N := 2) ?xhd (cs := #[.int .i64 1, .int .i64 0, .string S, .int .i64 a, .int .i64 b, .bool d]) (t := 30) ?xhr ?_; (case xhd => rfl); (case xhg => rfl); (case xhr => first | (go_simp; done) | (go_simp; rfl)); intro Bg hG w1 hb1 hg1; have HHELD := Aside0.mk (fun w' (hr : Rest w1 w' Sg Wg) => HST.out.held hg1 hb1 (Nat.le_of_eq hG.symm) hr); have HS1 := Aside0.mk (HST.out.below hg1); have HB1 := Aside0.mk (hg1.mono HST.out.b3); have HR1 := Aside0.mk (Rest.below (Sg := Sg) (Wg := Wg) (Below.refl w1.heap.size w1)); have HR0 := Aside0.mk (Rest.below (Sg := Sg) (Wg := Wg) hg1); have c1_0 : w1.cell? ⟨Bg, 0, none⟩ = some (.int .i64 1) := (blk_cell hb1 0).trans rfl; have c1_1 : w1.cell? ⟨Bg, 1, none⟩ = some (.int .i64 0) := (blk_cell hb1 1).trans rfl; have c1_2 : w1.cell? ⟨Bg, 2, none⟩ = some (.string S) := (blk_cell hb1 2).trans rfl; have c1_3 : w1.cell? ⟨Bg, 3, none⟩ = some (.int .i64 a) := (blk_cell hb1 3).trans rfl; have c1_4 : w1.cell? ⟨Bg, 4, none⟩ = some (.int .i64 b) := (blk_cell hb1 4).trans rfl; have c1_5 : w1.cell? ⟨Bg, 5, none⟩ = some (.bool d) := (blk_cell hb1 5).trans rfl; clear hb1 hg1 hG) | (go_at_call 124; (with_reducible refine (c_bool_false _ base Sg Wg T Pg PT ps pv _ HS1.out (by (try simp only [List.length_append, List.length_cons, List.length_nil, hib_len, vbytes_len, bytesOf_length]); omega)).mono ?_); rintro e w2 ⟨rfl, hs, hb, hr⟩; have HS2 := Aside0.mk hs; have HB2 := Aside0.mk (HB1.out.trans hb); have HR2 := Aside0.mk (HR1.out.trans hr); clear hs hb hr))
  go_ret
  exact ⟨rfl, HS2.out, HB2.out, HR0.out.trans HR2.out⟩

set_option maxHeartbeats 4000000 in
set_option maxRecDepth 100000 in
theorem wr1o_c (w : World) (base Sg Wg T Pg PT : Nat) (ps : Array Value) (pv : Value) (xs : List Int) (S : ByteArray) (a b : Int) (d : Bool) (hst : St w base Sg Wg T 1 21 Pg PT ps pv xs)  (hl : xs.length < 800000000) :
    Calls Try.prog 17 #[.agg #[.int .i64 1, .int .i64 1, .string S, .int .i64 a, .int .i64 b, .bool d], .iface 169 (.pointer (some ⟨Wg, 0, none⟩))] w fun e w' => e = .returned (.bool true) ∧ St w' base Sg Wg T 1 21 Pg PT ps pv (xs ++ [1]) ∧ Below base w w' ∧ Rest w w' Sg Wg := by
  have HST := Aside0.mk hst
  clear hst
  go_enter Try.func17, Try.ntmps17
  go_wp2_with (first | ((with_reducible refine gate_dst (N := 2) rfl ?_); refine box_event ?xhg (N := 2) ?xhd (cs := #[.int .i64 1, .int .i64 1, .string S, .int .i64 a, .int .i64 b, .bool d]) (t := 30) ?xhr ?_; (case xhd => rfl); (case xhg => rfl); (case xhr => first | (go_simp; done) | (go_simp; rfl)); intro Bg hG w1 hb1 hg1; have HHELD := Aside0.mk (fun w' (hr : Rest w1 w' Sg Wg) => HST.out.held hg1 hb1 (Nat.le_of_eq hG.symm) hr); have HS1 := Aside0.mk (HST.out.below hg1); have HB1 := Aside0.mk (hg1.mono HST.out.b3); have HR1 := Aside0.mk (Rest.below (Sg := Sg) (Wg := Wg) (Below.refl w1.heap.size w1)); have HR0 := Aside0.mk (Rest.below (Sg := Sg) (Wg := Wg) hg1); have c1_0 : w1.cell? ⟨Bg, 0, none⟩ = some (.int .i64 1) := (blk_cell hb1 0).trans rfl; have c1_1 : w1.cell? ⟨Bg, 1, none⟩ = some (.int .i64 1) := (blk_cell hb1 1).trans rfl; have c1_2 : w1.cell? ⟨Bg, 2, none⟩ = some (.string S) := (blk_cell hb1 2).trans rfl; have c1_3 : w1.cell? ⟨Bg, 3, none⟩ = some (.int .i64 a) := (blk_cell hb1 3).trans rfl; have c1_4 : w1.cell? ⟨Bg, 4, none⟩ = some (.int .i64 b) := (blk_cell hb1 4).trans rfl; have c1_5 : w1.cell? ⟨Bg, 5, none⟩ = some (.bool d) := (blk_cell hb1 5).trans rfl; clear hb1 hg1 hG) | (go_at_call 124; (with_reducible refine (c_bool_true _ base Sg Wg T Pg PT ps pv _ HS1.out (by (try simp only [List.length_append, List.length_cons, List.length_nil, hib_len, vbytes_len, bytesOf_length]); omega)).mono ?_); rintro e w2 ⟨rfl, hs, hb, hr⟩; have HS2 := Aside0.mk hs; have HB2 := Aside0.mk (HB1.out.trans hb); have HR2 := Aside0.mk (HR1.out.trans hr); clear hs hb hr))
  go_ret
  exact ⟨rfl, HS2.out, HB2.out, HR0.out.trans HR2.out⟩

set_option maxHeartbeats 4000000 in
set_option maxRecDepth 100000 in
theorem wr2_c (w : World) (base Sg Wg T Pg PT : Nat) (ps : Array Value) (pv : Value) (xs : List Int) (n : Int) (S : ByteArray) (a b : Int) (d : Bool) (hst : St w base Sg Wg T 1 21 Pg PT ps pv xs) (h0 : -128 ≤ n) (h1 : n < 128) (hl : xs.length < 800000000) :
    Calls Try.prog 17 #[.agg #[.int .i64 2, .int .i64 n, .string S, .int .i64 a, .int .i64 b, .bool d], .iface 169 (.pointer (some ⟨Wg, 0, none⟩))] w fun e w' => e = .returned (.bool true) ∧ St w' base Sg Wg T 1 21 Pg PT ps pv (xs ++ [IntKind.u8.wrap n]) ∧ Below base w w' ∧ Rest w w' Sg Wg := by
  have HST := Aside0.mk hst
  clear hst
  go_enter Try.func17, Try.ntmps17
  go_wp2_with (first | ((with_reducible refine gate_dst (N := 2) rfl ?_); refine box_event ?xhg (N := 2) ?xhd (cs := #[.int .i64 2, .int .i64 n, .string S, .int .i64 a, .int .i64 b, .bool d]) (t := 30) ?xhr ?_; (case xhd => rfl); (case xhg => rfl); (case xhr => first | (go_simp; done) | (go_simp; rfl)); intro Bg hG w1 hb1 hg1; have HHELD := Aside0.mk (fun w' (hr : Rest w1 w' Sg Wg) => HST.out.held hg1 hb1 (Nat.le_of_eq hG.symm) hr); have HS1 := Aside0.mk (HST.out.below hg1); have HB1 := Aside0.mk (hg1.mono HST.out.b3); have HR1 := Aside0.mk (Rest.below (Sg := Sg) (Wg := Wg) (Below.refl w1.heap.size w1)); have HR0 := Aside0.mk (Rest.below (Sg := Sg) (Wg := Wg) hg1); have c1_0 : w1.cell? ⟨Bg, 0, none⟩ = some (.int .i64 2) := (blk_cell hb1 0).trans rfl; have c1_1 : w1.cell? ⟨Bg, 1, none⟩ = some (.int .i64 n) := (blk_cell hb1 1).trans rfl; have c1_2 : w1.cell? ⟨Bg, 2, none⟩ = some (.string S) := (blk_cell hb1 2).trans rfl; have c1_3 : w1.cell? ⟨Bg, 3, none⟩ = some (.int .i64 a) := (blk_cell hb1 3).trans rfl; have c1_4 : w1.cell? ⟨Bg, 4, none⟩ = some (.int .i64 b) := (blk_cell hb1 4).trans rfl; have c1_5 : w1.cell? ⟨Bg, 5, none⟩ = some (.bool d) := (blk_cell hb1 5).trans rfl; clear hb1 hg1 hG) | (go_at_call 131; (with_reducible refine (c_int8 _ base Sg Wg T Pg PT ps pv _ n HS1.out (by (try simp only [List.length_append, List.length_cons, List.length_nil, hib_len, vbytes_len, bytesOf_length]); omega)).mono ?_); rintro e w2 ⟨rfl, hs, hb, hr⟩; have HS2 := Aside0.mk hs; have HB2 := Aside0.mk (HB1.out.trans hb); have HR2 := Aside0.mk (HR1.out.trans hr); clear hs hb hr))
  go_ret
  exact ⟨rfl, HS2.out, HB2.out, HR0.out.trans HR2.out⟩

set_option maxHeartbeats 4000000 in
set_option maxRecDepth 100000 in
theorem wr3_c (w : World) (base Sg Wg T Pg PT : Nat) (ps : Array Value) (pv : Value) (xs : List Int) (n : Int) (S : ByteArray) (a b : Int) (d : Bool) (hst : St w base Sg Wg T 1 21 Pg PT ps pv xs) (h0 : -32768 ≤ n) (h1 : n < 32768) (j : Nat) (hj : j < 10) (hn : nb j (zig n)) (hl : xs.length < 800000000) :
    Calls Try.prog 17 #[.agg #[.int .i64 3, .int .i64 n, .string S, .int .i64 a, .int .i64 b, .bool d], .iface 169 (.pointer (some ⟨Wg, 0, none⟩))] w fun e w' => e = .returned (.bool true) ∧ St w' base Sg Wg T 1 21 Pg PT ps pv (xs ++ vbytes j (zig n)) ∧ Below base w w' ∧ Rest w w' Sg Wg := by
  have HST := Aside0.mk hst
  have HN := Aside0.mk hn
  clear hn
  clear hst
  go_enter Try.func17, Try.ntmps17
  go_wp2_with (first | ((with_reducible refine gate_dst (N := 2) rfl ?_); refine box_event ?xhg (N := 2) ?xhd (cs := #[.int .i64 3, .int .i64 n, .string S, .int .i64 a, .int .i64 b, .bool d]) (t := 30) ?xhr ?_; (case xhd => rfl); (case xhg => rfl); (case xhr => first | (go_simp; done) | (go_simp; rfl)); intro Bg hG w1 hb1 hg1; have HHELD := Aside0.mk (fun w' (hr : Rest w1 w' Sg Wg) => HST.out.held hg1 hb1 (Nat.le_of_eq hG.symm) hr); have HS1 := Aside0.mk (HST.out.below hg1); have HB1 := Aside0.mk (hg1.mono HST.out.b3); have HR1 := Aside0.mk (Rest.below (Sg := Sg) (Wg := Wg) (Below.refl w1.heap.size w1)); have HR0 := Aside0.mk (Rest.below (Sg := Sg) (Wg := Wg) hg1); have c1_0 : w1.cell? ⟨Bg, 0, none⟩ = some (.int .i64 3) := (blk_cell hb1 0).trans rfl; have c1_1 : w1.cell? ⟨Bg, 1, none⟩ = some (.int .i64 n) := (blk_cell hb1 1).trans rfl; have c1_2 : w1.cell? ⟨Bg, 2, none⟩ = some (.string S) := (blk_cell hb1 2).trans rfl; have c1_3 : w1.cell? ⟨Bg, 3, none⟩ = some (.int .i64 a) := (blk_cell hb1 3).trans rfl; have c1_4 : w1.cell? ⟨Bg, 4, none⟩ = some (.int .i64 b) := (blk_cell hb1 4).trans rfl; have c1_5 : w1.cell? ⟨Bg, 5, none⟩ = some (.bool d) := (blk_cell hb1 5).trans rfl; clear hb1 hg1 hG) | (go_at_call 128; (with_reducible refine (c_int16 _ base Sg Wg T Pg PT ps pv _ n HS1.out h0 h1 j hj HN.out (by (try simp only [List.length_append, List.length_cons, List.length_nil, hib_len, vbytes_len, bytesOf_length]); omega)).mono ?_); rintro e w2 ⟨rfl, hs, hb, hr⟩; have HS2 := Aside0.mk hs; have HB2 := Aside0.mk (HB1.out.trans hb); have HR2 := Aside0.mk (HR1.out.trans hr); clear hs hb hr))
  go_ret
  exact ⟨rfl, HS2.out, HB2.out, HR0.out.trans HR2.out⟩

set_option maxHeartbeats 4000000 in
set_option maxRecDepth 100000 in
theorem wr4_c (w : World) (base Sg Wg T Pg PT : Nat) (ps : Array Value) (pv : Value) (xs : List Int) (n : Int) (S : ByteArray) (a b : Int) (d : Bool) (hst : St w base Sg Wg T 1 21 Pg PT ps pv xs) (h0 : -2147483648 ≤ n) (h1 : n < 2147483648) (j : Nat) (hj : j < 10) (hn : nb j (zig n)) (hl : xs.length < 800000000) :
    Calls Try.prog 17 #[.agg #[.int .i64 4, .int .i64 n, .string S, .int .i64 a, .int .i64 b, .bool d], .iface 169 (.pointer (some ⟨Wg, 0, none⟩))] w fun e w' => e = .returned (.bool true) ∧ St w' base Sg Wg T 1 21 Pg PT ps pv (xs ++ vbytes j (zig n)) ∧ Below base w w' ∧ Rest w w' Sg Wg := by
  have HST := Aside0.mk hst
  have HN := Aside0.mk hn
  clear hn
  clear hst
  go_enter Try.func17, Try.ntmps17
  go_wp2_with (first | ((with_reducible refine gate_dst (N := 2) rfl ?_); refine box_event ?xhg (N := 2) ?xhd (cs := #[.int .i64 4, .int .i64 n, .string S, .int .i64 a, .int .i64 b, .bool d]) (t := 30) ?xhr ?_; (case xhd => rfl); (case xhg => rfl); (case xhr => first | (go_simp; done) | (go_simp; rfl)); intro Bg hG w1 hb1 hg1; have HHELD := Aside0.mk (fun w' (hr : Rest w1 w' Sg Wg) => HST.out.held hg1 hb1 (Nat.le_of_eq hG.symm) hr); have HS1 := Aside0.mk (HST.out.below hg1); have HB1 := Aside0.mk (hg1.mono HST.out.b3); have HR1 := Aside0.mk (Rest.below (Sg := Sg) (Wg := Wg) (Below.refl w1.heap.size w1)); have HR0 := Aside0.mk (Rest.below (Sg := Sg) (Wg := Wg) hg1); have c1_0 : w1.cell? ⟨Bg, 0, none⟩ = some (.int .i64 4) := (blk_cell hb1 0).trans rfl; have c1_1 : w1.cell? ⟨Bg, 1, none⟩ = some (.int .i64 n) := (blk_cell hb1 1).trans rfl; have c1_2 : w1.cell? ⟨Bg, 2, none⟩ = some (.string S) := (blk_cell hb1 2).trans rfl; have c1_3 : w1.cell? ⟨Bg, 3, none⟩ = some (.int .i64 a) := (blk_cell hb1 3).trans rfl; have c1_4 : w1.cell? ⟨Bg, 4, none⟩ = some (.int .i64 b) := (blk_cell hb1 4).trans rfl; have c1_5 : w1.cell? ⟨Bg, 5, none⟩ = some (.bool d) := (blk_cell hb1 5).trans rfl; clear hb1 hg1 hG) | (go_at_call 129; (with_reducible refine (c_int32 _ base Sg Wg T Pg PT ps pv _ n HS1.out h0 h1 j hj HN.out (by (try simp only [List.length_append, List.length_cons, List.length_nil, hib_len, vbytes_len, bytesOf_length]); omega)).mono ?_); rintro e w2 ⟨rfl, hs, hb, hr⟩; have HS2 := Aside0.mk hs; have HB2 := Aside0.mk (HB1.out.trans hb); have HR2 := Aside0.mk (HR1.out.trans hr); clear hs hb hr))
  go_ret
  exact ⟨rfl, HS2.out, HB2.out, HR0.out.trans HR2.out⟩

set_option maxHeartbeats 4000000 in
set_option maxRecDepth 100000 in
theorem wr5_c (w : World) (base Sg Wg T Pg PT : Nat) (ps : Array Value) (pv : Value) (xs : List Int) (n : Int) (S : ByteArray) (a b : Int) (d : Bool) (hst : St w base Sg Wg T 1 21 Pg PT ps pv xs) (h0 : -9223372036854775808 ≤ n) (h1 : n < 9223372036854775808) (j : Nat) (hj : j < 10) (hn : nb j (zig n)) (hl : xs.length < 800000000) :
    Calls Try.prog 17 #[.agg #[.int .i64 5, .int .i64 n, .string S, .int .i64 a, .int .i64 b, .bool d], .iface 169 (.pointer (some ⟨Wg, 0, none⟩))] w fun e w' => e = .returned (.bool true) ∧ St w' base Sg Wg T 1 21 Pg PT ps pv (xs ++ vbytes j (zig n)) ∧ Below base w w' ∧ Rest w w' Sg Wg := by
  have HST := Aside0.mk hst
  have HN := Aside0.mk hn
  clear hn
  clear hst
  go_enter Try.func17, Try.ntmps17
  go_wp2_with (first | ((with_reducible refine gate_dst (N := 2) rfl ?_); refine box_event ?xhg (N := 2) ?xhd (cs := #[.int .i64 5, .int .i64 n, .string S, .int .i64 a, .int .i64 b, .bool d]) (t := 30) ?xhr ?_; (case xhd => rfl); (case xhg => rfl); (case xhr => first | (go_simp; done) | (go_simp; rfl)); intro Bg hG w1 hb1 hg1; have HHELD := Aside0.mk (fun w' (hr : Rest w1 w' Sg Wg) => HST.out.held hg1 hb1 (Nat.le_of_eq hG.symm) hr); have HS1 := Aside0.mk (HST.out.below hg1); have HB1 := Aside0.mk (hg1.mono HST.out.b3); have HR1 := Aside0.mk (Rest.below (Sg := Sg) (Wg := Wg) (Below.refl w1.heap.size w1)); have HR0 := Aside0.mk (Rest.below (Sg := Sg) (Wg := Wg) hg1); have c1_0 : w1.cell? ⟨Bg, 0, none⟩ = some (.int .i64 5) := (blk_cell hb1 0).trans rfl; have c1_1 : w1.cell? ⟨Bg, 1, none⟩ = some (.int .i64 n) := (blk_cell hb1 1).trans rfl; have c1_2 : w1.cell? ⟨Bg, 2, none⟩ = some (.string S) := (blk_cell hb1 2).trans rfl; have c1_3 : w1.cell? ⟨Bg, 3, none⟩ = some (.int .i64 a) := (blk_cell hb1 3).trans rfl; have c1_4 : w1.cell? ⟨Bg, 4, none⟩ = some (.int .i64 b) := (blk_cell hb1 4).trans rfl; have c1_5 : w1.cell? ⟨Bg, 5, none⟩ = some (.bool d) := (blk_cell hb1 5).trans rfl; clear hb1 hg1 hG) | (go_at_call 130; (with_reducible refine (c_int64 _ base Sg Wg T Pg PT ps pv _ n HS1.out h0 h1 j hj HN.out (by (try simp only [List.length_append, List.length_cons, List.length_nil, hib_len, vbytes_len, bytesOf_length]); omega)).mono ?_); rintro e w2 ⟨rfl, hs, hb, hr⟩; have HS2 := Aside0.mk hs; have HB2 := Aside0.mk (HB1.out.trans hb); have HR2 := Aside0.mk (HR1.out.trans hr); clear hs hb hr))
  go_ret
  exact ⟨rfl, HS2.out, HB2.out, HR0.out.trans HR2.out⟩

set_option maxHeartbeats 4000000 in
set_option maxRecDepth 100000 in
theorem wr8_c (w : World) (base Sg Wg T Pg PT : Nat) (ps : Array Value) (pv : Value) (xs : List Int) (n : Int) (S : ByteArray) (a b : Int) (d : Bool) (hst : St w base Sg Wg T 1 21 Pg PT ps pv xs) (hS : S.size < 2147483648) (j : Nat) (hj : j < 10) (hn : nb j (S.size : Int)) (hl : xs.length < 800000000) :
    Calls Try.prog 17 #[.agg #[.int .i64 8, .int .i64 n, .string S, .int .i64 a, .int .i64 b, .bool d], .iface 169 (.pointer (some ⟨Wg, 0, none⟩))] w fun e w' => e = .returned (.bool true) ∧ St w' base Sg Wg T 1 21 Pg PT ps pv (xs ++ (vbytes j S.size ++ bytesOf S)) ∧ Below base w w' ∧ Rest w w' Sg Wg := by
  have HST := Aside0.mk hst
  have HN := Aside0.mk hn
  clear hn
  clear hst
  go_enter Try.func17, Try.ntmps17
  go_wp2_with (first | ((with_reducible refine gate_dst (N := 2) rfl ?_); refine box_event ?xhg (N := 2) ?xhd (cs := #[.int .i64 8, .int .i64 n, .string S, .int .i64 a, .int .i64 b, .bool d]) (t := 30) ?xhr ?_; (case xhd => rfl); (case xhg => rfl); (case xhr => first | (go_simp; done) | (go_simp; rfl)); intro Bg hG w1 hb1 hg1; have HHELD := Aside0.mk (fun w' (hr : Rest w1 w' Sg Wg) => HST.out.held hg1 hb1 (Nat.le_of_eq hG.symm) hr); have HS1 := Aside0.mk (HST.out.below hg1); have HB1 := Aside0.mk (hg1.mono HST.out.b3); have HR1 := Aside0.mk (Rest.below (Sg := Sg) (Wg := Wg) (Below.refl w1.heap.size w1)); have HR0 := Aside0.mk (Rest.below (Sg := Sg) (Wg := Wg) hg1); have c1_0 : w1.cell? ⟨Bg, 0, none⟩ = some (.int .i64 8) := (blk_cell hb1 0).trans rfl; have c1_1 : w1.cell? ⟨Bg, 1, none⟩ = some (.int .i64 n) := (blk_cell hb1 1).trans rfl; have c1_2 : w1.cell? ⟨Bg, 2, none⟩ = some (.string S) := (blk_cell hb1 2).trans rfl; have c1_3 : w1.cell? ⟨Bg, 3, none⟩ = some (.int .i64 a) := (blk_cell hb1 3).trans rfl; have c1_4 : w1.cell? ⟨Bg, 4, none⟩ = some (.int .i64 b) := (blk_cell hb1 4).trans rfl; have c1_5 : w1.cell? ⟨Bg, 5, none⟩ = some (.bool d) := (blk_cell hb1 5).trans rfl; clear hb1 hg1 hG) | (go_at_call 137; (with_reducible refine (c_text _ base Sg Wg T Pg PT ps pv _ S HS1.out hS j hj HN.out (by (try simp only [List.length_append, List.length_cons, List.length_nil, hib_len, vbytes_len, bytesOf_length]); omega)).mono ?_); rintro e w2 ⟨rfl, hs, hb, hr⟩; have HS2 := Aside0.mk hs; have HB2 := Aside0.mk (HB1.out.trans hb); have HR2 := Aside0.mk (HR1.out.trans hr); clear hs hb hr))
  go_ret
  exact ⟨rfl, HS2.out, HB2.out, HR0.out.trans HR2.out⟩

set_option maxHeartbeats 4000000 in
set_option maxRecDepth 100000 in
theorem wr9_c (w : World) (base Sg Wg T Pg PT : Nat) (ps : Array Value) (pv : Value) (xs : List Int) (n : Int) (S : ByteArray) (a b : Int) (d : Bool) (hst : St w base Sg Wg T 1 21 Pg PT ps pv xs) (h0 : 0 ≤ n) (h1 : n < 2147483648) (j : Nat) (hj : j < 10) (hn : nb j n) (hl : xs.length < 800000000) :
    Calls Try.prog 17 #[.agg #[.int .i64 9, .int .i64 n, .string S, .int .i64 a, .int .i64 b, .bool d], .iface 169 (.pointer (some ⟨Wg, 0, none⟩))] w fun e w' => e = .returned (.bool true) ∧ St w' base Sg Wg T 1 21 Pg PT ps pv (xs ++ vbytes j n) ∧ Below base w w' ∧ Rest w w' Sg Wg := by
  have HST := Aside0.mk hst
  have HN := Aside0.mk hn
  clear hn
  clear hst
  go_enter Try.func17, Try.ntmps17
  go_wp2_with (first | ((with_reducible refine gate_dst (N := 2) rfl ?_); refine box_event ?xhg (N := 2) ?xhd (cs := #[.int .i64 9, .int .i64 n, .string S, .int .i64 a, .int .i64 b, .bool d]) (t := 30) ?xhr ?_; (case xhd => rfl); (case xhg => rfl); (case xhr => first | (go_simp; done) | (go_simp; rfl)); intro Bg hG w1 hb1 hg1; have HHELD := Aside0.mk (fun w' (hr : Rest w1 w' Sg Wg) => HST.out.held hg1 hb1 (Nat.le_of_eq hG.symm) hr); have HS1 := Aside0.mk (HST.out.below hg1); have HB1 := Aside0.mk (hg1.mono HST.out.b3); have HR1 := Aside0.mk (Rest.below (Sg := Sg) (Wg := Wg) (Below.refl w1.heap.size w1)); have HR0 := Aside0.mk (Rest.below (Sg := Sg) (Wg := Wg) hg1); have c1_0 : w1.cell? ⟨Bg, 0, none⟩ = some (.int .i64 9) := (blk_cell hb1 0).trans rfl; have c1_1 : w1.cell? ⟨Bg, 1, none⟩ = some (.int .i64 n) := (blk_cell hb1 1).trans rfl; have c1_2 : w1.cell? ⟨Bg, 2, none⟩ = some (.string S) := (blk_cell hb1 2).trans rfl; have c1_3 : w1.cell? ⟨Bg, 3, none⟩ = some (.int .i64 a) := (blk_cell hb1 3).trans rfl; have c1_4 : w1.cell? ⟨Bg, 4, none⟩ = some (.int .i64 b) := (blk_cell hb1 4).trans rfl; have c1_5 : w1.cell? ⟨Bg, 5, none⟩ = some (.bool d) := (blk_cell hb1 5).trans rfl; clear hb1 hg1 hG) | (go_at_call 132; (with_reducible refine (c_len _ base Sg Wg T Pg PT ps pv _ n HS1.out h0 h1 j hj HN.out (by (try simp only [List.length_append, List.length_cons, List.length_nil, hib_len, vbytes_len, bytesOf_length]); omega)).mono ?_); rintro e w2 ⟨rfl, hs, hb, hr⟩; have HS2 := Aside0.mk hs; have HB2 := Aside0.mk (HB1.out.trans hb); have HR2 := Aside0.mk (HR1.out.trans hr); clear hs hb hr))
  go_ret
  exact ⟨rfl, HS2.out, HB2.out, HR0.out.trans HR2.out⟩
end Go.Proofs.Ytmjilokgpgajjaa.Th
