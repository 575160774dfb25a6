/- What a binary writer's further calls write. -/
import Derived.Test.YtmjilokgpgajjaaThBin
namespace Go.Proofs.Ytmjilokgpgajjaa.Th
open Go.RowKit Go.Proofs.YtmjilokgpgajjaaW.PrintWords Go.Proofs.YtmjilokgpgajjaaW.PrintLast Go.Proofs.YtmjilokgpgajjaaW.PrintMore
set_option linter.unusedVariables false
set_option linter.unusedSimpArgs false
/-- A block that was made ahead of the calls stands behind them. -/
theorem St.held {w W1 w' : World} {base Sg Wg T off SZ Pg PT : Nat} {ps : Array Value} {pv : Value} {xs : List Int} {B : Nat} {o : Obj} (h : St w base Sg Wg T off SZ Pg PT ps pv xs) (hb : Below w.heap.size w W1) (hB : W1.heap[B]? = some o) (hn : w.heap.size ≤ B) (hr : Rest W1 w' Sg Wg) : w'.heap[B]? = some o := by
  obtain ⟨v, h1, h2⟩ := h.hS
  obtain ⟨ws, h3, _⟩ := h.hW
  exact hr.blk (blk_below h1 hb) hB (fun e => by have := blk_lt h1; omega) (fun e => by have := blk_lt h3; omega) (fun e => by have := Kd.R_lt h2 B e.symm; omega)
/-- So does a block that was there, if it is none of the sink's. -/
theorem St.kept {w w' : World} {base Sg Wg T off SZ Pg PT : Nat} {ps : Array Value} {pv : Value} {xs : List Int} {A : Option Addr} {n : Nat} {ys : List Int} (h : St w base Sg Wg T off SZ Pg PT ps pv xs) (hy : Kd.F (Kd.int .u8) w (fun k => k ≠ Sg ∧ k ≠ Wg ∧ ∀ v, w.heap[Sg]? = some (.cells #[v] 53 (0, 0)) → some k ≠ v.ownBlock) A n ys) (hr : Rest w w' Sg Wg) : (Kd.int .u8).C w' A n ys := by
  obtain ⟨v, h1, h2⟩ := h.hS
  obtain ⟨v', _, h4⟩ := hr.2 v h1
  exact hy w' (fun k hk hlt => (h4 k hlt hk.1 hk.2.1 (hk.2.2 v h1)).1)

set_option maxHeartbeats 4000000 in
set_option maxRecDepth 100000 in
theorem w_bool_true (w : World) (base Sg Wg T off SZ Pg PT : Nat) (ps : Array Value) (pv : Value) (xs : List Int)  (hst : St w base Sg Wg T off SZ Pg PT ps pv xs)  (hl : xs.length < 1000000000) :
    Calls Try.prog 80 #[.pointer (some ⟨Wg, off, none⟩), .bool true] w fun e w' => e = .returned .nilIface ∧ St w' base Sg Wg T off SZ Pg PT ps pv (xs ++ [1]) ∧ Below base w w' ∧ Rest w w' Sg Wg := by
  have HST := Aside0.mk hst
  have HS1 := Aside0.mk hst
  have HB1 := Aside0.mk (Below.refl base w)
  have HR1 := Aside0.mk (Rest.below (Sg := Sg) (Wg := Wg) (Below.refl w.heap.size w))
  clear hst
  go_enter Try.func80, Try.ntmps80
  go_wp2_with (first | (go_at_call 95; (with_reducible refine (w_byte _ base Sg Wg T off SZ Pg PT ps pv _ _ HS1.out (by (try simp only [List.length_append, List.length_cons, List.length_nil, hib_len]); omega)).mono ?_); rintro e w2 ⟨rfl, hs, hb, hr⟩; have HS2 := Aside0.mk hs; have HB2 := Aside0.mk (HB1.out.trans hb); have HR2 := Aside0.mk (HR1.out.trans hr); clear hs hb hr))
  go_ret
  exact ⟨rfl, by have h := HS2.out; (try simp only [List.append_assoc, List.cons_append, List.nil_append] at h); exact h, HB2.out, HR2.out⟩

set_option maxHeartbeats 4000000 in
set_option maxRecDepth 100000 in
theorem w_bool_false (w : World) (base Sg Wg T off SZ Pg PT : Nat) (ps : Array Value) (pv : Value) (xs : List Int)  (hst : St w base Sg Wg T off SZ Pg PT ps pv xs)  (hl : xs.length < 1000000000) :
    Calls Try.prog 80 #[.pointer (some ⟨Wg, off, none⟩), .bool false] w fun e w' => e = .returned .nilIface ∧ St w' base Sg Wg T off SZ Pg PT ps pv (xs ++ [0]) ∧ Below base w w' ∧ Rest w w' Sg Wg := by
  have HST := Aside0.mk hst
  have HS1 := Aside0.mk hst
  have HB1 := Aside0.mk (Below.refl base w)
  have HR1 := Aside0.mk (Rest.below (Sg := Sg) (Wg := Wg) (Below.refl w.heap.size w))
  clear hst
  go_enter Try.func80, Try.ntmps80
  go_wp2_with (first | (go_at_call 95; (with_reducible refine (w_byte _ base Sg Wg T off SZ Pg PT ps pv _ _ HS1.out (by (try simp only [List.length_append, List.length_cons, List.length_nil, hib_len]); omega)).mono ?_); rintro e w2 ⟨rfl, hs, hb, hr⟩; have HS2 := Aside0.mk hs; have HB2 := Aside0.mk (HB1.out.trans hb); have HR2 := Aside0.mk (HR1.out.trans hr); clear hs hb hr))
  go_ret
  exact ⟨rfl, by have h := HS2.out; (try simp only [List.append_assoc, List.cons_append, List.nil_append] at h); exact h, HB2.out, HR2.out⟩

set_option maxHeartbeats 4000000 in
set_option maxRecDepth 100000 in
theorem w_int8 (w : World) (base Sg Wg T off SZ Pg PT : Nat) (ps : Array Value) (pv : Value) (xs : List Int) (v : Int) (hst : St w base Sg Wg T off SZ Pg PT ps pv xs)  (hl : xs.length < 1000000000) :
    Calls Try.prog 87 #[.pointer (some ⟨Wg, off, none⟩), .int .i8 v] w fun e w' => e = .returned .nilIface ∧ St w' base Sg Wg T off SZ Pg PT ps pv (xs ++ [IntKind.u8.wrap v]) ∧ Below base w w' ∧ Rest w w' Sg Wg := by
  have HST := Aside0.mk hst
  have HS1 := Aside0.mk hst
  have HB1 := Aside0.mk (Below.refl base w)
  have HR1 := Aside0.mk (Rest.below (Sg := Sg) (Wg := Wg) (Below.refl w.heap.size w))
  clear hst
  go_enter Try.func87, Try.ntmps87
  go_wp2_with (first | (go_at_call 95; (with_reducible refine (w_byte _ base Sg Wg T off SZ Pg PT ps pv _ _ HS1.out (by (try simp only [List.length_append, List.length_cons, List.length_nil, hib_len]); omega)).mono ?_); rintro e w2 ⟨rfl, hs, hb, hr⟩; have HS2 := Aside0.mk hs; have HB2 := Aside0.mk (HB1.out.trans hb); have HR2 := Aside0.mk (HR1.out.trans hr); clear hs hb hr))
  go_ret
  exact ⟨rfl, by have h := HS2.out; (try simp only [List.append_assoc, List.cons_append, List.nil_append] at h); exact h, HB2.out, HR2.out⟩

set_option maxHeartbeats 4000000 in
set_option maxRecDepth 100000 in
theorem w_len (w : World) (base Sg Wg T off SZ Pg PT : Nat) (ps : Array Value) (pv : Value) (xs : List Int) (n : Int) (hst : St w base Sg Wg T off SZ Pg PT ps pv xs) (h0' : 0 ≤ n) (h1' : n < 2147483648) (hl : xs.length < 1000000000) :
    Calls Try.prog 88 #[.pointer (some ⟨Wg, off, none⟩), .int .i64 n] w fun e w' => e = .returned .nilIface ∧ St w' base Sg Wg T off SZ Pg PT ps pv (xs ++ hib 4 n) ∧ Below base w w' ∧ Rest w w' Sg Wg := by
  have HST := Aside0.mk hst
  have HS1 := Aside0.mk hst
  have HB1 := Aside0.mk (Below.refl base w)
  have HR1 := Aside0.mk (Rest.below (Sg := Sg) (Wg := Wg) (Below.refl w.heap.size w))
  have h0 : -2147483648 ≤ n := by omega
  have h1 : n < 2147483648 := h1'
  have d0 : decide (n < 0) = false := by simp; omega
  have d1 : decide (2147483647 < n) = false := by simp; omega
  clear hst
  go_enter Try.func88, Try.ntmps88
  go_wp2_with (first | (go_at_call 85; (with_reducible refine (w_int32 _ base Sg Wg T off SZ Pg PT ps pv _ n HS1.out h0 h1 (by (try simp only [List.length_append, List.length_cons, List.length_nil, hib_len]); omega)).mono ?_); rintro e w2 ⟨rfl, hs, hb, hr⟩; have HS2 := Aside0.mk hs; have HB2 := Aside0.mk (HB1.out.trans hb); have HR2 := Aside0.mk (HR1.out.trans hr); clear hs hb hr))
  go_ret
  exact ⟨rfl, by have h := HS2.out; (try simp only [List.append_assoc, List.cons_append, List.nil_append] at h); exact h, HB2.out, HR2.out⟩

set_option maxHeartbeats 4000000 in
set_option maxRecDepth 100000 in
theorem w_field (w : World) (base Sg Wg T off SZ Pg PT : Nat) (ps : Array Value) (pv : Value) (xs : List Int) (id ty : Int) (dl : Bool) (hst : St w base Sg Wg T off SZ Pg PT ps pv xs) (h0 : -32768 ≤ id) (h1 : id < 32768) (hl : xs.length < 1000000000) :
    Calls Try.prog 82 #[.pointer (some ⟨Wg, off, none⟩), .agg #[.int .i16 id, .int .i8 ty, .bool dl]] w fun e w' => e = .returned .nilIface ∧ St w' base Sg Wg T off SZ Pg PT ps pv (xs ++ (IntKind.u8.wrap ty :: hib 2 id)) ∧ Below base w w' ∧ Rest w w' Sg Wg := by
  have HST := Aside0.mk hst
  clear hst
  go_enter Try.func82, Try.ntmps82
  go_wp2_with (first | ((with_reducible refine gate_dst (N := 3) rfl ?_); refine box_event ?xhg (N := 3) ?xhd (cs := #[.int .i16 id, .int .i8 ty, .bool dl]) (t := 117) ?xhr ?_; (case xhd => rfl); (case xhg => rfl); (case xhr => first | (go_simp; done) | (go_simp; rfl)); intro Bg hG w1 hb1 hg1; have HHELD := Aside0.mk (fun w' (hr : Rest w1 w' Sg Wg) => HST.out.held hg1 hb1 (Nat.le_of_eq hG.symm) hr); have HS1 := Aside0.mk (HST.out.below hg1); have HB1 := Aside0.mk (hg1.mono HST.out.b3); have HR1 := Aside0.mk (Rest.below (Sg := Sg) (Wg := Wg) (Below.refl w1.heap.size w1)); have HR0 := Aside0.mk (Rest.below (Sg := Sg) (Wg := Wg) hg1); have c1_0 : w1.cell? ⟨Bg, 0, none⟩ = some (.int .i16 id) := (blk_cell hb1 0).trans rfl; have c1_1 : w1.cell? ⟨Bg, 1, none⟩ = some (.int .i8 ty) := (blk_cell hb1 1).trans rfl; have c1_2 : w1.cell? ⟨Bg, 2, none⟩ = some (.bool dl) := (blk_cell hb1 2).trans rfl; clear hb1 hg1 hG) | (go_at_call 95; (with_reducible refine (w_byte _ base Sg Wg T off SZ Pg PT ps pv _ _ HS1.out (by (try simp only [List.length_append, List.length_cons, List.length_nil, hib_len]); omega)).mono ?_); rintro e w2 ⟨rfl, hs, hb, hr⟩; have HS2 := Aside0.mk hs; have HB2 := Aside0.mk (HB1.out.trans hb); have HR2 := Aside0.mk (HR1.out.trans hr); have HK2 := Aside0.mk (HHELD.out _ HR2.out); have c2_0 : w2.cell? ⟨Bg, 0, none⟩ = some (.int .i16 id) := (blk_cell HK2.out 0).trans rfl; have c2_1 : w2.cell? ⟨Bg, 1, none⟩ = some (.int .i8 ty) := (blk_cell HK2.out 1).trans rfl; have c2_2 : w2.cell? ⟨Bg, 2, none⟩ = some (.bool dl) := (blk_cell HK2.out 2).trans rfl; clear hs hb hr) | (go_at_call 84; (with_reducible refine (w_int16 _ base Sg Wg T off SZ Pg PT ps pv _ id HS2.out h0 h1 (by (try simp only [List.length_append, List.length_cons, List.length_nil, hib_len]); omega)).mono ?_); rintro e w3 ⟨rfl, hs, hb, hr⟩; have HS3 := Aside0.mk hs; have HB3 := Aside0.mk (HB2.out.trans hb); have HR3 := Aside0.mk (HR2.out.trans hr); have HK3 := Aside0.mk (HHELD.out _ HR3.out); have c3_0 : w3.cell? ⟨Bg, 0, none⟩ = some (.int .i16 id) := (blk_cell HK3.out 0).trans rfl; have c3_1 : w3.cell? ⟨Bg, 1, none⟩ = some (.int .i8 ty) := (blk_cell HK3.out 1).trans rfl; have c3_2 : w3.cell? ⟨Bg, 2, none⟩ = some (.bool dl) := (blk_cell HK3.out 2).trans rfl; clear hs hb hr))
  go_ret
  exact ⟨rfl, by have h := HS3.out; (try simp only [List.append_assoc, List.cons_append, List.nil_append] at h); exact h, HB3.out, HR0.out.trans HR3.out⟩

set_option maxHeartbeats 4000000 in
set_option maxRecDepth 100000 in
theorem w_list (w : World) (base Sg Wg T off SZ Pg PT : Nat) (ps : Array Value) (pv : Value) (xs : List Int) (n ty : Int) (hst : St w base Sg Wg T off SZ Pg PT ps pv xs) (h0 : -2147483648 ≤ n) (h1 : n < 2147483648) (hl : xs.length < 1000000000) :
    Calls Try.prog 89 #[.pointer (some ⟨Wg, off, none⟩), .agg #[.int .i32 n, .int .i8 ty]] w fun e w' => e = .returned .nilIface ∧ St w' base Sg Wg T off SZ Pg PT ps pv (xs ++ (IntKind.u8.wrap ty :: hib 4 n)) ∧ Below base w w' ∧ Rest w w' Sg Wg := by
  have HST := Aside0.mk hst
  clear hst
  go_enter Try.func89, Try.ntmps89
  go_wp2_with (first | ((with_reducible refine gate_dst (N := 3) rfl ?_); refine box_event ?xhg (N := 3) ?xhd (cs := #[.int .i32 n, .int .i8 ty]) (t := 120) ?xhr ?_; (case xhd => rfl); (case xhg => rfl); (case xhr => first | (go_simp; done) | (go_simp; rfl)); intro Bg hG w1 hb1 hg1; have HHELD := Aside0.mk (fun w' (hr : Rest w1 w' Sg Wg) => HST.out.held hg1 hb1 (Nat.le_of_eq hG.symm) hr); have HS1 := Aside0.mk (HST.out.below hg1); have HB1 := Aside0.mk (hg1.mono HST.out.b3); have HR1 := Aside0.mk (Rest.below (Sg := Sg) (Wg := Wg) (Below.refl w1.heap.size w1)); have HR0 := Aside0.mk (Rest.below (Sg := Sg) (Wg := Wg) hg1); have c1_0 : w1.cell? ⟨Bg, 0, none⟩ = some (.int .i32 n) := (blk_cell hb1 0).trans rfl; have c1_1 : w1.cell? ⟨Bg, 1, none⟩ = some (.int .i8 ty) := (blk_cell hb1 1).trans rfl; clear hb1 hg1 hG) | (go_at_call 95; (with_reducible refine (w_byte _ base Sg Wg T off SZ Pg PT ps pv _ _ HS1.out (by (try simp only [List.length_append, List.length_cons, List.length_nil, hib_len]); omega)).mono ?_); rintro e w2 ⟨rfl, hs, hb, hr⟩; have HS2 := Aside0.mk hs; have HB2 := Aside0.mk (HB1.out.trans hb); have HR2 := Aside0.mk (HR1.out.trans hr); have HK2 := Aside0.mk (HHELD.out _ HR2.out); have c2_0 : w2.cell? ⟨Bg, 0, none⟩ = some (.int .i32 n) := (blk_cell HK2.out 0).trans rfl; have c2_1 : w2.cell? ⟨Bg, 1, none⟩ = some (.int .i8 ty) := (blk_cell HK2.out 1).trans rfl; clear hs hb hr) | (go_at_call 85; (with_reducible refine (w_int32 _ base Sg Wg T off SZ Pg PT ps pv _ n HS2.out h0 h1 (by (try simp only [List.length_append, List.length_cons, List.length_nil, hib_len]); omega)).mono ?_); rintro e w3 ⟨rfl, hs, hb, hr⟩; have HS3 := Aside0.mk hs; have HB3 := Aside0.mk (HB2.out.trans hb); have HR3 := Aside0.mk (HR2.out.trans hr); have HK3 := Aside0.mk (HHELD.out _ HR3.out); have c3_0 : w3.cell? ⟨Bg, 0, none⟩ = some (.int .i32 n) := (blk_cell HK3.out 0).trans rfl; have c3_1 : w3.cell? ⟨Bg, 1, none⟩ = some (.int .i8 ty) := (blk_cell HK3.out 1).trans rfl; clear hs hb hr))
  go_ret
  exact ⟨rfl, by have h := HS3.out; (try simp only [List.append_assoc, List.cons_append, List.nil_append] at h); exact h, HB3.out, HR0.out.trans HR3.out⟩

set_option maxHeartbeats 4000000 in
set_option maxRecDepth 100000 in
theorem w_set (w : World) (base Sg Wg T off SZ Pg PT : Nat) (ps : Array Value) (pv : Value) (xs : List Int) (n ty : Int) (hst : St w base Sg Wg T off SZ Pg PT ps pv xs) (h0 : -2147483648 ≤ n) (h1 : n < 2147483648) (hl : xs.length < 1000000000) :
    Calls Try.prog 92 #[.pointer (some ⟨Wg, off, none⟩), .agg #[.int .i32 n, .int .i8 ty]] w fun e w' => e = .returned .nilIface ∧ St w' base Sg Wg T off SZ Pg PT ps pv (xs ++ (IntKind.u8.wrap ty :: hib 4 n)) ∧ Below base w w' ∧ Rest w w' Sg Wg := by
  have HST := Aside0.mk hst
  clear hst
  go_enter Try.func92, Try.ntmps92
  go_wp2_with (first | ((with_reducible refine gate_dst (N := 3) rfl ?_); refine box_event ?xhg (N := 3) ?xhd (cs := #[.int .i32 n, .int .i8 ty]) (t := 122) ?xhr ?_; (case xhd => rfl); (case xhg => rfl); (case xhr => first | (go_simp; done) | (go_simp; rfl)); intro Bg hG w1 hb1 hg1; have HHELD := Aside0.mk (fun w' (hr : Rest w1 w' Sg Wg) => HST.out.held hg1 hb1 (Nat.le_of_eq hG.symm) hr); have HS1 := Aside0.mk (HST.out.below hg1); have HB1 := Aside0.mk (hg1.mono HST.out.b3); have HR1 := Aside0.mk (Rest.below (Sg := Sg) (Wg := Wg) (Below.refl w1.heap.size w1)); have HR0 := Aside0.mk (Rest.below (Sg := Sg) (Wg := Wg) hg1); have c1_0 : w1.cell? ⟨Bg, 0, none⟩ = some (.int .i32 n) := (blk_cell hb1 0).trans rfl; have c1_1 : w1.cell? ⟨Bg, 1, none⟩ = some (.int .i8 ty) := (blk_cell hb1 1).trans rfl; clear hb1 hg1 hG) | (go_at_call 89; (with_reducible refine (w_list _ base Sg Wg T off SZ Pg PT ps pv _ n ty HS1.out h0 h1 (by (try simp only [List.length_append, List.length_cons, List.length_nil, hib_len]); omega)).mono ?_); rintro e w2 ⟨rfl, hs, hb, hr⟩; have HS2 := Aside0.mk hs; have HB2 := Aside0.mk (HB1.out.trans hb); have HR2 := Aside0.mk (HR1.out.trans hr); have HK2 := Aside0.mk (HHELD.out _ HR2.out); have c2_0 : w2.cell? ⟨Bg, 0, none⟩ = some (.int .i32 n) := (blk_cell HK2.out 0).trans rfl; have c2_1 : w2.cell? ⟨Bg, 1, none⟩ = some (.int .i8 ty) := (blk_cell HK2.out 1).trans rfl; clear hs hb hr))
  go_ret
  exact ⟨rfl, by have h := HS2.out; (try simp only [List.append_assoc, List.cons_append, List.nil_append] at h); exact h, HB2.out, HR0.out.trans HR2.out⟩

set_option maxHeartbeats 4000000 in
set_option maxRecDepth 100000 in
theorem w_map (w : World) (base Sg Wg T off SZ Pg PT : Nat) (ps : Array Value) (pv : Value) (xs : List Int) (n kt vt : Int) (hst : St w base Sg Wg T off SZ Pg PT ps pv xs) (h0 : -2147483648 ≤ n) (h1 : n < 2147483648) (hl : xs.length < 1000000000) :
    Calls Try.prog 90 #[.pointer (some ⟨Wg, off, none⟩), .agg #[.int .i32 n, .int .i8 kt, .int .i8 vt]] w fun e w' => e = .returned .nilIface ∧ St w' base Sg Wg T off SZ Pg PT ps pv (xs ++ (IntKind.u8.wrap kt :: IntKind.u8.wrap vt :: hib 4 n)) ∧ Below base w w' ∧ Rest w w' Sg Wg := by
  have HST := Aside0.mk hst
  clear hst
  go_enter Try.func90, Try.ntmps90
  go_wp2_with (first | ((with_reducible refine gate_dst (N := 3) rfl ?_); refine box_event ?xhg (N := 3) ?xhd (cs := #[.int .i32 n, .int .i8 kt, .int .i8 vt]) (t := 125) ?xhr ?_; (case xhd => rfl); (case xhg => rfl); (case xhr => first | (go_simp; done) | (go_simp; rfl)); intro Bg hG w1 hb1 hg1; have HHELD := Aside0.mk (fun w' (hr : Rest w1 w' Sg Wg) => HST.out.held hg1 hb1 (Nat.le_of_eq hG.symm) hr); have HS1 := Aside0.mk (HST.out.below hg1); have HB1 := Aside0.mk (hg1.mono HST.out.b3); have HR1 := Aside0.mk (Rest.below (Sg := Sg) (Wg := Wg) (Below.refl w1.heap.size w1)); have HR0 := Aside0.mk (Rest.below (Sg := Sg) (Wg := Wg) hg1); have c1_0 : w1.cell? ⟨Bg, 0, none⟩ = some (.int .i32 n) := (blk_cell hb1 0).trans rfl; have c1_1 : w1.cell? ⟨Bg, 1, none⟩ = some (.int .i8 kt) := (blk_cell hb1 1).trans rfl; have c1_2 : w1.cell? ⟨Bg, 2, none⟩ = some (.int .i8 vt) := (blk_cell hb1 2).trans rfl; clear hb1 hg1 hG) | (go_at_call 95; (with_reducible refine (w_byte _ base Sg Wg T off SZ Pg PT ps pv _ _ HS2.out (by (try simp only [List.length_append, List.length_cons, List.length_nil, hib_len]); omega)).mono ?_); rintro e w3 ⟨rfl, hs, hb, hr⟩; have HS3 := Aside0.mk hs; have HB3 := Aside0.mk (HB2.out.trans hb); have HR3 := Aside0.mk (HR2.out.trans hr); have HK3 := Aside0.mk (HHELD.out _ HR3.out); have c3_0 : w3.cell? ⟨Bg, 0, none⟩ = some (.int .i32 n) := (blk_cell HK3.out 0).trans rfl; have c3_1 : w3.cell? ⟨Bg, 1, none⟩ = some (.int .i8 kt) := (blk_cell HK3.out 1).trans rfl; have c3_2 : w3.cell? ⟨Bg, 2, none⟩ = some (.int .i8 vt) := (blk_cell HK3.out 2).trans rfl; clear hs hb hr) | (go_at_call 95; (with_reducible refine (w_byte _ base Sg Wg T off SZ Pg PT ps pv _ _ HS1.out (by (try simp only [List.length_append, List.length_cons, List.length_nil, hib_len]); omega)).mono ?_); rintro e w2 ⟨rfl, hs, hb, hr⟩; have HS2 := Aside0.mk hs; have HB2 := Aside0.mk (HB1.out.trans hb); have HR2 := Aside0.mk (HR1.out.trans hr); have HK2 := Aside0.mk (HHELD.out _ HR2.out); have c2_0 : w2.cell? ⟨Bg, 0, none⟩ = some (.int .i32 n) := (blk_cell HK2.out 0).trans rfl; have c2_1 : w2.cell? ⟨Bg, 1, none⟩ = some (.int .i8 kt) := (blk_cell HK2.out 1).trans rfl; have c2_2 : w2.cell? ⟨Bg, 2, none⟩ = some (.int .i8 vt) := (blk_cell HK2.out 2).trans rfl; clear hs hb hr) | (go_at_call 85; (with_reducible refine (w_int32 _ base Sg Wg T off SZ Pg PT ps pv _ n HS3.out h0 h1 (by (try simp only [List.length_append, List.length_cons, List.length_nil, hib_len]); omega)).mono ?_); rintro e w4 ⟨rfl, hs, hb, hr⟩; have HS4 := Aside0.mk hs; have HB4 := Aside0.mk (HB3.out.trans hb); have HR4 := Aside0.mk (HR3.out.trans hr); have HK4 := Aside0.mk (HHELD.out _ HR4.out); have c4_0 : w4.cell? ⟨Bg, 0, none⟩ = some (.int .i32 n) := (blk_cell HK4.out 0).trans rfl; have c4_1 : w4.cell? ⟨Bg, 1, none⟩ = some (.int .i8 kt) := (blk_cell HK4.out 1).trans rfl; have c4_2 : w4.cell? ⟨Bg, 2, none⟩ = some (.int .i8 vt) := (blk_cell HK4.out 2).trans rfl; clear hs hb hr))
  go_ret
  exact ⟨rfl, by have h := HS4.out; (try simp only [List.append_assoc, List.cons_append, List.nil_append] at h); exact h, HB4.out, HR0.out.trans HR4.out⟩

set_option maxHeartbeats 4000000 in
set_option maxRecDepth 100000 in
theorem w_text (w : World) (base Sg Wg T off SZ Pg PT : Nat) (ps : Array Value) (pv : Value) (xs : List Int) (S : ByteArray) (hst : St w base Sg Wg T off SZ Pg PT ps pv xs) (hS : S.size < 2147483648) (hl : xs.length < 1000000000) :
    Calls Try.prog 93 #[.pointer (some ⟨Wg, off, none⟩), .string S] w fun e w' => e = .returned .nilIface ∧ St w' base Sg Wg T off SZ Pg PT ps pv (xs ++ (hib 4 S.size ++ bytesOf S)) ∧ Below base w w' ∧ Rest w w' Sg Wg := by
  have HST := Aside0.mk hst
  have HS1 := Aside0.mk hst
  have HB1 := Aside0.mk (Below.refl base w)
  have HR1 := Aside0.mk (Rest.below (Sg := Sg) (Wg := Wg) (Below.refl w.heap.size w))
  clear hst
  go_enter Try.func93, Try.ntmps93
  go_wp2_with (first | (go_at_call 88; (with_reducible refine (w_len _ base Sg Wg T off SZ Pg PT ps pv _ (S.size : Int) HS1.out (by omega) (by omega) (by (try simp only [List.length_append, List.length_cons, List.length_nil, hib_len]); omega)).mono ?_); rintro e w2 ⟨rfl, hs, hb, hr⟩; have HS2 := Aside0.mk hs; have HB2 := Aside0.mk (HB1.out.trans hb); have HR2 := Aside0.mk (HR1.out.trans hr); clear hs hb hr) | (go_at_call 100; (with_reducible refine (w_string _ base Sg Wg T off SZ Pg PT ps pv _ S HS2.out (by (try simp only [List.length_append, List.length_cons, List.length_nil, hib_len]); omega)).mono ?_); rintro e w3 ⟨rfl, hs, hb, hr⟩; have HS3 := Aside0.mk hs; have HB3 := Aside0.mk (HB2.out.trans hb); have HR3 := Aside0.mk (HR2.out.trans hr); clear hs hb hr))
  go_ret
  exact ⟨rfl, by have h := HS3.out; (try simp only [List.append_assoc, List.cons_append, List.nil_append] at h); exact h, HB3.out, HR3.out⟩

set_option maxHeartbeats 4000000 in
set_option maxRecDepth 100000 in
theorem w_blob (w : World) (base Sg Wg T off SZ Pg PT : Nat) (ps : Array Value) (pv : Value) (xs : List Int) (ys : List Int) (A : Option Addr) (c : Nat) (hst : St w base Sg Wg T off SZ Pg PT ps pv xs) (hS : ys.length < 2147483648) (hy : Kd.F (Kd.int .u8) w (fun k => k ≠ Sg ∧ k ≠ Wg ∧ ∀ v, w.heap[Sg]? = some (.cells #[v] 53 (0, 0)) → some k ≠ v.ownBlock) A ys.length ys) (hl : xs.length < 1000000000) :
    Calls Try.prog 81 #[.pointer (some ⟨Wg, off, none⟩), .slice A ys.length c] w fun e w' => e = .returned .nilIface ∧ St w' base Sg Wg T off SZ Pg PT ps pv (xs ++ (hib 4 ys.length ++ ys)) ∧ Below base w w' ∧ Rest w w' Sg Wg := by
  have HST := Aside0.mk hst
  have HS1 := Aside0.mk hst
  have HB1 := Aside0.mk (Below.refl base w)
  have HR1 := Aside0.mk (Rest.below (Sg := Sg) (Wg := Wg) (Below.refl w.heap.size w))
  have HY := Aside0.mk hy
  clear hy
  clear hst
  go_enter Try.func81, Try.ntmps81
  go_wp2_with (first | (go_at_call 88; (with_reducible refine (w_len _ base Sg Wg T off SZ Pg PT ps pv _ (ys.length : Int) HS1.out (by omega) (by omega) (by (try simp only [List.length_append, List.length_cons, List.length_nil, hib_len]); omega)).mono ?_); rintro e w2 ⟨rfl, hs, hb, hr⟩; have HS2 := Aside0.mk hs; have HB2 := Aside0.mk (HB1.out.trans hb); have HR2 := Aside0.mk (HR1.out.trans hr); have HY2 := Aside0.mk (HST.out.kept HY.out HR2.out); clear hs hb hr) | (go_at_call 96; (with_reducible refine (w_write _ base Sg Wg T off SZ Pg PT ps pv _ ys A c HS2.out HY2.out (by (try simp only [List.length_append, List.length_cons, List.length_nil, hib_len]); omega)).mono ?_); rintro e w3 ⟨rfl, hs, hb, hr⟩; have HS3 := Aside0.mk hs; have HB3 := Aside0.mk (HB2.out.trans hb); have HR3 := Aside0.mk (HR2.out.trans hr); clear hs hb hr))
  go_ret
  exact ⟨rfl, by have h := HS3.out; (try simp only [List.append_assoc, List.cons_append, List.nil_append] at h); exact h, HB3.out, HR3.out⟩
end Go.Proofs.Ytmjilokgpgajjaa.Th
