/- Written by thrdcall.py (wip/tpl): a call of a reader through its interface: what is read -/
import Derived.Test.YtmjilokgpgajjaaThN2
namespace Go.Proofs.Ytmjilokgpgajjaa.Th
open Go.RowKit Go.Proofs.YtmjilokgpgajjaaW.PrintWords Go.Proofs.YtmjilokgpgajjaaW.PrintLast Go.Proofs.YtmjilokgpgajjaaW.PrintMore
set_option linter.unusedVariables false
set_option linter.unusedSimpArgs false
set_option maxHeartbeats 8000000 in
set_option maxRecDepth 100000 in
theorem rr1z_b (w : World) (base Rb Rd T : Nat) (A : Option Addr) (D : List Int) (C i : Nat) (hs : Sr w base Rb Rd T 0 10 A D C i)   (hz : At D i ([0])) :
    Calls Try.prog 20 #[.iface 159 (.pointer (some ⟨Rd, 0, none⟩)), .int .i64 1] w fun e w' => e = .returned (.tuple #[.agg #[.int .i64 1, .int .i64 0, .string ⟨#[]⟩, .int .i64 0, .int .i64 0, .bool false], .bool true]) ∧ Done w w' base Rb Rd T 0 10 A D C (i + 1) := by
  have HS := Aside0.mk hs
  have HK := Aside0.mk (Kp.refl w Rb Rd)
  have HB := Aside0.mk (Below.refl base w)
  have HZ := Aside0.mk hz
  clear hs hz
  go_enter Try.func20, Try.ntmps20
  go_upto_region 38 with (first | ((with_reducible refine gate_dst (N := 4) rfl ?_); refine box_event ?xhg (N := 4) ?xhd (cs := #[.int .i64 0, .int .i64 0, .string ⟨#[]⟩, .int .i64 0, .int .i64 0, .bool false]) (t := 30) ?xhr ?_; (case xhd => rfl); (case xhg => rfl); (case xhr => first | (go_simp; done) | (go_simp; rfl)); intro B4 hG W1 hb1 hg1; have HN4 := Aside0.mk (HS.out.new hG HK.out.1); have n1 := Aside0.mk (HS.out.below hg1); have n2 := Aside0.mk (HK.out.trans (Kp.below hg1)); have n3 := Aside0.mk (HB.out.trans (hg1.mono HS.out.b3)); clear HS HK HB; have HS := n1; have HK := n2; have HB := n3; clear n1 n2 n3; have BK4 := Aside0.mk hb1; clear hb1 hg1 hG; obtain ⟨q4_0, q4_1, q4_2, q4_3, q4_4, q4_5, hlt4⟩ := blkof6 BK4.out; skip) | ((with_reducible refine gate_st rfl ?_); refine store_any _ _ _ rfl rfl rfl (i := 0) BK4.out rfl (by simp) rfl rfl rfl (by kernel_rfl) ?_; intro W1 hb1 hk1 hg1; have n1 := Aside0.mk (HS.out.other HN4.out hk1); have n2 := Aside0.mk (HK.out.other hk1 HN4.out); have n3 := Aside0.mk (HB.out.trans (hg1.mono HN4.out.2.2.1)); have k1 := Aside0.mk (show W1.heap[B4]? = some (.cells #[.int .i64 1, .int .i64 0, .string ⟨#[]⟩, .int .i64 0, .int .i64 0, .bool false] 30 (0, 0)) from hb1); clear BK4; clear HS HK HB; have HS := n1; have HK := n2; have HB := n3; clear n1 n2 n3; have BK4 := k1; clear hb1 hk1 hg1 k1; obtain ⟨q4_0, q4_1, q4_2, q4_3, q4_4, q4_5, hlt4⟩ := blkof6 BK4.out; skip) | (go_at_call 54; (with_reducible refine (r_bool_false _ base Rb Rd T 0 10 A D C _ HS.out HZ.out).mono ?_); rintro e W1 ⟨rfl, hd⟩; have n1 := Aside0.mk hd.1; have n2 := Aside0.mk (HK.out.trans hd.2.1); have n3 := Aside0.mk (HB.out.trans hd.2.2); have m4 := Aside0.mk (hd.2.1.blk BK4.out HN4.out.1 HN4.out.2.1); clear HS HK HB BK4; have HS := n1; have HK := n2; have HB := n3; have BK4 := m4; clear n1 n2 n3 m4; obtain ⟨q4_0, q4_1, q4_2, q4_3, q4_4, q4_5, hlt4⟩ := blkof6 BK4.out; clear hd))
  have f40 := blk_frozen BK4.out 0
  have f41 := blk_frozen BK4.out 1
  have f42 := blk_frozen BK4.out 2
  have f43 := blk_frozen BK4.out 3
  have f44 := blk_frozen BK4.out 4
  have f45 := blk_frozen BK4.out 5
  go_region
  all_goals
    go_wp2_with fail
    obtain ⟨X, hX, x0, x1, x2, x3, x4, x5, hD⟩ := fin6 (.int .i64 1) (.int .i64 0) (.string ⟨#[]⟩) (.int .i64 0) (.int .i64 0) (.bool false) HS.out HN4.out HK.out HB.out BK4.out
    rw [← hX]
    exact bodyPost_ret (v := .tuple #[.agg #[.int .i64 1, .int .i64 0, .string ⟨#[]⟩, .int .i64 0, .int .i64 0, .bool false], .bool true]) (by simp [results, Try.results20, go_sem, x0, x1, x2, x3, x4, x5]) rfl ⟨rfl, hD⟩
set_option maxHeartbeats 8000000 in
set_option maxRecDepth 100000 in
theorem rr1o_b (w : World) (base Rb Rd T : Nat) (A : Option Addr) (D : List Int) (C i : Nat) (hs : Sr w base Rb Rd T 0 10 A D C i)   (hz : At D i ([1])) :
    Calls Try.prog 20 #[.iface 159 (.pointer (some ⟨Rd, 0, none⟩)), .int .i64 1] w fun e w' => e = .returned (.tuple #[.agg #[.int .i64 1, .int .i64 1, .string ⟨#[]⟩, .int .i64 0, .int .i64 0, .bool false], .bool true]) ∧ Done w w' base Rb Rd T 0 10 A D C (i + 1) := by
  have HS := Aside0.mk hs
  have HK := Aside0.mk (Kp.refl w Rb Rd)
  have HB := Aside0.mk (Below.refl base w)
  have HZ := Aside0.mk hz
  clear hs hz
  go_enter Try.func20, Try.ntmps20
  go_upto_region 38 with (first | ((with_reducible refine gate_dst (N := 4) rfl ?_); refine box_event ?xhg (N := 4) ?xhd (cs := #[.int .i64 0, .int .i64 0, .string ⟨#[]⟩, .int .i64 0, .int .i64 0, .bool false]) (t := 30) ?xhr ?_; (case xhd => rfl); (case xhg => rfl); (case xhr => first | (go_simp; done) | (go_simp; rfl)); intro B4 hG W1 hb1 hg1; have HN4 := Aside0.mk (HS.out.new hG HK.out.1); have n1 := Aside0.mk (HS.out.below hg1); have n2 := Aside0.mk (HK.out.trans (Kp.below hg1)); have n3 := Aside0.mk (HB.out.trans (hg1.mono HS.out.b3)); clear HS HK HB; have HS := n1; have HK := n2; have HB := n3; clear n1 n2 n3; have BK4 := Aside0.mk hb1; clear hb1 hg1 hG; obtain ⟨q4_0, q4_1, q4_2, q4_3, q4_4, q4_5, hlt4⟩ := blkof6 BK4.out; skip) | ((with_reducible refine gate_st rfl ?_); refine store_any _ _ _ rfl rfl rfl (i := 0) BK4.out rfl (by simp) rfl rfl rfl (by kernel_rfl) ?_; intro W1 hb1 hk1 hg1; have n1 := Aside0.mk (HS.out.other HN4.out hk1); have n2 := Aside0.mk (HK.out.other hk1 HN4.out); have n3 := Aside0.mk (HB.out.trans (hg1.mono HN4.out.2.2.1)); have k1 := Aside0.mk (show W1.heap[B4]? = some (.cells #[.int .i64 1, .int .i64 0, .string ⟨#[]⟩, .int .i64 0, .int .i64 0, .bool false] 30 (0, 0)) from hb1); clear BK4; clear HS HK HB; have HS := n1; have HK := n2; have HB := n3; clear n1 n2 n3; have BK4 := k1; clear hb1 hk1 hg1 k1; obtain ⟨q4_0, q4_1, q4_2, q4_3, q4_4, q4_5, hlt4⟩ := blkof6 BK4.out; skip) | (go_at_call 54; (with_reducible refine (r_bool_true _ base Rb Rd T 0 10 A D C _ HS.out HZ.out).mono ?_); rintro e W1 ⟨rfl, hd⟩; have n1 := Aside0.mk hd.1; have n2 := Aside0.mk (HK.out.trans hd.2.1); have n3 := Aside0.mk (HB.out.trans hd.2.2); have m4 := Aside0.mk (hd.2.1.blk BK4.out HN4.out.1 HN4.out.2.1); clear HS HK HB BK4; have HS := n1; have HK := n2; have HB := n3; have BK4 := m4; clear n1 n2 n3 m4; obtain ⟨q4_0, q4_1, q4_2, q4_3, q4_4, q4_5, hlt4⟩ := blkof6 BK4.out; clear hd) | ((with_reducible refine gate_st rfl ?_); refine store_any _ _ _ rfl rfl rfl (i := 1) BK4.out rfl (by simp) rfl rfl rfl (by kernel_rfl) ?_; intro W1 hb1 hk1 hg1; have n1 := Aside0.mk (HS.out.other HN4.out hk1); have n2 := Aside0.mk (HK.out.other hk1 HN4.out); have n3 := Aside0.mk (HB.out.trans (hg1.mono HN4.out.2.2.1)); have k1 := Aside0.mk (show W1.heap[B4]? = some (.cells #[.int .i64 1, .int .i64 1, .string ⟨#[]⟩, .int .i64 0, .int .i64 0, .bool false] 30 (0, 0)) from hb1); clear BK4; clear HS HK HB; have HS := n1; have HK := n2; have HB := n3; clear n1 n2 n3; have BK4 := k1; clear hb1 hk1 hg1 k1; obtain ⟨q4_0, q4_1, q4_2, q4_3, q4_4, q4_5, hlt4⟩ := blkof6 BK4.out; skip))
  have f40 := blk_frozen BK4.out 0
  have f41 := blk_frozen BK4.out 1
  have f42 := blk_frozen BK4.out 2
  have f43 := blk_frozen BK4.out 3
  have f44 := blk_frozen BK4.out 4
  have f45 := blk_frozen BK4.out 5
  go_region
  all_goals
    go_wp2_with fail
    obtain ⟨X, hX, x0, x1, x2, x3, x4, x5, hD⟩ := fin6 (.int .i64 1) (.int .i64 1) (.string ⟨#[]⟩) (.int .i64 0) (.int .i64 0) (.bool false) HS.out HN4.out HK.out HB.out BK4.out
    rw [← hX]
    exact bodyPost_ret (v := .tuple #[.agg #[.int .i64 1, .int .i64 1, .string ⟨#[]⟩, .int .i64 0, .int .i64 0, .bool false], .bool true]) (by simp [results, Try.results20, go_sem, x0, x1, x2, x3, x4, x5]) rfl ⟨rfl, hD⟩
set_option maxHeartbeats 8000000 in
set_option maxRecDepth 100000 in
theorem rr2_b (w : World) (base Rb Rd T : Nat) (A : Option Addr) (D : List Int) (C i : Nat) (hs : Sr w base Rb Rd T 0 10 A D C i) (n : Int) (h0 : -128 ≤ n) (h1 : n < 128) (hz : At D i (hib 1 n)) :
    Calls Try.prog 20 #[.iface 159 (.pointer (some ⟨Rd, 0, none⟩)), .int .i64 2] w fun e w' => e = .returned (.tuple #[.agg #[.int .i64 2, .int .i64 n, .string ⟨#[]⟩, .int .i64 0, .int .i64 0, .bool false], .bool true]) ∧ Done w w' base Rb Rd T 0 10 A D C (i + 1) := by
  have HS := Aside0.mk hs
  have HK := Aside0.mk (Kp.refl w Rb Rd)
  have HB := Aside0.mk (Below.refl base w)
  have HZ := Aside0.mk hz
  have ew : wrap64 n = n := by unfold wrap64; omega
  clear hs hz
  go_enter Try.func20, Try.ntmps20
  go_upto_region 38 with (first | ((with_reducible refine gate_dst (N := 4) rfl ?_); refine box_event ?xhg (N := 4) ?xhd (cs := #[.int .i64 0, .int .i64 0, .string ⟨#[]⟩, .int .i64 0, .int .i64 0, .bool false]) (t := 30) ?xhr ?_; (case xhd => rfl); (case xhg => rfl); (case xhr => first | (go_simp; done) | (go_simp; rfl)); intro B4 hG W1 hb1 hg1; have HN4 := Aside0.mk (HS.out.new hG HK.out.1); have n1 := Aside0.mk (HS.out.below hg1); have n2 := Aside0.mk (HK.out.trans (Kp.below hg1)); have n3 := Aside0.mk (HB.out.trans (hg1.mono HS.out.b3)); clear HS HK HB; have HS := n1; have HK := n2; have HB := n3; clear n1 n2 n3; have BK4 := Aside0.mk hb1; clear hb1 hg1 hG; obtain ⟨q4_0, q4_1, q4_2, q4_3, q4_4, q4_5, hlt4⟩ := blkof6 BK4.out; skip) | ((with_reducible refine gate_st rfl ?_); refine store_any _ _ _ rfl rfl rfl (i := 0) BK4.out rfl (by simp) rfl rfl rfl (by kernel_rfl) ?_; intro W1 hb1 hk1 hg1; have n1 := Aside0.mk (HS.out.other HN4.out hk1); have n2 := Aside0.mk (HK.out.other hk1 HN4.out); have n3 := Aside0.mk (HB.out.trans (hg1.mono HN4.out.2.2.1)); have k1 := Aside0.mk (show W1.heap[B4]? = some (.cells #[.int .i64 2, .int .i64 0, .string ⟨#[]⟩, .int .i64 0, .int .i64 0, .bool false] 30 (0, 0)) from hb1); clear BK4; clear HS HK HB; have HS := n1; have HK := n2; have HB := n3; clear n1 n2 n3; have BK4 := k1; clear hb1 hk1 hg1 k1; obtain ⟨q4_0, q4_1, q4_2, q4_3, q4_4, q4_5, hlt4⟩ := blkof6 BK4.out; skip) | (go_at_call 61; (with_reducible refine (f_int8 _ base Rb Rd T 0 10 A D C _ HS.out n h0 h1 HZ.out).mono ?_); rintro e W1 ⟨rfl, hd⟩; have n1 := Aside0.mk hd.1; have n2 := Aside0.mk (HK.out.trans hd.2.1); have n3 := Aside0.mk (HB.out.trans hd.2.2); have m4 := Aside0.mk (hd.2.1.blk BK4.out HN4.out.1 HN4.out.2.1); clear HS HK HB BK4; have HS := n1; have HK := n2; have HB := n3; have BK4 := m4; clear n1 n2 n3 m4; obtain ⟨q4_0, q4_1, q4_2, q4_3, q4_4, q4_5, hlt4⟩ := blkof6 BK4.out; clear hd) | ((with_reducible refine gate_st rfl ?_); refine store_any _ _ _ rfl rfl rfl (i := 1) BK4.out rfl (by simp) rfl rfl rfl (by kernel_rfl) ?_; intro W1 hb1 hk1 hg1; have n1 := Aside0.mk (HS.out.other HN4.out hk1); have n2 := Aside0.mk (HK.out.other hk1 HN4.out); have n3 := Aside0.mk (HB.out.trans (hg1.mono HN4.out.2.2.1)); have k1 := Aside0.mk (show W1.heap[B4]? = some (.cells #[.int .i64 2, .int .i64 n, .string ⟨#[]⟩, .int .i64 0, .int .i64 0, .bool false] 30 (0, 0)) from hb1); clear BK4; clear HS HK HB; have HS := n1; have HK := n2; have HB := n3; clear n1 n2 n3; have BK4 := k1; clear hb1 hk1 hg1 k1; obtain ⟨q4_0, q4_1, q4_2, q4_3, q4_4, q4_5, hlt4⟩ := blkof6 BK4.out; skip))
  have f40 := blk_frozen BK4.out 0
  have f41 := blk_frozen BK4.out 1
  have f42 := blk_frozen BK4.out 2
  have f43 := blk_frozen BK4.out 3
  have f44 := blk_frozen BK4.out 4
  have f45 := blk_frozen BK4.out 5
  go_region
  all_goals
    go_wp2_with fail
    obtain ⟨X, hX, x0, x1, x2, x3, x4, x5, hD⟩ := fin6 (.int .i64 2) (.int .i64 n) (.string ⟨#[]⟩) (.int .i64 0) (.int .i64 0) (.bool false) HS.out HN4.out HK.out HB.out BK4.out
    rw [← hX]
    exact bodyPost_ret (v := .tuple #[.agg #[.int .i64 2, .int .i64 n, .string ⟨#[]⟩, .int .i64 0, .int .i64 0, .bool false], .bool true]) (by simp [results, Try.results20, go_sem, x0, x1, x2, x3, x4, x5]) rfl ⟨rfl, hD⟩
set_option maxHeartbeats 8000000 in
set_option maxRecDepth 100000 in
theorem rr3_b (w : World) (base Rb Rd T : Nat) (A : Option Addr) (D : List Int) (C i : Nat) (hs : Sr w base Rb Rd T 0 10 A D C i) (n : Int) (h0 : -32768 ≤ n) (h1 : n < 32768) (hz : At D i (hib 2 n)) :
    Calls Try.prog 20 #[.iface 159 (.pointer (some ⟨Rd, 0, none⟩)), .int .i64 3] w fun e w' => e = .returned (.tuple #[.agg #[.int .i64 3, .int .i64 n, .string ⟨#[]⟩, .int .i64 0, .int .i64 0, .bool false], .bool true]) ∧ Done w w' base Rb Rd T 0 10 A D C (i + 2) := by
  have HS := Aside0.mk hs
  have HK := Aside0.mk (Kp.refl w Rb Rd)
  have HB := Aside0.mk (Below.refl base w)
  have HZ := Aside0.mk hz
  have ew : wrap64 n = n := by unfold wrap64; omega
  clear hs hz
  go_enter Try.func20, Try.ntmps20
  go_upto_region 38 with (first | ((with_reducible refine gate_dst (N := 4) rfl ?_); refine box_event ?xhg (N := 4) ?xhd (cs := #[.int .i64 0, .int .i64 0, .string ⟨#[]⟩, .int .i64 0, .int .i64 0, .bool false]) (t := 30) ?xhr ?_; (case xhd => rfl); (case xhg => rfl); (case xhr => first | (go_simp; done) | (go_simp; rfl)); intro B4 hG W1 hb1 hg1; have HN4 := Aside0.mk (HS.out.new hG HK.out.1); have n1 := Aside0.mk (HS.out.below hg1); have n2 := Aside0.mk (HK.out.trans (Kp.below hg1)); have n3 := Aside0.mk (HB.out.trans (hg1.mono HS.out.b3)); clear HS HK HB; have HS := n1; have HK := n2; have HB := n3; clear n1 n2 n3; have BK4 := Aside0.mk hb1; clear hb1 hg1 hG; obtain ⟨q4_0, q4_1, q4_2, q4_3, q4_4, q4_5, hlt4⟩ := blkof6 BK4.out; skip) | ((with_reducible refine gate_st rfl ?_); refine store_any _ _ _ rfl rfl rfl (i := 0) BK4.out rfl (by simp) rfl rfl rfl (by kernel_rfl) ?_; intro W1 hb1 hk1 hg1; have n1 := Aside0.mk (HS.out.other HN4.out hk1); have n2 := Aside0.mk (HK.out.other hk1 HN4.out); have n3 := Aside0.mk (HB.out.trans (hg1.mono HN4.out.2.2.1)); have k1 := Aside0.mk (show W1.heap[B4]? = some (.cells #[.int .i64 3, .int .i64 0, .string ⟨#[]⟩, .int .i64 0, .int .i64 0, .bool false] 30 (0, 0)) from hb1); clear BK4; clear HS HK HB; have HS := n1; have HK := n2; have HB := n3; clear n1 n2 n3; have BK4 := k1; clear hb1 hk1 hg1 k1; obtain ⟨q4_0, q4_1, q4_2, q4_3, q4_4, q4_5, hlt4⟩ := blkof6 BK4.out; skip) | (go_at_call 58; (with_reducible refine (r_int16 _ base Rb Rd T 0 10 A D C _ HS.out n h0 h1 HZ.out).mono ?_); rintro e W1 ⟨rfl, hd⟩; have n1 := Aside0.mk hd.1; have n2 := Aside0.mk (HK.out.trans hd.2.1); have n3 := Aside0.mk (HB.out.trans hd.2.2); have m4 := Aside0.mk (hd.2.1.blk BK4.out HN4.out.1 HN4.out.2.1); clear HS HK HB BK4; have HS := n1; have HK := n2; have HB := n3; have BK4 := m4; clear n1 n2 n3 m4; obtain ⟨q4_0, q4_1, q4_2, q4_3, q4_4, q4_5, hlt4⟩ := blkof6 BK4.out; clear hd) | ((with_reducible refine gate_st rfl ?_); refine store_any _ _ _ rfl rfl rfl (i := 1) BK4.out rfl (by simp) rfl rfl rfl (by kernel_rfl) ?_; intro W1 hb1 hk1 hg1; have n1 := Aside0.mk (HS.out.other HN4.out hk1); have n2 := Aside0.mk (HK.out.other hk1 HN4.out); have n3 := Aside0.mk (HB.out.trans (hg1.mono HN4.out.2.2.1)); have k1 := Aside0.mk (show W1.heap[B4]? = some (.cells #[.int .i64 3, .int .i64 n, .string ⟨#[]⟩, .int .i64 0, .int .i64 0, .bool false] 30 (0, 0)) from hb1); clear BK4; clear HS HK HB; have HS := n1; have HK := n2; have HB := n3; clear n1 n2 n3; have BK4 := k1; clear hb1 hk1 hg1 k1; obtain ⟨q4_0, q4_1, q4_2, q4_3, q4_4, q4_5, hlt4⟩ := blkof6 BK4.out; skip))
  have f40 := blk_frozen BK4.out 0
  have f41 := blk_frozen BK4.out 1
  have f42 := blk_frozen BK4.out 2
  have f43 := blk_frozen BK4.out 3
  have f44 := blk_frozen BK4.out 4
  have f45 := blk_frozen BK4.out 5
  go_region
  all_goals
    go_wp2_with fail
    obtain ⟨X, hX, x0, x1, x2, x3, x4, x5, hD⟩ := fin6 (.int .i64 3) (.int .i64 n) (.string ⟨#[]⟩) (.int .i64 0) (.int .i64 0) (.bool false) HS.out HN4.out HK.out HB.out BK4.out
    rw [← hX]
    exact bodyPost_ret (v := .tuple #[.agg #[.int .i64 3, .int .i64 n, .string ⟨#[]⟩, .int .i64 0, .int .i64 0, .bool false], .bool true]) (by simp [results, Try.results20, go_sem, x0, x1, x2, x3, x4, x5]) rfl ⟨rfl, hD⟩
set_option maxHeartbeats 8000000 in
set_option maxRecDepth 100000 in
theorem rr4_b (w : World) (base Rb Rd T : Nat) (A : Option Addr) (D : List Int) (C i : Nat) (hs : Sr w base Rb Rd T 0 10 A D C i) (n : Int) (h0 : -2147483648 ≤ n) (h1 : n < 2147483648) (hz : At D i (hib 4 n)) :
    Calls Try.prog 20 #[.iface 159 (.pointer (some ⟨Rd, 0, none⟩)), .int .i64 4] w fun e w' => e = .returned (.tuple #[.agg #[.int .i64 4, .int .i64 n, .string ⟨#[]⟩, .int .i64 0, .int .i64 0, .bool false], .bool true]) ∧ Done w w' base Rb Rd T 0 10 A D C (i + 4) := by
  have HS := Aside0.mk hs
  have HK := Aside0.mk (Kp.refl w Rb Rd)
  have HB := Aside0.mk (Below.refl base w)
  have HZ := Aside0.mk hz
  have ew : wrap64 n = n := by unfold wrap64; omega
  clear hs hz
  go_enter Try.func20, Try.ntmps20
  go_upto_region 38 with (first | ((with_reducible refine gate_dst (N := 4) rfl ?_); refine box_event ?xhg (N := 4) ?xhd (cs := #[.int .i64 0, .int .i64 0, .string ⟨#[]⟩, .int .i64 0, .int .i64 0, .bool false]) (t := 30) ?xhr ?_; (case xhd => rfl); (case xhg => rfl); (case xhr => first | (go_simp; done) | (go_simp; rfl)); intro B4 hG W1 hb1 hg1; have HN4 := Aside0.mk (HS.out.new hG HK.out.1); have n1 := Aside0.mk (HS.out.below hg1); have n2 := Aside0.mk (HK.out.trans (Kp.below hg1)); have n3 := Aside0.mk (HB.out.trans (hg1.mono HS.out.b3)); clear HS HK HB; have HS := n1; have HK := n2; have HB := n3; clear n1 n2 n3; have BK4 := Aside0.mk hb1; clear hb1 hg1 hG; obtain ⟨q4_0, q4_1, q4_2, q4_3, q4_4, q4_5, hlt4⟩ := blkof6 BK4.out; skip) | ((with_reducible refine gate_st rfl ?_); refine store_any _ _ _ rfl rfl rfl (i := 0) BK4.out rfl (by simp) rfl rfl rfl (by kernel_rfl) ?_; intro W1 hb1 hk1 hg1; have n1 := Aside0.mk (HS.out.other HN4.out hk1); have n2 := Aside0.mk (HK.out.other hk1 HN4.out); have n3 := Aside0.mk (HB.out.trans (hg1.mono HN4.out.2.2.1)); have k1 := Aside0.mk (show W1.heap[B4]? = some (.cells #[.int .i64 4, .int .i64 0, .string ⟨#[]⟩, .int .i64 0, .int .i64 0, .bool false] 30 (0, 0)) from hb1); clear BK4; clear HS HK HB; have HS := n1; have HK := n2; have HB := n3; clear n1 n2 n3; have BK4 := k1; clear hb1 hk1 hg1 k1; obtain ⟨q4_0, q4_1, q4_2, q4_3, q4_4, q4_5, hlt4⟩ := blkof6 BK4.out; skip) | (go_at_call 59; (with_reducible refine (r_int32 _ base Rb Rd T 0 10 A D C _ HS.out n h0 h1 HZ.out).mono ?_); rintro e W1 ⟨rfl, hd⟩; have n1 := Aside0.mk hd.1; have n2 := Aside0.mk (HK.out.trans hd.2.1); have n3 := Aside0.mk (HB.out.trans hd.2.2); have m4 := Aside0.mk (hd.2.1.blk BK4.out HN4.out.1 HN4.out.2.1); clear HS HK HB BK4; have HS := n1; have HK := n2; have HB := n3; have BK4 := m4; clear n1 n2 n3 m4; obtain ⟨q4_0, q4_1, q4_2, q4_3, q4_4, q4_5, hlt4⟩ := blkof6 BK4.out; clear hd) | ((with_reducible refine gate_st rfl ?_); refine store_any _ _ _ rfl rfl rfl (i := 1) BK4.out rfl (by simp) rfl rfl rfl (by kernel_rfl) ?_; intro W1 hb1 hk1 hg1; have n1 := Aside0.mk (HS.out.other HN4.out hk1); have n2 := Aside0.mk (HK.out.other hk1 HN4.out); have n3 := Aside0.mk (HB.out.trans (hg1.mono HN4.out.2.2.1)); have k1 := Aside0.mk (show W1.heap[B4]? = some (.cells #[.int .i64 4, .int .i64 n, .string ⟨#[]⟩, .int .i64 0, .int .i64 0, .bool false] 30 (0, 0)) from hb1); clear BK4; clear HS HK HB; have HS := n1; have HK := n2; have HB := n3; clear n1 n2 n3; have BK4 := k1; clear hb1 hk1 hg1 k1; obtain ⟨q4_0, q4_1, q4_2, q4_3, q4_4, q4_5, hlt4⟩ := blkof6 BK4.out; skip))
  have f40 := blk_frozen BK4.out 0
  have f41 := blk_frozen BK4.out 1
  have f42 := blk_frozen BK4.out 2
  have f43 := blk_frozen BK4.out 3
  have f44 := blk_frozen BK4.out 4
  have f45 := blk_frozen BK4.out 5
  go_region
  all_goals
    go_wp2_with fail
    obtain ⟨X, hX, x0, x1, x2, x3, x4, x5, hD⟩ := fin6 (.int .i64 4) (.int .i64 n) (.string ⟨#[]⟩) (.int .i64 0) (.int .i64 0) (.bool false) HS.out HN4.out HK.out HB.out BK4.out
    rw [← hX]
    exact bodyPost_ret (v := .tuple #[.agg #[.int .i64 4, .int .i64 n, .string ⟨#[]⟩, .int .i64 0, .int .i64 0, .bool false], .bool true]) (by simp [results, Try.results20, go_sem, x0, x1, x2, x3, x4, x5]) rfl ⟨rfl, hD⟩
set_option maxHeartbeats 8000000 in
set_option maxRecDepth 100000 in
theorem rr5_b (w : World) (base Rb Rd T : Nat) (A : Option Addr) (D : List Int) (C i : Nat) (hs : Sr w base Rb Rd T 0 10 A D C i) (n : Int) (h0 : -9223372036854775808 ≤ n) (h1 : n < 9223372036854775808) (hz : At D i (hib 8 n)) :
    Calls Try.prog 20 #[.iface 159 (.pointer (some ⟨Rd, 0, none⟩)), .int .i64 5] w fun e w' => e = .returned (.tuple #[.agg #[.int .i64 5, .int .i64 n, .string ⟨#[]⟩, .int .i64 0, .int .i64 0, .bool false], .bool true]) ∧ Done w w' base Rb Rd T 0 10 A D C (i + 8) := by
  have HS := Aside0.mk hs
  have HK := Aside0.mk (Kp.refl w Rb Rd)
  have HB := Aside0.mk (Below.refl base w)
  have HZ := Aside0.mk hz
  have ew : wrap64 n = n := by unfold wrap64; omega
  clear hs hz
  go_enter Try.func20, Try.ntmps20
  go_upto_region 38 with (first | ((with_reducible refine gate_dst (N := 4) rfl ?_); refine box_event ?xhg (N := 4) ?xhd (cs := #[.int .i64 0, .int .i64 0, .string ⟨#[]⟩, .int .i64 0, .int .i64 0, .bool false]) (t := 30) ?xhr ?_; (case xhd => rfl); (case xhg => rfl); (case xhr => first | (go_simp; done) | (go_simp; rfl)); intro B4 hG W1 hb1 hg1; have HN4 := Aside0.mk (HS.out.new hG HK.out.1); have n1 := Aside0.mk (HS.out.below hg1); have n2 := Aside0.mk (HK.out.trans (Kp.below hg1)); have n3 := Aside0.mk (HB.out.trans (hg1.mono HS.out.b3)); clear HS HK HB; have HS := n1; have HK := n2; have HB := n3; clear n1 n2 n3; have BK4 := Aside0.mk hb1; clear hb1 hg1 hG; obtain ⟨q4_0, q4_1, q4_2, q4_3, q4_4, q4_5, hlt4⟩ := blkof6 BK4.out; skip) | ((with_reducible refine gate_st rfl ?_); refine store_any _ _ _ rfl rfl rfl (i := 0) BK4.out rfl (by simp) rfl rfl rfl (by kernel_rfl) ?_; intro W1 hb1 hk1 hg1; have n1 := Aside0.mk (HS.out.other HN4.out hk1); have n2 := Aside0.mk (HK.out.other hk1 HN4.out); have n3 := Aside0.mk (HB.out.trans (hg1.mono HN4.out.2.2.1)); have k1 := Aside0.mk (show W1.heap[B4]? = some (.cells #[.int .i64 5, .int .i64 0, .string ⟨#[]⟩, .int .i64 0, .int .i64 0, .bool false] 30 (0, 0)) from hb1); clear BK4; clear HS HK HB; have HS := n1; have HK := n2; have HB := n3; clear n1 n2 n3; have BK4 := k1; clear hb1 hk1 hg1 k1; obtain ⟨q4_0, q4_1, q4_2, q4_3, q4_4, q4_5, hlt4⟩ := blkof6 BK4.out; skip) | (go_at_call 60; (with_reducible refine (r_int64 _ base Rb Rd T 0 10 A D C _ HS.out n h0 h1 HZ.out).mono ?_); rintro e W1 ⟨rfl, hd⟩; have n1 := Aside0.mk hd.1; have n2 := Aside0.mk (HK.out.trans hd.2.1); have n3 := Aside0.mk (HB.out.trans hd.2.2); have m4 := Aside0.mk (hd.2.1.blk BK4.out HN4.out.1 HN4.out.2.1); clear HS HK HB BK4; have HS := n1; have HK := n2; have HB := n3; have BK4 := m4; clear n1 n2 n3 m4; obtain ⟨q4_0, q4_1, q4_2, q4_3, q4_4, q4_5, hlt4⟩ := blkof6 BK4.out; clear hd) | ((with_reducible refine gate_st rfl ?_); refine store_any _ _ _ rfl rfl rfl (i := 1) BK4.out rfl (by simp) rfl rfl rfl (by kernel_rfl) ?_; intro W1 hb1 hk1 hg1; have n1 := Aside0.mk (HS.out.other HN4.out hk1); have n2 := Aside0.mk (HK.out.other hk1 HN4.out); have n3 := Aside0.mk (HB.out.trans (hg1.mono HN4.out.2.2.1)); have k1 := Aside0.mk (show W1.heap[B4]? = some (.cells #[.int .i64 5, .int .i64 n, .string ⟨#[]⟩, .int .i64 0, .int .i64 0, .bool false] 30 (0, 0)) from hb1); clear BK4; clear HS HK HB; have HS := n1; have HK := n2; have HB := n3; clear n1 n2 n3; have BK4 := k1; clear hb1 hk1 hg1 k1; obtain ⟨q4_0, q4_1, q4_2, q4_3, q4_4, q4_5, hlt4⟩ := blkof6 BK4.out; skip))
  have f40 := blk_frozen BK4.out 0
  have f41 := blk_frozen BK4.out 1
  have f42 := blk_frozen BK4.out 2
  have f43 := blk_frozen BK4.out 3
  have f44 := blk_frozen BK4.out 4
  have f45 := blk_frozen BK4.out 5
  go_region
  all_goals
    go_wp2_with fail
    obtain ⟨X, hX, x0, x1, x2, x3, x4, x5, hD⟩ := fin6 (.int .i64 5) (.int .i64 n) (.string ⟨#[]⟩) (.int .i64 0) (.int .i64 0) (.bool false) HS.out HN4.out HK.out HB.out BK4.out
    rw [← hX]
    exact bodyPost_ret (v := .tuple #[.agg #[.int .i64 5, .int .i64 n, .string ⟨#[]⟩, .int .i64 0, .int .i64 0, .bool false], .bool true]) (by simp [results, Try.results20, go_sem, x0, x1, x2, x3, x4, x5]) rfl ⟨rfl, hD⟩
set_option maxHeartbeats 8000000 in
set_option maxRecDepth 100000 in
theorem rr6x_b (w : World) (base Rb Rd T : Nat) (A : Option Addr) (D : List Int) (C i : Nat) (hs : Sr w base Rb Rd T 0 10 A D C i) (n : Int) (m : Nat) (h0 : -9223372036854775808 ≤ n) (h1 : n < 9223372036854775808) (hm : (IntKind.u64.wrap n).toNat = m) (hz : At D i (hib 8 n)) :
    Calls Try.prog 20 #[.iface 159 (.pointer (some ⟨Rd, 0, none⟩)), .int .i64 6] w fun e w' => e = .returned (.tuple #[.agg #[.int .i64 6, .int .i64 (wrap64 (m : Int)), .string ⟨#[]⟩, .int .i64 0, .int .i64 0, .bool false], .bool true]) ∧ Done w w' base Rb Rd T 0 10 A D C (i + 8) := by
  have HS := Aside0.mk hs
  have HK := Aside0.mk (Kp.refl w Rb Rd)
  have HB := Aside0.mk (Below.refl base w)
  have HZ := Aside0.mk hz
  have HRF := Aside0.mk (fun (W : World) (hW : Sr W base Rb Rd T 0 10 A D C i) => r_float W base Rb Rd T 0 10 A D C i hW n hz)
  rw [hm] at HRF
  have hxb : ∀ W, Sem.run Try.prog (callFunc 26 #[.float .f64 m]) W = .ok (.value (.int .u64 (m : Int))) W := fun W => by
    rw [run_callFunc_extern Try.func26 (by kernel_rfl) (by kernel_rfl) (by kernel_rfl) (e := Extern.MathFloatBits.float64bits) (by kernel_rfl)]
    rfl
  clear hm
  clear hs hz
  go_enter Try.func20, Try.ntmps20
  go_upto_region 38 with (first | ((with_reducible refine gate_dst (N := 4) rfl ?_); refine box_event ?xhg (N := 4) ?xhd (cs := #[.int .i64 0, .int .i64 0, .string ⟨#[]⟩, .int .i64 0, .int .i64 0, .bool false]) (t := 30) ?xhr ?_; (case xhd => rfl); (case xhg => rfl); (case xhr => first | (go_simp; done) | (go_simp; rfl)); intro B4 hG W1 hb1 hg1; have HN4 := Aside0.mk (HS.out.new hG HK.out.1); have n1 := Aside0.mk (HS.out.below hg1); have n2 := Aside0.mk (HK.out.trans (Kp.below hg1)); have n3 := Aside0.mk (HB.out.trans (hg1.mono HS.out.b3)); clear HS HK HB; have HS := n1; have HK := n2; have HB := n3; clear n1 n2 n3; have BK4 := Aside0.mk hb1; clear hb1 hg1 hG; obtain ⟨q4_0, q4_1, q4_2, q4_3, q4_4, q4_5, hlt4⟩ := blkof6 BK4.out; skip) | ((with_reducible refine gate_st rfl ?_); refine store_any _ _ _ rfl rfl rfl (i := 0) BK4.out rfl (by simp) rfl rfl rfl (by kernel_rfl) ?_; intro W1 hb1 hk1 hg1; have n1 := Aside0.mk (HS.out.other HN4.out hk1); have n2 := Aside0.mk (HK.out.other hk1 HN4.out); have n3 := Aside0.mk (HB.out.trans (hg1.mono HN4.out.2.2.1)); have k1 := Aside0.mk (show W1.heap[B4]? = some (.cells #[.int .i64 6, .int .i64 0, .string ⟨#[]⟩, .int .i64 0, .int .i64 0, .bool false] 30 (0, 0)) from hb1); clear BK4; clear HS HK HB; have HS := n1; have HK := n2; have HB := n3; clear n1 n2 n3; have BK4 := k1; clear hb1 hk1 hg1 k1; obtain ⟨q4_0, q4_1, q4_2, q4_3, q4_4, q4_5, hlt4⟩ := blkof6 BK4.out; skip) | (go_at_call 57; (with_reducible refine (HRF.out _ HS.out).mono ?_); rintro e W1 ⟨rfl, hd⟩; have n1 := Aside0.mk hd.1; have n2 := Aside0.mk (HK.out.trans hd.2.1); have n3 := Aside0.mk (HB.out.trans hd.2.2); have m4 := Aside0.mk (hd.2.1.blk BK4.out HN4.out.1 HN4.out.2.1); clear HS HK HB BK4; have HS := n1; have HK := n2; have HB := n3; have BK4 := m4; clear n1 n2 n3 m4; obtain ⟨q4_0, q4_1, q4_2, q4_3, q4_4, q4_5, hlt4⟩ := blkof6 BK4.out; clear hd) | ((with_reducible refine gate_st rfl ?_); refine store_any _ _ _ rfl rfl rfl (i := 1) BK4.out rfl (by simp) rfl rfl rfl (by kernel_rfl) ?_; intro W1 hb1 hk1 hg1; have n1 := Aside0.mk (HS.out.other HN4.out hk1); have n2 := Aside0.mk (HK.out.other hk1 HN4.out); have n3 := Aside0.mk (HB.out.trans (hg1.mono HN4.out.2.2.1)); have k1 := Aside0.mk (show W1.heap[B4]? = some (.cells #[.int .i64 6, .int .i64 (wrap64 (m : Int)), .string ⟨#[]⟩, .int .i64 0, .int .i64 0, .bool false] 30 (0, 0)) from hb1); clear BK4; clear HS HK HB; have HS := n1; have HK := n2; have HB := n3; clear n1 n2 n3; have BK4 := k1; clear hb1 hk1 hg1 k1; obtain ⟨q4_0, q4_1, q4_2, q4_3, q4_4, q4_5, hlt4⟩ := blkof6 BK4.out; skip))
  have f40 := blk_frozen BK4.out 0
  have f41 := blk_frozen BK4.out 1
  have f42 := blk_frozen BK4.out 2
  have f43 := blk_frozen BK4.out 3
  have f44 := blk_frozen BK4.out 4
  have f45 := blk_frozen BK4.out 5
  go_region
  all_goals
    go_wp2_with fail
    obtain ⟨X, hX, x0, x1, x2, x3, x4, x5, hD⟩ := fin6 (.int .i64 6) (.int .i64 (wrap64 (m : Int))) (.string ⟨#[]⟩) (.int .i64 0) (.int .i64 0) (.bool false) HS.out HN4.out HK.out HB.out BK4.out
    rw [← hX]
    exact bodyPost_ret (v := .tuple #[.agg #[.int .i64 6, .int .i64 (wrap64 (m : Int)), .string ⟨#[]⟩, .int .i64 0, .int .i64 0, .bool false], .bool true]) (by simp [results, Try.results20, go_sem, x0, x1, x2, x3, x4, x5]) rfl ⟨rfl, hD⟩
theorem rr6_b (w : World) (base Rb Rd T : Nat) (A : Option Addr) (D : List Int) (C i : Nat) (hs : Sr w base Rb Rd T 0 10 A D C i) (n : Int) (h0 : -9223372036854775808 ≤ n) (h1 : n < 9223372036854775808) (hz : At D i (hib 8 n)) :
    Calls Try.prog 20 #[.iface 159 (.pointer (some ⟨Rd, 0, none⟩)), .int .i64 6] w fun e w' => e = .returned (.tuple #[.agg #[.int .i64 6, .int .i64 n, .string ⟨#[]⟩, .int .i64 0, .int .i64 0, .bool false], .bool true]) ∧ Done w w' base Rb Rd T 0 10 A D C (i + 8) := by
  have h := rr6x_b w base Rb Rd T A D C i hs n _ h0 h1 rfl hz
  have ew : wrap64 (((IntKind.u64.wrap n).toNat : Nat) : Int) = n := by
    have e : (((IntKind.u64.wrap n).toNat : Nat) : Int) = IntKind.u64.wrap n := by simp only [IntKind.wrap_u64]; omega
    rw [e, IntKind.wrap_u64]; unfold wrap64; omega
  rw [ew] at h
  exact h
set_option maxHeartbeats 8000000 in
set_option maxRecDepth 100000 in
theorem rr7_b (w : World) (base Rb Rd T : Nat) (A : Option Addr) (D : List Int) (C i : Nat) (hs : Sr w base Rb Rd T 0 10 A D C i) (S : ByteArray) (hS : S.size < 2147483648) (hz : At D i (hib 4 (S.size : Int) ++ bytesOf S)) :
    Calls Try.prog 20 #[.iface 159 (.pointer (some ⟨Rd, 0, none⟩)), .int .i64 7] w fun e w' => e = .returned (.tuple #[.agg #[.int .i64 7, .int .i64 0, .string S, .int .i64 0, .int .i64 0, .bool false], .bool true]) ∧ Done w w' base Rb Rd T 0 10 A D C (i + 4 + S.size) := by
  have HS := Aside0.mk hs
  have HK := Aside0.mk (Kp.refl w Rb Rd)
  have HB := Aside0.mk (Below.refl base w)
  have HZ := Aside0.mk hz
  obtain ⟨zs, hzs⟩ : ∃ zs, zs = bytesOf S := ⟨_, rfl⟩
  have hlen : zs.length = S.size := by rw [hzs, bytesOf_length]
  have HSTR := Aside0.mk (show S = strOfNums zs by rw [hzs, str_bytes])
  rw [← hzs, ← hlen] at HZ
  rw [← hlen]
  have HSL := Aside0.mk (show zs.length < 2147483648 by rw [hlen]; exact hS)
  clear hzs hlen hS
  clear hs hz
  go_enter Try.func20, Try.ntmps20
  go_upto_region 38 with (first | ((with_reducible refine gate_dst (N := 4) rfl ?_); refine box_event ?xhg (N := 4) ?xhd (cs := #[.int .i64 0, .int .i64 0, .string ⟨#[]⟩, .int .i64 0, .int .i64 0, .bool false]) (t := 30) ?xhr ?_; (case xhd => rfl); (case xhg => rfl); (case xhr => first | (go_simp; done) | (go_simp; rfl)); intro B4 hG W1 hb1 hg1; have HN4 := Aside0.mk (HS.out.new hG HK.out.1); have n1 := Aside0.mk (HS.out.below hg1); have n2 := Aside0.mk (HK.out.trans (Kp.below hg1)); have n3 := Aside0.mk (HB.out.trans (hg1.mono HS.out.b3)); clear HS HK HB; have HS := n1; have HK := n2; have HB := n3; clear n1 n2 n3; have BK4 := Aside0.mk hb1; clear hb1 hg1 hG; obtain ⟨q4_0, q4_1, q4_2, q4_3, q4_4, q4_5, hlt4⟩ := blkof6 BK4.out; skip) | ((with_reducible refine gate_st rfl ?_); refine store_any _ _ _ rfl rfl rfl (i := 0) BK4.out rfl (by simp) rfl rfl rfl (by kernel_rfl) ?_; intro W1 hb1 hk1 hg1; have n1 := Aside0.mk (HS.out.other HN4.out hk1); have n2 := Aside0.mk (HK.out.other hk1 HN4.out); have n3 := Aside0.mk (HB.out.trans (hg1.mono HN4.out.2.2.1)); have k1 := Aside0.mk (show W1.heap[B4]? = some (.cells #[.int .i64 7, .int .i64 0, .string ⟨#[]⟩, .int .i64 0, .int .i64 0, .bool false] 30 (0, 0)) from hb1); clear BK4; clear HS HK HB; have HS := n1; have HK := n2; have HB := n3; clear n1 n2 n3; have BK4 := k1; clear hb1 hk1 hg1 k1; obtain ⟨q4_0, q4_1, q4_2, q4_3, q4_4, q4_5, hlt4⟩ := blkof6 BK4.out; skip) | (go_at_call 55; (with_reducible refine (r_bytes _ base Rb Rd T 0 10 A D C _ HS.out zs HSL.out HZ.out).mono ?_); rintro e W1 ⟨B, rfl, hc, hd⟩; have n1 := Aside0.mk hd.1; have n2 := Aside0.mk (HK.out.trans hd.2.1); have n3 := Aside0.mk (HB.out.trans hd.2.2); have m4 := Aside0.mk (hd.2.1.blk BK4.out HN4.out.1 HN4.out.2.1); clear HS HK HB BK4; have HS := n1; have HK := n2; have HB := n3; have BK4 := m4; clear n1 n2 n3 m4; obtain ⟨q4_0, q4_1, q4_2, q4_3, q4_4, q4_5, hlt4⟩ := blkof6 BK4.out; have tcv : Sem.run Try.prog (convert 26 9 (.slice (some ⟨B, 0, none⟩) zs.length zs.length)) W1 = .ok (.string S) W1 := (by rw [HSTR.out]; exact Kd.C_string Try.underlying26 Try.underlying5 Try.underlying9 hc); clear hc; clear hd) | ((with_reducible refine gate_st rfl ?_); refine store_any _ _ _ rfl rfl rfl (i := 2) BK4.out rfl (by simp) rfl rfl rfl (by kernel_rfl) ?_; intro W1 hb1 hk1 hg1; have n1 := Aside0.mk (HS.out.other HN4.out hk1); have n2 := Aside0.mk (HK.out.other hk1 HN4.out); have n3 := Aside0.mk (HB.out.trans (hg1.mono HN4.out.2.2.1)); have k1 := Aside0.mk (show W1.heap[B4]? = some (.cells #[.int .i64 7, .int .i64 0, .string S, .int .i64 0, .int .i64 0, .bool false] 30 (0, 0)) from hb1); clear BK4; clear HS HK HB; have HS := n1; have HK := n2; have HB := n3; clear n1 n2 n3; have BK4 := k1; clear hb1 hk1 hg1 k1; obtain ⟨q4_0, q4_1, q4_2, q4_3, q4_4, q4_5, hlt4⟩ := blkof6 BK4.out; skip))
  have f40 := blk_frozen BK4.out 0
  have f41 := blk_frozen BK4.out 1
  have f42 := blk_frozen BK4.out 2
  have f43 := blk_frozen BK4.out 3
  have f44 := blk_frozen BK4.out 4
  have f45 := blk_frozen BK4.out 5
  go_region
  all_goals
    go_wp2_with fail
    obtain ⟨X, hX, x0, x1, x2, x3, x4, x5, hD⟩ := fin6 (.int .i64 7) (.int .i64 0) (.string S) (.int .i64 0) (.int .i64 0) (.bool false) HS.out HN4.out HK.out HB.out BK4.out
    rw [← hX]
    exact bodyPost_ret (v := .tuple #[.agg #[.int .i64 7, .int .i64 0, .string S, .int .i64 0, .int .i64 0, .bool false], .bool true]) (by simp [results, Try.results20, go_sem, x0, x1, x2, x3, x4, x5]) rfl ⟨rfl, hD⟩
set_option maxHeartbeats 8000000 in
set_option maxRecDepth 100000 in
theorem rr8_b (w : World) (base Rb Rd T : Nat) (A : Option Addr) (D : List Int) (C i : Nat) (hs : Sr w base Rb Rd T 0 10 A D C i) (S : ByteArray) (hS : S.size < 2147483648) (hz : At D i (hib 4 (S.size : Int) ++ bytesOf S)) :
    Calls Try.prog 20 #[.iface 159 (.pointer (some ⟨Rd, 0, none⟩)), .int .i64 8] w fun e w' => e = .returned (.tuple #[.agg #[.int .i64 8, .int .i64 0, .string S, .int .i64 0, .int .i64 0, .bool false], .bool true]) ∧ Done w w' base Rb Rd T 0 10 A D C (i + 4 + S.size) := by
  have HS := Aside0.mk hs
  have HK := Aside0.mk (Kp.refl w Rb Rd)
  have HB := Aside0.mk (Below.refl base w)
  have HZ := Aside0.mk hz
  have HSL := Aside0.mk hS
  clear hS
  clear hs hz
  go_enter Try.func20, Try.ntmps20
  go_upto_region 38 with (first | ((with_reducible refine gate_dst (N := 4) rfl ?_); refine box_event ?xhg (N := 4) ?xhd (cs := #[.int .i64 0, .int .i64 0, .string ⟨#[]⟩, .int .i64 0, .int .i64 0, .bool false]) (t := 30) ?xhr ?_; (case xhd => rfl); (case xhg => rfl); (case xhr => first | (go_simp; done) | (go_simp; rfl)); intro B4 hG W1 hb1 hg1; have HN4 := Aside0.mk (HS.out.new hG HK.out.1); have n1 := Aside0.mk (HS.out.below hg1); have n2 := Aside0.mk (HK.out.trans (Kp.below hg1)); have n3 := Aside0.mk (HB.out.trans (hg1.mono HS.out.b3)); clear HS HK HB; have HS := n1; have HK := n2; have HB := n3; clear n1 n2 n3; have BK4 := Aside0.mk hb1; clear hb1 hg1 hG; obtain ⟨q4_0, q4_1, q4_2, q4_3, q4_4, q4_5, hlt4⟩ := blkof6 BK4.out; skip) | ((with_reducible refine gate_st rfl ?_); refine store_any _ _ _ rfl rfl rfl (i := 0) BK4.out rfl (by simp) rfl rfl rfl (by kernel_rfl) ?_; intro W1 hb1 hk1 hg1; have n1 := Aside0.mk (HS.out.other HN4.out hk1); have n2 := Aside0.mk (HK.out.other hk1 HN4.out); have n3 := Aside0.mk (HB.out.trans (hg1.mono HN4.out.2.2.1)); have k1 := Aside0.mk (show W1.heap[B4]? = some (.cells #[.int .i64 8, .int .i64 0, .string ⟨#[]⟩, .int .i64 0, .int .i64 0, .bool false] 30 (0, 0)) from hb1); clear BK4; clear HS HK HB; have HS := n1; have HK := n2; have HB := n3; clear n1 n2 n3; have BK4 := k1; clear hb1 hk1 hg1 k1; obtain ⟨q4_0, q4_1, q4_2, q4_3, q4_4, q4_5, hlt4⟩ := blkof6 BK4.out; skip) | (go_at_call 67; (with_reducible refine (r_text _ base Rb Rd T 0 10 A D C _ HS.out S HSL.out HZ.out).mono ?_); rintro e W1 ⟨rfl, hd⟩; have n1 := Aside0.mk hd.1; have n2 := Aside0.mk (HK.out.trans hd.2.1); have n3 := Aside0.mk (HB.out.trans hd.2.2); have m4 := Aside0.mk (hd.2.1.blk BK4.out HN4.out.1 HN4.out.2.1); clear HS HK HB BK4; have HS := n1; have HK := n2; have HB := n3; have BK4 := m4; clear n1 n2 n3 m4; obtain ⟨q4_0, q4_1, q4_2, q4_3, q4_4, q4_5, hlt4⟩ := blkof6 BK4.out; clear hd) | ((with_reducible refine gate_st rfl ?_); refine store_any _ _ _ rfl rfl rfl (i := 2) BK4.out rfl (by simp) rfl rfl rfl (by kernel_rfl) ?_; intro W1 hb1 hk1 hg1; have n1 := Aside0.mk (HS.out.other HN4.out hk1); have n2 := Aside0.mk (HK.out.other hk1 HN4.out); have n3 := Aside0.mk (HB.out.trans (hg1.mono HN4.out.2.2.1)); have k1 := Aside0.mk (show W1.heap[B4]? = some (.cells #[.int .i64 8, .int .i64 0, .string S, .int .i64 0, .int .i64 0, .bool false] 30 (0, 0)) from hb1); clear BK4; clear HS HK HB; have HS := n1; have HK := n2; have HB := n3; clear n1 n2 n3; have BK4 := k1; clear hb1 hk1 hg1 k1; obtain ⟨q4_0, q4_1, q4_2, q4_3, q4_4, q4_5, hlt4⟩ := blkof6 BK4.out; skip))
  have f40 := blk_frozen BK4.out 0
  have f41 := blk_frozen BK4.out 1
  have f42 := blk_frozen BK4.out 2
  have f43 := blk_frozen BK4.out 3
  have f44 := blk_frozen BK4.out 4
  have f45 := blk_frozen BK4.out 5
  go_region
  all_goals
    go_wp2_with fail
    obtain ⟨X, hX, x0, x1, x2, x3, x4, x5, hD⟩ := fin6 (.int .i64 8) (.int .i64 0) (.string S) (.int .i64 0) (.int .i64 0) (.bool false) HS.out HN4.out HK.out HB.out BK4.out
    rw [← hX]
    exact bodyPost_ret (v := .tuple #[.agg #[.int .i64 8, .int .i64 0, .string S, .int .i64 0, .int .i64 0, .bool false], .bool true]) (by simp [results, Try.results20, go_sem, x0, x1, x2, x3, x4, x5]) rfl ⟨rfl, hD⟩
set_option maxHeartbeats 8000000 in
set_option maxRecDepth 100000 in
theorem rr9_b (w : World) (base Rb Rd T : Nat) (A : Option Addr) (D : List Int) (C i : Nat) (hs : Sr w base Rb Rd T 0 10 A D C i) (n : Int) (h0 : 0 ≤ n) (h1 : n < 1048576) (hz : At D i (hib 4 n)) :
    Calls Try.prog 20 #[.iface 159 (.pointer (some ⟨Rd, 0, none⟩)), .int .i64 9] w fun e w' => e = .returned (.tuple #[.agg #[.int .i64 9, .int .i64 n, .string ⟨#[]⟩, .int .i64 0, .int .i64 0, .bool false], .bool true]) ∧ Done w w' base Rb Rd T 0 10 A D C (i + 4) := by
  have HS := Aside0.mk hs
  have HK := Aside0.mk (Kp.refl w Rb Rd)
  have HB := Aside0.mk (Below.refl base w)
  have HZ := Aside0.mk hz
  have HV := Aside0.mk (show n < 2147483648 by omega)
  have ew : wrap64 n = n := by unfold wrap64; omega
  clear hs hz
  go_enter Try.func20, Try.ntmps20
  go_upto_region 38 with (first | ((with_reducible refine gate_dst (N := 4) rfl ?_); refine box_event ?xhg (N := 4) ?xhd (cs := #[.int .i64 0, .int .i64 0, .string ⟨#[]⟩, .int .i64 0, .int .i64 0, .bool false]) (t := 30) ?xhr ?_; (case xhd => rfl); (case xhg => rfl); (case xhr => first | (go_simp; done) | (go_simp; rfl)); intro B4 hG W1 hb1 hg1; have HN4 := Aside0.mk (HS.out.new hG HK.out.1); have n1 := Aside0.mk (HS.out.below hg1); have n2 := Aside0.mk (HK.out.trans (Kp.below hg1)); have n3 := Aside0.mk (HB.out.trans (hg1.mono HS.out.b3)); clear HS HK HB; have HS := n1; have HK := n2; have HB := n3; clear n1 n2 n3; have BK4 := Aside0.mk hb1; clear hb1 hg1 hG; obtain ⟨q4_0, q4_1, q4_2, q4_3, q4_4, q4_5, hlt4⟩ := blkof6 BK4.out; skip) | ((with_reducible refine gate_st rfl ?_); refine store_any _ _ _ rfl rfl rfl (i := 0) BK4.out rfl (by simp) rfl rfl rfl (by kernel_rfl) ?_; intro W1 hb1 hk1 hg1; have n1 := Aside0.mk (HS.out.other HN4.out hk1); have n2 := Aside0.mk (HK.out.other hk1 HN4.out); have n3 := Aside0.mk (HB.out.trans (hg1.mono HN4.out.2.2.1)); have k1 := Aside0.mk (show W1.heap[B4]? = some (.cells #[.int .i64 9, .int .i64 0, .string ⟨#[]⟩, .int .i64 0, .int .i64 0, .bool false] 30 (0, 0)) from hb1); clear BK4; clear HS HK HB; have HS := n1; have HK := n2; have HB := n3; clear n1 n2 n3; have BK4 := k1; clear hb1 hk1 hg1 k1; obtain ⟨q4_0, q4_1, q4_2, q4_3, q4_4, q4_5, hlt4⟩ := blkof6 BK4.out; skip) | (go_at_call 62; (with_reducible refine (r_length _ base Rb Rd T 0 10 A D C _ HS.out n h0 HV.out HZ.out).mono ?_); rintro e W1 ⟨rfl, hd⟩; have n1 := Aside0.mk hd.1; have n2 := Aside0.mk (HK.out.trans hd.2.1); have n3 := Aside0.mk (HB.out.trans hd.2.2); have m4 := Aside0.mk (hd.2.1.blk BK4.out HN4.out.1 HN4.out.2.1); clear HS HK HB BK4; have HS := n1; have HK := n2; have HB := n3; have BK4 := m4; clear n1 n2 n3 m4; obtain ⟨q4_0, q4_1, q4_2, q4_3, q4_4, q4_5, hlt4⟩ := blkof6 BK4.out; clear hd) | ((with_reducible refine gate_st rfl ?_); refine store_any _ _ _ rfl rfl rfl (i := 1) BK4.out rfl (by simp) rfl rfl rfl (by kernel_rfl) ?_; intro W1 hb1 hk1 hg1; have n1 := Aside0.mk (HS.out.other HN4.out hk1); have n2 := Aside0.mk (HK.out.other hk1 HN4.out); have n3 := Aside0.mk (HB.out.trans (hg1.mono HN4.out.2.2.1)); have k1 := Aside0.mk (show W1.heap[B4]? = some (.cells #[.int .i64 9, .int .i64 n, .string ⟨#[]⟩, .int .i64 0, .int .i64 0, .bool false] 30 (0, 0)) from hb1); clear BK4; clear HS HK HB; have HS := n1; have HK := n2; have HB := n3; clear n1 n2 n3; have BK4 := k1; clear hb1 hk1 hg1 k1; obtain ⟨q4_0, q4_1, q4_2, q4_3, q4_4, q4_5, hlt4⟩ := blkof6 BK4.out; skip))
  have f40 := blk_frozen BK4.out 0
  have f41 := blk_frozen BK4.out 1
  have f42 := blk_frozen BK4.out 2
  have f43 := blk_frozen BK4.out 3
  have f44 := blk_frozen BK4.out 4
  have f45 := blk_frozen BK4.out 5
  go_region
  all_goals
    go_wp2_with fail
    obtain ⟨X, hX, x0, x1, x2, x3, x4, x5, hD⟩ := fin6 (.int .i64 9) (.int .i64 n) (.string ⟨#[]⟩) (.int .i64 0) (.int .i64 0) (.bool false) HS.out HN4.out HK.out HB.out BK4.out
    rw [← hX]
    exact bodyPost_ret (v := .tuple #[.agg #[.int .i64 9, .int .i64 n, .string ⟨#[]⟩, .int .i64 0, .int .i64 0, .bool false], .bool true]) (by simp [results, Try.results20, go_sem, x0, x1, x2, x3, x4, x5]) rfl ⟨rfl, hD⟩
end Go.Proofs.Ytmjilokgpgajjaa.Th
