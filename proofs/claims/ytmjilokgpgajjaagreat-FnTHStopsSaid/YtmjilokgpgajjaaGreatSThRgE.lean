/- Written by thrdcall.py (wip/tpl): a call of a reader through its interface: what is read -/
import Derived.Test.YtmjilokgpgajjaaGreatSThN2
namespace Go.Proofs.YtmjilokgpgajjaaGreat.Th
open Go.RowKit Go.Proofs.YtmjilokgpgajjaaGreatW.PrintWords Go.Proofs.YtmjilokgpgajjaaGreatW.PrintLast Go.Proofs.YtmjilokgpgajjaaGreatW.PrintMore
set_option linter.unusedVariables false
set_option linter.unusedSimpArgs false
set_option maxHeartbeats 8000000 in
set_option maxRecDepth 100000 in
theorem rh11z_c (w : World) (base Rb Rd T : Nat) (A : Option Addr) (D : List Int) (C i : Nat) (hs : Sr w base Rb Rd T 1 11 A D C i)   (hz : At D i ([0])) :
    Calls Tryz.prog 25 #[.iface 164 (.pointer (some ⟨Rd, 0, none⟩)), .int .i64 11] w fun e w' => e = .returned (.tuple #[.agg #[.int .i64 11, .int .i64 0, .string ⟨#[]⟩, .int .i64 0, .int .i64 0, .bool false], .bool true]) ∧ Done w w' base Rb Rd T 1 11 A D C (i + 1) := by
  have HS := Aside0.mk hs
  have HK := Aside0.mk (Kp.refl w Rb Rd)
  have HB := Aside0.mk (Below.refl base w)
  have HZ := Aside0.mk hz
  clear hs hz
  go_enter Tryz.func25, Tryz.ntmps25
  go_upto_region 7 with (first | ((with_reducible refine gate_dst (N := 4) rfl ?_); refine box_event ?xhg (N := 4) ?xhd (cs := #[.int .i64 0, .int .i64 0, .string ⟨#[]⟩, .int .i64 0, .int .i64 0, .bool false]) (t := 25) ?xhr ?_; (case xhd => rfl); (case xhg => rfl); (case xhr => first | (go_simp; done) | (go_simp; rfl)); intro B4 hG W1 hb1 hg1; have HN4 := Aside0.mk (HS.out.new hG HK.out.1); have n1 := Aside0.mk (HS.out.below hg1); have n2 := Aside0.mk (HK.out.trans (Kp.below hg1)); have n3 := Aside0.mk (HB.out.trans (hg1.mono HS.out.b3)); clear HS HK HB; have HS := n1; have HK := n2; have HB := n3; clear n1 n2 n3; have BK4 := Aside0.mk hb1; clear hb1 hg1 hG; obtain ⟨q4_0, q4_1, q4_2, q4_3, q4_4, q4_5, hlt4⟩ := blkof6 BK4.out; skip) | (go_at_call 106; (with_reducible refine (c_rfield_stop _ base Rb Rd T A D C _ HS.out HZ.out).mono ?_); rintro e W1 ⟨rfl, hd⟩; have n1 := Aside0.mk hd.1; have n2 := Aside0.mk (HK.out.trans hd.2.1); have n3 := Aside0.mk (HB.out.trans hd.2.2); have m4 := Aside0.mk (hd.2.1.blk BK4.out HN4.out.1 HN4.out.2.1); clear HS HK HB BK4; have HS := n1; have HK := n2; have HB := n3; have BK4 := m4; clear n1 n2 n3 m4; obtain ⟨q4_0, q4_1, q4_2, q4_3, q4_4, q4_5, hlt4⟩ := blkof6 BK4.out; clear hd) | ((with_reducible refine gate_dst (N := 8) rfl ?_); refine box_event ?xhg (N := 8) ?xhd (cs := #[.int .i16 0, .int .i8 0, .bool false]) (t := 114) ?xhr ?_; (case xhd => rfl); (case xhg => rfl); (case xhr => first | (go_simp; done) | (go_simp; rfl)); intro B8 hG W1 hb1 hg1; have NE4_8 := Aside0.mk (show B4 ≠ B8 from (by have h1 := blk_lt BK4.out; omega)); have NE8_4 := Aside0.mk (Ne.symm NE4_8.out); have HN8 := Aside0.mk (HS.out.new hG HK.out.1); have n1 := Aside0.mk (HS.out.below hg1); have n2 := Aside0.mk (HK.out.trans (Kp.below hg1)); have n3 := Aside0.mk (HB.out.trans (hg1.mono HS.out.b3)); have m4 := Aside0.mk (blk_below BK4.out hg1); clear HS HK HB BK4; have HS := n1; have HK := n2; have HB := n3; have BK4 := m4; clear n1 n2 n3 m4; obtain ⟨q4_0, q4_1, q4_2, q4_3, q4_4, q4_5, hlt4⟩ := blkof6 BK4.out; have BK8 := Aside0.mk hb1; clear hb1 hg1 hG; obtain ⟨q8_0, q8_1, q8_2, hlt8⟩ := blkof3 BK8.out; skip) | ((with_reducible refine gate_st rfl ?_); refine store_agg _ _ _ rfl rfl rfl [.int .i16 0, .int .i8 0, .bool false] BK8.out rfl rfl rfl (by kernel_rfl) (by simp [Value.oneCell']) ?_; intro W1 hb1 hk1 hg1; have n1 := Aside0.mk (HS.out.other HN8.out hk1); have n2 := Aside0.mk (HK.out.other hk1 HN8.out); have n3 := Aside0.mk (HB.out.trans (hg1.mono HN8.out.2.2.1)); clear BK8; have m4 := Aside0.mk (hk1.blk BK4.out NE4_8.out (by simp)); clear HS HK HB BK4; have HS := n1; have HK := n2; have HB := n3; have BK4 := m4; clear n1 n2 n3 m4; obtain ⟨q4_0, q4_1, q4_2, q4_3, q4_4, q4_5, hlt4⟩ := blkof6 BK4.out; have BK8 := Aside0.mk hb1; clear hb1 hk1 hg1; obtain ⟨q8_0, q8_1, q8_2, hlt8⟩ := blkof3 BK8.out; skip))
  have f40 := blk_frozen BK4.out 0
  have f41 := blk_frozen BK4.out 1
  have f42 := blk_frozen BK4.out 2
  have f43 := blk_frozen BK4.out 3
  have f44 := blk_frozen BK4.out 4
  have f45 := blk_frozen BK4.out 5
  go_region
  all_goals
    go_wp2_with fail
    obtain ⟨X, hX, x0, x1, x2, x3, x4, x5, hD⟩ := fin6 (.int .i64 11) (.int .i64 0) (.string ⟨#[]⟩) (.int .i64 0) (.int .i64 0) (.bool false) HS.out HN4.out HK.out HB.out BK4.out
    rw [← hX]
    exact bodyPost_ret (v := .tuple #[.agg #[.int .i64 11, .int .i64 0, .string ⟨#[]⟩, .int .i64 0, .int .i64 0, .bool false], .bool true]) (by simp [results, Tryz.results25, go_sem, x0, x1, x2, x3, x4, x5]) rfl ⟨rfl, hD⟩
set_option maxHeartbeats 8000000 in
set_option maxRecDepth 100000 in
theorem rr11z_c (w : World) (base Rb Rd T : Nat) (A : Option Addr) (D : List Int) (C i : Nat) (hs : Sr w base Rb Rd T 1 11 A D C i)   (hz : At D i ([0])) :
    Calls Tryz.prog 18 #[.iface 164 (.pointer (some ⟨Rd, 0, none⟩)), .int .i64 11] w fun e w' => e = .returned (.tuple #[.agg #[.int .i64 11, .int .i64 0, .string ⟨#[]⟩, .int .i64 0, .int .i64 0, .bool false], .bool true]) ∧ Done w w' base Rb Rd T 1 11 A D C (i + 1) := by
  have HS := Aside0.mk hs
  have HK := Aside0.mk (Kp.refl w Rb Rd)
  have HB := Aside0.mk (Below.refl base w)
  have HZ := Aside0.mk hz
  clear hs hz
  go_enter Tryz.func18, Tryz.ntmps18
  go_wp2_with (first | ((with_reducible refine gate_dst (N := 4) rfl ?_); refine box_event ?xhg (N := 4) ?xhd (cs := #[.int .i64 0, .int .i64 0, .string ⟨#[]⟩, .int .i64 0, .int .i64 0, .bool false]) (t := 25) ?xhr ?_; (case xhd => rfl); (case xhg => rfl); (case xhr => first | (go_simp; done) | (go_simp; rfl)); intro B4 hG W1 hb1 hg1; have HN4 := Aside0.mk (HS.out.new hG HK.out.1); have n1 := Aside0.mk (HS.out.below hg1); have n2 := Aside0.mk (HK.out.trans (Kp.below hg1)); have n3 := Aside0.mk (HB.out.trans (hg1.mono HS.out.b3)); clear HS HK HB; have HS := n1; have HK := n2; have HB := n3; clear n1 n2 n3; have BK4 := Aside0.mk hb1; clear hb1 hg1 hG; obtain ⟨q4_0, q4_1, q4_2, q4_3, q4_4, q4_5, hlt4⟩ := blkof6 BK4.out; skip) | ((with_reducible refine gate_st rfl ?_); refine store_any _ _ _ rfl rfl rfl (i := 0) BK4.out rfl (by simp) rfl rfl rfl (by kernel_rfl) ?_; intro W1 hb1 hk1 hg1; have n1 := Aside0.mk (HS.out.other HN4.out hk1); have n2 := Aside0.mk (HK.out.other hk1 HN4.out); have n3 := Aside0.mk (HB.out.trans (hg1.mono HN4.out.2.2.1)); have k1 := Aside0.mk (show W1.heap[B4]? = some (.cells #[.int .i64 11, .int .i64 0, .string ⟨#[]⟩, .int .i64 0, .int .i64 0, .bool false] 25 (0, 0)) from hb1); clear BK4; clear HS HK HB; have HS := n1; have HK := n2; have HB := n3; clear n1 n2 n3; have BK4 := k1; clear hb1 hk1 hg1 k1; obtain ⟨q4_0, q4_1, q4_2, q4_3, q4_4, q4_5, hlt4⟩ := blkof6 BK4.out; skip) | (go_at_call 25; (with_reducible refine (rh11z_c _ base Rb Rd T A D C _ HS.out  HZ.out).mono ?_); rintro e W1 ⟨rfl, hd⟩; have n1 := Aside0.mk hd.1; have n2 := Aside0.mk (HK.out.trans hd.2.1); have n3 := Aside0.mk (HB.out.trans hd.2.2); have m4 := Aside0.mk (hd.2.1.blk BK4.out HN4.out.1 HN4.out.2.1); clear HS HK HB BK4; have HS := n1; have HK := n2; have HB := n3; have BK4 := m4; clear n1 n2 n3 m4; obtain ⟨q4_0, q4_1, q4_2, q4_3, q4_4, q4_5, hlt4⟩ := blkof6 BK4.out; clear hd) | ((with_reducible refine gate_st rfl ?_); refine store_agg _ _ _ rfl rfl rfl [.int .i64 11, .int .i64 0, .string ⟨#[]⟩, .int .i64 0, .int .i64 0, .bool false] BK4.out rfl rfl rfl (by kernel_rfl) (by simp [Value.oneCell']) ?_; intro W1 hb1 hk1 hg1; have n1 := Aside0.mk (HS.out.other HN4.out hk1); have n2 := Aside0.mk (HK.out.other hk1 HN4.out); have n3 := Aside0.mk (HB.out.trans (hg1.mono HN4.out.2.2.1)); clear BK4; clear HS HK HB; have HS := n1; have HK := n2; have HB := n3; clear n1 n2 n3; have BK4 := Aside0.mk hb1; clear hb1 hk1 hg1; obtain ⟨q4_0, q4_1, q4_2, q4_3, q4_4, q4_5, hlt4⟩ := blkof6 BK4.out; skip))
  exact bodyPost_ret (v := .tuple #[.agg #[.int .i64 11, .int .i64 0, .string ⟨#[]⟩, .int .i64 0, .int .i64 0, .bool false], .bool true]) (by simp [results, Tryz.results18, go_sem, q4_0, q4_1, q4_2, q4_3, q4_4, q4_5]) rfl ⟨rfl, HS.out, HK.out, HB.out⟩
end Go.Proofs.YtmjilokgpgajjaaGreat.Th

