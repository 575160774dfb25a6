/- Written by thread.py (wip/tpl): what the binary reader's methods read. -/
import Derived.Test.YtmjilokgpgajjaaGreatSThRd6
namespace Go.Proofs.YtmjilokgpgajjaaGreat.Th
open Go.RowKit Go.Proofs.YtmjilokgpgajjaaGreatW.PrintWords Go.Proofs.YtmjilokgpgajjaaGreatW.PrintLast Go.Proofs.YtmjilokgpgajjaaGreatW.PrintMore
set_option linter.unusedVariables false
set_option linter.unusedSimpArgs false
set_option maxHeartbeats 8000000 in
set_option maxRecDepth 100000 in
theorem r_field (w : World) (base Rb Rd T off SZ : Nat) (A : Option Addr) (D : List Int) (C i : Nat) (hs : Sr w base Rb Rd T off SZ A D C i) (z n : Int) (h0 : -32768 ≤ n) (h1 : n < 32768) (hz : At D i ([z] ++ hib 2 n)) :
    Calls Tryz.prog 56 #[.pointer (some ⟨Rd, off, none⟩)] w fun e w' => e = .returned (.tuple #[.agg #[.int .i16 n, .int .i8 (IntKind.i8.wrap z), .bool false], .nilIface]) ∧ Done w w' base Rb Rd T off SZ A D C (i + 1 + 2) := by
  have HS := Aside0.mk hs
  have HK := Aside0.mk (Kp.refl w Rb Rd)
  have HB := Aside0.mk (Below.refl base w)
  have HZ1 := Aside0.mk hz.cat.1
  have HZ2 := Aside0.mk (show At D (i + 1) _ from hz.cat.2)
  clear hz
  clear hs
  go_enter Tryz.func56, Tryz.ntmps56
  go_wp2_with (first | ((with_reducible refine gate_dst (N := 2) rfl ?_); refine box_event ?xhg (N := 2) ?xhd (cs := #[.int .i16 0, .int .i8 0, .bool false]) (t := 114) ?xhr ?_; (case xhd => rfl); (case xhg => rfl); (case xhr => first | (go_simp; done) | (go_simp; rfl)); intro B2 hG W1 hb1 hg1; have HN2 := Aside0.mk (HS.out.new hG HK.out.1); have n1 := Aside0.mk (HS.out.below hg1); have n2 := Aside0.mk (HK.out.trans (Kp.below hg1)); have n3 := Aside0.mk (HB.out.trans (hg1.mono HS.out.b3)); clear HS HK HB; have HS := n1; have HK := n2; have HB := n3; clear n1 n2 n3; have BK2 := Aside0.mk hb1; clear hb1 hg1 hG; obtain ⟨q2_0, q2_1, q2_2, hlt2⟩ := blkof3 BK2.out; skip) | (go_at_call 61; (with_reducible refine (r_int8 _ base Rb Rd T off SZ A D C _ HS.out z HZ1.out).mono ?_); rintro e W1 ⟨rfl, hd⟩; have n1 := Aside0.mk hd.1; have n2 := Aside0.mk (HK.out.trans hd.2.1); have n3 := Aside0.mk (HB.out.trans hd.2.2); have m2 := Aside0.mk (hd.2.1.blk BK2.out HN2.out.1 HN2.out.2.1); clear HS HK HB BK2; have HS := n1; have HK := n2; have HB := n3; have BK2 := m2; clear n1 n2 n3 m2; obtain ⟨q2_0, q2_1, q2_2, hlt2⟩ := blkof3 BK2.out; clear hd) | (go_at_call 58; (with_reducible refine (r_int16 _ base Rb Rd T off SZ A D C _ HS.out n h0 h1 HZ2.out).mono ?_); rintro e W1 ⟨rfl, hd⟩; have n1 := Aside0.mk hd.1; have n2 := Aside0.mk (HK.out.trans hd.2.1); have n3 := Aside0.mk (HB.out.trans hd.2.2); have m2 := Aside0.mk (hd.2.1.blk BK2.out HN2.out.1 HN2.out.2.1); clear HS HK HB BK2; have HS := n1; have HK := n2; have HB := n3; have BK2 := m2; clear n1 n2 n3 m2; obtain ⟨q2_0, q2_1, q2_2, hlt2⟩ := blkof3 BK2.out; clear hd) | ((with_reducible refine gate_st rfl ?_); refine store_agg _ _ _ rfl rfl rfl [.int .i16 n, .int .i8 (IntKind.i8.wrap z), .bool false] BK2.out rfl rfl rfl (by kernel_rfl) (by simp [Value.oneCell']) ?_; intro W1 hb1 hk1 hg1; have n1 := Aside0.mk (HS.out.other HN2.out hk1); have n2 := Aside0.mk (HK.out.other hk1 HN2.out); have n3 := Aside0.mk (HB.out.trans (hg1.mono HN2.out.2.2.1)); clear BK2; clear HS HK HB; have HS := n1; have HK := n2; have HB := n3; clear n1 n2 n3; have BK2 := Aside0.mk hb1; clear hb1 hk1 hg1; obtain ⟨q2_0, q2_1, q2_2, hlt2⟩ := blkof3 BK2.out; skip))
  skip
  exact bodyPost_ret (v := .tuple #[.agg #[.int .i16 n, .int .i8 (IntKind.i8.wrap z), .bool false], .nilIface]) (by simp [results, Tryz.results56, go_sem, q2_0, q2_1, q2_2]) rfl ⟨rfl, HS.out, HK.out, HB.out⟩
end Go.Proofs.YtmjilokgpgajjaaGreat.Th

