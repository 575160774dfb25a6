/- Written by thread.py (wip/tpl): what the binary reader's methods read. -/
import Derived.Test.YtmjilokgpgajjaaThRd6
namespace Go.Proofs.Ytmjilokgpgajjaa.Th
open Go.RowKit Go.Proofs.YtmjilokgpgajjaaW.PrintWords Go.Proofs.YtmjilokgpgajjaaW.PrintLast Go.Proofs.YtmjilokgpgajjaaW.PrintMore
set_option linter.unusedVariables false
set_option linter.unusedSimpArgs false
set_option maxHeartbeats 8000000 in
set_option maxRecDepth 100000 in
theorem r_text (w : World) (base Rb Rd T off SZ : Nat) (A : Option Addr) (D : List Int) (C i : Nat) (hs : Sr w base Rb Rd T off SZ A D C i) (S : ByteArray) (hS : S.size < 2147483648) (hz : At D i (hib 4 (S.size : Int) ++ bytesOf S)) :
    Calls Try.prog 67 #[.pointer (some ⟨Rd, off, none⟩)] w fun e w' => e = .returned (.tuple #[.string S, .nilIface]) ∧ Done w w' base Rb Rd T off SZ A D C (i + 4 + S.size) := by
  have HS := Aside0.mk hs
  have HK := Aside0.mk (Kp.refl w Rb Rd)
  have HB := Aside0.mk (Below.refl base w)
  obtain ⟨zs, hzs⟩ : ∃ zs, zs = bytesOf S := ⟨_, rfl⟩
  have hlen : zs.length = S.size := by rw [hzs, bytesOf_length]
  have HSTR := Aside0.mk (show S = strOfNums zs by rw [hzs, str_bytes])
  rw [← hzs, ← hlen] at hz
  rw [← hlen]
  have HZ := Aside0.mk hz
  have HN1 := Aside0.mk (show zs.length < 2147483648 by rw [hlen]; exact hS)
  clear hz hzs hlen
  clear hs
  go_enter Try.func67, Try.ntmps67
  go_wp2_with (first | (go_at_call 55; (with_reducible refine (r_bytes _ base Rb Rd T off SZ A D C _ HS.out zs HN1.out HZ.out).mono ?_); rintro e W1 ⟨B, rfl, hc, hd⟩; have n1 := Aside0.mk hd.1; have n2 := Aside0.mk (HK.out.trans hd.2.1); have n3 := Aside0.mk (HB.out.trans hd.2.2); clear HS HK HB; have HS := n1; have HK := n2; have HB := n3; clear n1 n2 n3; have tcv : Sem.run Try.prog (convert 26 9 (.slice (some ⟨B, 0, none⟩) zs.length zs.length)) W1 = .ok (.string S) W1 := (by rw [HSTR.out]; exact Kd.C_string Try.underlying26 Try.underlying5 Try.underlying9 hc); clear hc; clear hd))
  go_returns
  exact ⟨rfl, HS.out, HK.out, HB.out⟩
set_option maxHeartbeats 8000000 in
set_option maxRecDepth 100000 in
theorem r_float (w : World) (base Rb Rd T off SZ : Nat) (A : Option Addr) (D : List Int) (C i : Nat) (hs : Sr w base Rb Rd T off SZ A D C i) (n : Int) (hz : At D i (hib 8 n)) :
    Calls Try.prog 57 #[.pointer (some ⟨Rd, off, none⟩)] w fun e w' => e = .returned (.tuple #[.float .f64 (IntKind.u64.wrap n).toNat, .nilIface]) ∧ Done w w' base Rb Rd T off SZ A D C (i + 8) := by
  have HS := Aside0.mk hs
  have HK := Aside0.mk (Kp.refl w Rb Rd)
  have HB := Aside0.mk (Below.refl base w)
  have HZ0 := Aside0.mk (show hib 8 n = [n / 72057594037927936 % 256, n / 281474976710656 % 256, n / 1099511627776 % 256, n / 4294967296 % 256, n / 16777216 % 256, n / 65536 % 256, n / 256 % 256, n % 256] by simp [hib])
  rw [HZ0.out] at hz
  have HZ := Aside0.mk hz
  obtain ⟨z0, hz0⟩ : ∃ z, z = n / 72057594037927936 % 256 := ⟨_, rfl⟩
  obtain ⟨z1, hz1⟩ : ∃ z, z = n / 281474976710656 % 256 := ⟨_, rfl⟩
  obtain ⟨z2, hz2⟩ : ∃ z, z = n / 1099511627776 % 256 := ⟨_, rfl⟩
  obtain ⟨z3, hz3⟩ : ∃ z, z = n / 4294967296 % 256 := ⟨_, rfl⟩
  obtain ⟨z4, hz4⟩ : ∃ z, z = n / 16777216 % 256 := ⟨_, rfl⟩
  obtain ⟨z5, hz5⟩ : ∃ z, z = n / 65536 % 256 := ⟨_, rfl⟩
  obtain ⟨z6, hz6⟩ : ∃ z, z = n / 256 % 256 := ⟨_, rfl⟩
  obtain ⟨z7, hz7⟩ : ∃ z, z = n % 256 := ⟨_, rfl⟩
  rw [← hz0, ← hz1, ← hz2, ← hz3, ← hz4, ← hz5, ← hz6, ← hz7] at HZ
  have g0 : 0 ≤ z0 ∧ z0 < 256 := by omega
  have g1 : 0 ≤ z1 ∧ z1 < 256 := by omega
  have g2 : 0 ≤ z2 ∧ z2 < 256 := by omega
  have g3 : 0 ≤ z3 ∧ z3 < 256 := by omega
  have g4 : 0 ≤ z4 ∧ z4 < 256 := by omega
  have g5 : 0 ≤ z5 ∧ z5 < 256 := by omega
  have g6 : 0 ≤ z6 ∧ z6 < 256 := by omega
  have g7 : 0 ≤ z7 ∧ z7 < 256 := by omega
  have hv : z0 * 72057594037927936 + z1 * 281474976710656 + z2 * 1099511627776 + z3 * 4294967296 + z4 * 16777216 + z5 * 65536 + z6 * 256 + z7 = IntKind.u64.wrap n := by rw [IntKind.wrap_u64]; omega
  have HG0 := Aside0.mk g0
  have HG1 := Aside0.mk g1
  have HG2 := Aside0.mk g2
  have HG3 := Aside0.mk g3
  have HG4 := Aside0.mk g4
  have HG5 := Aside0.mk g5
  have HG6 := Aside0.mk g6
  have HG7 := Aside0.mk g7
  have HV := Aside0.mk hv
  clear hz hv HZ0 hz0 g0 hz1 g1 hz2 g2 hz3 g3 hz4 g4 hz5 g5 hz6 g6 hz7 g7
  have hx : ∀ (v : Int) (W : World), Sem.run Try.prog (callFunc 22 #[.int .u64 v]) W = .ok (.value (.float .f64 v.toNat)) W := fun v W => by
    rw [run_callFunc_extern Try.func22 (by kernel_rfl) (by kernel_rfl) (by kernel_rfl) (e := Extern.MathFloatBits.float64frombits) (by kernel_rfl)]
    rfl
  clear hs
  go_enter Try.func57, Try.ntmps57
  go_wp2_with (first | (go_at_call 72; (with_reducible refine (rd_into8 _ base Rb Rd T off SZ A D C _ HS.out [z0, z1, z2, z3, z4, z5, z6, z7] HZ.out rfl).mono ?_); rintro e W1 ⟨rfl, hd⟩; have n1 := Aside0.mk hd.1; have n2 := Aside0.mk (HK.out.trans hd.2.2.1); have n3 := Aside0.mk (HB.out.trans hd.2.2.2); clear HS HK HB; have HS := n1; have HK := n2; have HB := n3; clear n1 n2 n3; have HCB := Aside0.mk hd.2.1; clear hd) | (go_at_call 73; (with_reducible refine (buint64 z0 z1 z2 z3 z4 z5 z6 z7 HG0.out HG1.out HG2.out HG3.out HG4.out HG5.out HG6.out HG7.out _ Rd (off + 2) 8 HCB.out).mono ?_); rintro e W1 ⟨rfl, hb⟩; have n1 := Aside0.mk (HS.out.below hb); have n2 := Aside0.mk (HK.out.trans (Kp.below hb)); have n3 := Aside0.mk (HB.out.trans (hb.mono HS.out.b3)); clear HS HK HB; have HS := n1; have HK := n2; have HB := n3; clear n1 n2 n3; clear hb))
  go_returns
  refine ⟨?_, HS.out, HK.out, HB.out⟩
  first | (rw [HV.out]; done) | (rw [HV.out]; rfl)
set_option maxHeartbeats 8000000 in
set_option maxRecDepth 100000 in
theorem r_field (w : World) (base Rb Rd T off SZ : Nat) (A : Option Addr) (D : List Int) (C i : Nat) (hs : Sr w base Rb Rd T off SZ A D C i) (z n : Int) (h0 : -32768 ≤ n) (h1 : n < 32768) (hz : At D i ([z] ++ hib 2 n)) :
    Calls Try.prog 56 #[.pointer (some ⟨Rd, off, none⟩)] w fun e w' => e = .returned (.tuple #[.agg #[.int .i16 n, .int .i8 (IntKind.i8.wrap z), .bool false], .nilIface]) ∧ Done w w' base Rb Rd T off SZ A D C (i + 1 + 2) := by
  have HS := Aside0.mk hs
  have HK := Aside0.mk (Kp.refl w Rb Rd)
  have HB := Aside0.mk (Below.refl base w)
  have HZ1 := Aside0.mk hz.cat.1
  have HZ2 := Aside0.mk (show At D (i + 1) _ from hz.cat.2)
  clear hz
  clear hs
  go_enter Try.func56, Try.ntmps56
  go_wp2_with (first | ((with_reducible refine gate_dst (N := 2) rfl ?_); refine box_event ?xhg (N := 2) ?xhd (cs := #[.int .i16 0, .int .i8 0, .bool false]) (t := 117) ?xhr ?_; (case xhd => rfl); (case xhg => rfl); (case xhr => first | (go_simp; done) | (go_simp; rfl)); intro B2 hG W1 hb1 hg1; have HN2 := Aside0.mk (HS.out.new hG HK.out.1); have n1 := Aside0.mk (HS.out.below hg1); have n2 := Aside0.mk (HK.out.trans (Kp.below hg1)); have n3 := Aside0.mk (HB.out.trans (hg1.mono HS.out.b3)); clear HS HK HB; have HS := n1; have HK := n2; have HB := n3; clear n1 n2 n3; have BK2 := Aside0.mk hb1; clear hb1 hg1 hG; obtain ⟨q2_0, q2_1, q2_2, hlt2⟩ := blkof3 BK2.out; skip) | (go_at_call 61; (with_reducible refine (r_int8 _ base Rb Rd T off SZ A D C _ HS.out z HZ1.out).mono ?_); rintro e W1 ⟨rfl, hd⟩; have n1 := Aside0.mk hd.1; have n2 := Aside0.mk (HK.out.trans hd.2.1); have n3 := Aside0.mk (HB.out.trans hd.2.2); have m2 := Aside0.mk (hd.2.1.blk BK2.out HN2.out.1 HN2.out.2.1); clear HS HK HB BK2; have HS := n1; have HK := n2; have HB := n3; have BK2 := m2; clear n1 n2 n3 m2; obtain ⟨q2_0, q2_1, q2_2, hlt2⟩ := blkof3 BK2.out; clear hd) | (go_at_call 58; (with_reducible refine (r_int16 _ base Rb Rd T off SZ A D C _ HS.out n h0 h1 HZ2.out).mono ?_); rintro e W1 ⟨rfl, hd⟩; have n1 := Aside0.mk hd.1; have n2 := Aside0.mk (HK.out.trans hd.2.1); have n3 := Aside0.mk (HB.out.trans hd.2.2); have m2 := Aside0.mk (hd.2.1.blk BK2.out HN2.out.1 HN2.out.2.1); clear HS HK HB BK2; have HS := n1; have HK := n2; have HB := n3; have BK2 := m2; clear n1 n2 n3 m2; obtain ⟨q2_0, q2_1, q2_2, hlt2⟩ := blkof3 BK2.out; clear hd) | ((with_reducible refine gate_st rfl ?_); refine store_agg _ _ _ rfl rfl rfl [.int .i16 n, .int .i8 (IntKind.i8.wrap z), .bool false] BK2.out rfl rfl rfl (by kernel_rfl) (by simp [Value.oneCell']) ?_; intro W1 hb1 hk1 hg1; have n1 := Aside0.mk (HS.out.other HN2.out hk1); have n2 := Aside0.mk (HK.out.other hk1 HN2.out); have n3 := Aside0.mk (HB.out.trans (hg1.mono HN2.out.2.2.1)); clear BK2; clear HS HK HB; have HS := n1; have HK := n2; have HB := n3; clear n1 n2 n3; have BK2 := Aside0.mk hb1; clear hb1 hk1 hg1; obtain ⟨q2_0, q2_1, q2_2, hlt2⟩ := blkof3 BK2.out; skip))
  skip
  exact bodyPost_ret (v := .tuple #[.agg #[.int .i16 n, .int .i8 (IntKind.i8.wrap z), .bool false], .nilIface]) (by simp [results, Try.results56, go_sem, q2_0, q2_1, q2_2]) rfl ⟨rfl, HS.out, HK.out, HB.out⟩
set_option maxHeartbeats 8000000 in
set_option maxRecDepth 100000 in
theorem r_list (w : World) (base Rb Rd T off SZ : Nat) (A : Option Addr) (D : List Int) (C i : Nat) (hs : Sr w base Rb Rd T off SZ A D C i) (z n : Int) (h0 : -2147483648 ≤ n) (h1 : n < 2147483648) (hz : At D i ([z] ++ hib 4 n)) :
    Calls Try.prog 63 #[.pointer (some ⟨Rd, off, none⟩)] w fun e w' => e = .returned (.tuple #[.agg #[.int .i32 n, .int .i8 (IntKind.i8.wrap z)], .nilIface]) ∧ Done w w' base Rb Rd T off SZ A D C (i + 1 + 4) := by
  have HS := Aside0.mk hs
  have HK := Aside0.mk (Kp.refl w Rb Rd)
  have HB := Aside0.mk (Below.refl base w)
  have HZ1 := Aside0.mk hz.cat.1
  have HZ2 := Aside0.mk (show At D (i + 1) _ from hz.cat.2)
  clear hz
  clear hs
  go_enter Try.func63, Try.ntmps63
  go_wp2_with (first | ((with_reducible refine gate_dst (N := 2) rfl ?_); refine box_event ?xhg (N := 2) ?xhd (cs := #[.int .i32 0, .int .i8 0]) (t := 120) ?xhr ?_; (case xhd => rfl); (case xhg => rfl); (case xhr => first | (go_simp; done) | (go_simp; rfl)); intro B2 hG W1 hb1 hg1; have HN2 := Aside0.mk (HS.out.new hG HK.out.1); have n1 := Aside0.mk (HS.out.below hg1); have n2 := Aside0.mk (HK.out.trans (Kp.below hg1)); have n3 := Aside0.mk (HB.out.trans (hg1.mono HS.out.b3)); clear HS HK HB; have HS := n1; have HK := n2; have HB := n3; clear n1 n2 n3; have BK2 := Aside0.mk hb1; clear hb1 hg1 hG; obtain ⟨q2_0, q2_1, hlt2⟩ := blkof2 BK2.out; skip) | (go_at_call 61; (with_reducible refine (r_int8 _ base Rb Rd T off SZ A D C _ HS.out z HZ1.out).mono ?_); rintro e W1 ⟨rfl, hd⟩; have n1 := Aside0.mk hd.1; have n2 := Aside0.mk (HK.out.trans hd.2.1); have n3 := Aside0.mk (HB.out.trans hd.2.2); have m2 := Aside0.mk (hd.2.1.blk BK2.out HN2.out.1 HN2.out.2.1); clear HS HK HB BK2; have HS := n1; have HK := n2; have HB := n3; have BK2 := m2; clear n1 n2 n3 m2; obtain ⟨q2_0, q2_1, hlt2⟩ := blkof2 BK2.out; clear hd) | (go_at_call 59; (with_reducible refine (r_int32 _ base Rb Rd T off SZ A D C _ HS.out n h0 h1 HZ2.out).mono ?_); rintro e W1 ⟨rfl, hd⟩; have n1 := Aside0.mk hd.1; have n2 := Aside0.mk (HK.out.trans hd.2.1); have n3 := Aside0.mk (HB.out.trans hd.2.2); have m2 := Aside0.mk (hd.2.1.blk BK2.out HN2.out.1 HN2.out.2.1); clear HS HK HB BK2; have HS := n1; have HK := n2; have HB := n3; have BK2 := m2; clear n1 n2 n3 m2; obtain ⟨q2_0, q2_1, hlt2⟩ := blkof2 BK2.out; clear hd) | ((with_reducible refine gate_st rfl ?_); refine store_agg _ _ _ rfl rfl rfl [.int .i32 n, .int .i8 (IntKind.i8.wrap z)] BK2.out rfl rfl rfl (by kernel_rfl) (by simp [Value.oneCell']) ?_; intro W1 hb1 hk1 hg1; have n1 := Aside0.mk (HS.out.other HN2.out hk1); have n2 := Aside0.mk (HK.out.other hk1 HN2.out); have n3 := Aside0.mk (HB.out.trans (hg1.mono HN2.out.2.2.1)); clear BK2; clear HS HK HB; have HS := n1; have HK := n2; have HB := n3; clear n1 n2 n3; have BK2 := Aside0.mk hb1; clear hb1 hk1 hg1; obtain ⟨q2_0, q2_1, hlt2⟩ := blkof2 BK2.out; skip))
  skip
  exact bodyPost_ret (v := .tuple #[.agg #[.int .i32 n, .int .i8 (IntKind.i8.wrap z)], .nilIface]) (by simp [results, Try.results63, go_sem, q2_0, q2_1]) rfl ⟨rfl, HS.out, HK.out, HB.out⟩
set_option maxHeartbeats 8000000 in
set_option maxRecDepth 100000 in
theorem r_set (w : World) (base Rb Rd T off SZ : Nat) (A : Option Addr) (D : List Int) (C i : Nat) (hs : Sr w base Rb Rd T off SZ A D C i) (z n : Int) (h0 : -2147483648 ≤ n) (h1 : n < 2147483648) (hz : At D i ([z] ++ hib 4 n)) :
    Calls Try.prog 66 #[.pointer (some ⟨Rd, off, none⟩)] w fun e w' => e = .returned (.tuple #[.agg #[.int .i32 n, .int .i8 (IntKind.i8.wrap z)], .nilIface]) ∧ Done w w' base Rb Rd T off SZ A D C (i + 1 + 4) := by
  have HS := Aside0.mk hs
  have HK := Aside0.mk (Kp.refl w Rb Rd)
  have HB := Aside0.mk (Below.refl base w)
  have HZ := Aside0.mk hz
  clear hz
  clear hs
  go_enter Try.func66, Try.ntmps66
  go_wp2_with (first | ((with_reducible refine gate_dst (N := 2) rfl ?_); refine box_event ?xhg (N := 2) ?xhd (cs := #[.int .i32 0, .int .i8 0]) (t := 122) ?xhr ?_; (case xhd => rfl); (case xhg => rfl); (case xhr => first | (go_simp; done) | (go_simp; rfl)); intro B2 hG W1 hb1 hg1; have HN2 := Aside0.mk (HS.out.new hG HK.out.1); have n1 := Aside0.mk (HS.out.below hg1); have n2 := Aside0.mk (HK.out.trans (Kp.below hg1)); have n3 := Aside0.mk (HB.out.trans (hg1.mono HS.out.b3)); clear HS HK HB; have HS := n1; have HK := n2; have HB := n3; clear n1 n2 n3; have BK2 := Aside0.mk hb1; clear hb1 hg1 hG; obtain ⟨q2_0, q2_1, hlt2⟩ := blkof2 BK2.out; skip) | (go_at_call 63; (with_reducible refine (r_list _ base Rb Rd T off SZ A D C _ HS.out z n h0 h1 HZ.out).mono ?_); rintro e W1 ⟨rfl, hd⟩; have n1 := Aside0.mk hd.1; have n2 := Aside0.mk (HK.out.trans hd.2.1); have n3 := Aside0.mk (HB.out.trans hd.2.2); have m2 := Aside0.mk (hd.2.1.blk BK2.out HN2.out.1 HN2.out.2.1); clear HS HK HB BK2; have HS := n1; have HK := n2; have HB := n3; have BK2 := m2; clear n1 n2 n3 m2; obtain ⟨q2_0, q2_1, hlt2⟩ := blkof2 BK2.out; clear hd) | ((with_reducible refine gate_dst (N := 4) rfl ?_); refine box_event ?xhg (N := 4) ?xhd (cs := #[.int .i32 0, .int .i8 0]) (t := 120) ?xhr ?_; (case xhd => rfl); (case xhg => rfl); (case xhr => first | (go_simp; done) | (go_simp; rfl)); intro B4 hG W1 hb1 hg1; have NE2_4 := Aside0.mk (show B2 ≠ B4 from (by have h1 := blk_lt BK2.out; omega)); have NE4_2 := Aside0.mk (Ne.symm NE2_4.out); have HN4 := Aside0.mk (HS.out.new hG HK.out.1); have n1 := Aside0.mk (HS.out.below hg1); have n2 := Aside0.mk (HK.out.trans (Kp.below hg1)); have n3 := Aside0.mk (HB.out.trans (hg1.mono HS.out.b3)); have m2 := Aside0.mk (blk_below BK2.out hg1); clear HS HK HB BK2; have HS := n1; have HK := n2; have HB := n3; have BK2 := m2; clear n1 n2 n3 m2; obtain ⟨q2_0, q2_1, hlt2⟩ := blkof2 BK2.out; have BK4 := Aside0.mk hb1; clear hb1 hg1 hG; obtain ⟨q4_0, q4_1, hlt4⟩ := blkof2 BK4.out; skip) | ((with_reducible refine gate_st rfl ?_); refine store_agg _ _ _ rfl rfl rfl [.int .i32 n, .int .i8 (IntKind.i8.wrap z)] BK4.out rfl rfl rfl (by kernel_rfl) (by simp [Value.oneCell']) ?_; intro W1 hb1 hk1 hg1; have n1 := Aside0.mk (HS.out.other HN4.out hk1); have n2 := Aside0.mk (HK.out.other hk1 HN4.out); have n3 := Aside0.mk (HB.out.trans (hg1.mono HN4.out.2.2.1)); clear BK4; have m2 := Aside0.mk (hk1.blk BK2.out NE2_4.out (by simp)); clear HS HK HB BK2; have HS := n1; have HK := n2; have HB := n3; have BK2 := m2; clear n1 n2 n3 m2; obtain ⟨q2_0, q2_1, hlt2⟩ := blkof2 BK2.out; have BK4 := Aside0.mk hb1; clear hb1 hk1 hg1; obtain ⟨q4_0, q4_1, hlt4⟩ := blkof2 BK4.out; skip) | ((with_reducible refine gate_st rfl ?_); refine store_agg _ _ _ rfl rfl rfl [.int .i32 n, .int .i8 (IntKind.i8.wrap z)] BK2.out rfl rfl rfl (by kernel_rfl) (by simp [Value.oneCell']) ?_; intro W1 hb1 hk1 hg1; have n1 := Aside0.mk (HS.out.other HN2.out hk1); have n2 := Aside0.mk (HK.out.other hk1 HN2.out); have n3 := Aside0.mk (HB.out.trans (hg1.mono HN2.out.2.2.1)); clear BK2; have m4 := Aside0.mk (hk1.blk BK4.out NE4_2.out (by simp)); clear HS HK HB BK4; have HS := n1; have HK := n2; have HB := n3; have BK4 := m4; clear n1 n2 n3 m4; obtain ⟨q4_0, q4_1, hlt4⟩ := blkof2 BK4.out; have BK2 := Aside0.mk hb1; clear hb1 hk1 hg1; obtain ⟨q2_0, q2_1, hlt2⟩ := blkof2 BK2.out; skip))
  skip
  exact bodyPost_ret (v := .tuple #[.agg #[.int .i32 n, .int .i8 (IntKind.i8.wrap z)], .nilIface]) (by simp [results, Try.results66, go_sem, q2_0, q2_1]) rfl ⟨rfl, HS.out, HK.out, HB.out⟩
set_option maxHeartbeats 8000000 in
set_option maxRecDepth 100000 in
theorem r_map (w : World) (base Rb Rd T off SZ : Nat) (A : Option Addr) (D : List Int) (C i : Nat) (hs : Sr w base Rb Rd T off SZ A D C i) (x y n : Int) (h0 : -2147483648 ≤ n) (h1 : n < 2147483648) (hz : At D i ([x, y] ++ hib 4 n)) :
    Calls Try.prog 64 #[.pointer (some ⟨Rd, off, none⟩)] w fun e w' => e = .returned (.tuple #[.agg #[.int .i32 n, .int .i8 (IntKind.i8.wrap x), .int .i8 (IntKind.i8.wrap y)], .nilIface]) ∧ Done w w' base Rb Rd T off SZ A D C (i + 1 + 1 + 4) := by
  have HS := Aside0.mk hs
  have HK := Aside0.mk (Kp.refl w Rb Rd)
  have HB := Aside0.mk (Below.refl base w)
  have HZ1 := Aside0.mk hz.cat.1.cons.1
  have HZ2 := Aside0.mk hz.cat.1.cons.2
  have HZ3 := Aside0.mk (show At D (i + 1 + 1) _ from hz.cat.2)
  clear hz
  clear hs
  go_enter Try.func64, Try.ntmps64
  go_wp2_with (first | ((with_reducible refine gate_dst (N := 2) rfl ?_); refine box_event ?xhg (N := 2) ?xhd (cs := #[.int .i32 0, .int .i8 0, .int .i8 0]) (t := 125) ?xhr ?_; (case xhd => rfl); (case xhg => rfl); (case xhr => first | (go_simp; done) | (go_simp; rfl)); intro B2 hG W1 hb1 hg1; have HN2 := Aside0.mk (HS.out.new hG HK.out.1); have n1 := Aside0.mk (HS.out.below hg1); have n2 := Aside0.mk (HK.out.trans (Kp.below hg1)); have n3 := Aside0.mk (HB.out.trans (hg1.mono HS.out.b3)); clear HS HK HB; have HS := n1; have HK := n2; have HB := n3; clear n1 n2 n3; have BK2 := Aside0.mk hb1; clear hb1 hg1 hG; obtain ⟨q2_0, q2_1, q2_2, hlt2⟩ := blkof3 BK2.out; skip) | (go_at_call 69; (with_reducible refine (r_byte _ base Rb Rd T off SZ A D C _ HS.out x HZ1.out).mono ?_); rintro e W1 ⟨rfl, hd⟩; have n1 := Aside0.mk hd.1; have n2 := Aside0.mk (HK.out.trans hd.2.1); have n3 := Aside0.mk (HB.out.trans hd.2.2); have m2 := Aside0.mk (hd.2.1.blk BK2.out HN2.out.1 HN2.out.2.1); clear HS HK HB BK2; have HS := n1; have HK := n2; have HB := n3; have BK2 := m2; clear n1 n2 n3 m2; obtain ⟨q2_0, q2_1, q2_2, hlt2⟩ := blkof3 BK2.out; clear hd) | (go_at_call 69; (with_reducible refine (r_byte _ base Rb Rd T off SZ A D C _ HS.out y HZ2.out).mono ?_); rintro e W1 ⟨rfl, hd⟩; have n1 := Aside0.mk hd.1; have n2 := Aside0.mk (HK.out.trans hd.2.1); have n3 := Aside0.mk (HB.out.trans hd.2.2); have m2 := Aside0.mk (hd.2.1.blk BK2.out HN2.out.1 HN2.out.2.1); clear HS HK HB BK2; have HS := n1; have HK := n2; have HB := n3; have BK2 := m2; clear n1 n2 n3 m2; obtain ⟨q2_0, q2_1, q2_2, hlt2⟩ := blkof3 BK2.out; clear hd) | (go_at_call 59; (with_reducible refine (r_int32 _ base Rb Rd T off SZ A D C _ HS.out n h0 h1 HZ3.out).mono ?_); rintro e W1 ⟨rfl, hd⟩; have n1 := Aside0.mk hd.1; have n2 := Aside0.mk (HK.out.trans hd.2.1); have n3 := Aside0.mk (HB.out.trans hd.2.2); have m2 := Aside0.mk (hd.2.1.blk BK2.out HN2.out.1 HN2.out.2.1); clear HS HK HB BK2; have HS := n1; have HK := n2; have HB := n3; have BK2 := m2; clear n1 n2 n3 m2; obtain ⟨q2_0, q2_1, q2_2, hlt2⟩ := blkof3 BK2.out; clear hd) | ((with_reducible refine gate_st rfl ?_); refine store_agg _ _ _ rfl rfl rfl [.int .i32 n, .int .i8 (IntKind.i8.wrap x), .int .i8 (IntKind.i8.wrap y)] BK2.out rfl rfl rfl (by kernel_rfl) (by simp [Value.oneCell']) ?_; intro W1 hb1 hk1 hg1; have n1 := Aside0.mk (HS.out.other HN2.out hk1); have n2 := Aside0.mk (HK.out.other hk1 HN2.out); have n3 := Aside0.mk (HB.out.trans (hg1.mono HN2.out.2.2.1)); clear BK2; clear HS HK HB; have HS := n1; have HK := n2; have HB := n3; clear n1 n2 n3; have BK2 := Aside0.mk hb1; clear hb1 hk1 hg1; obtain ⟨q2_0, q2_1, q2_2, hlt2⟩ := blkof3 BK2.out; skip))
  skip
  exact bodyPost_ret (v := .tuple #[.agg #[.int .i32 n, .int .i8 (IntKind.i8.wrap x), .int .i8 (IntKind.i8.wrap y)], .nilIface]) (by simp [results, Try.results64, go_sem, q2_0, q2_1, q2_2]) rfl ⟨rfl, HS.out, HK.out, HB.out⟩
end Go.Proofs.Ytmjilokgpgajjaa.Th
