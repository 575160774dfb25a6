/- Written by threadc.py (wip/tpl): what the compact reader's methods read. -/
import Derived.Test.YtmjilokgpgajjaaThN5
import Derived.StillTailTactics
namespace Go.Proofs.Ytmjilokgpgajjaa.Th
open Go.RowKit Go.Proofs.YtmjilokgpgajjaaW.PrintWords Go.Proofs.YtmjilokgpgajjaaW.PrintLast Go.Proofs.YtmjilokgpgajjaaW.PrintMore
set_option linter.unusedVariables false
set_option linter.unusedSimpArgs false
set_option maxHeartbeats 8000000 in
set_option maxRecDepth 100000 in
theorem c_byte (w : World) (base Rb Rd T : Nat) (A : Option Addr) (D : List Int) (C i : Nat) (hs : Sr w base Rb Rd T 1 11 A D C i) (z : Int) (hz : At D i [z]) :
    Calls Try.prog 104 #[.pointer (some ⟨Rd, 0, none⟩)] w fun e w' => e = .returned (.tuple #[.int .u8 z, .nilIface]) ∧ Done w w' base Rb Rd T 1 11 A D C (i + 1) := by
  have HS := Aside0.mk hs
  have HK := Aside0.mk (Kp.refl w Rb Rd)
  have HB := Aside0.mk (Below.refl base w)
  have HZ := Aside0.mk hz
  clear hz
  clear hs
  go_enter Try.func104, Try.ntmps104
  go_wp2_with (first | (go_at_call 69; (with_reducible refine (r_byte _ base Rb Rd T 1 11 A D C _ HS.out z HZ.out).mono ?_); rintro e W1 ⟨rfl, hd⟩; have n1 := Aside0.mk hd.1; have n2 := Aside0.mk (HK.out.trans hd.2.1); have n3 := Aside0.mk (HB.out.trans hd.2.2); clear HS HK HB; have HS := n1; have HK := n2; have HB := n3; clear n1 n2 n3; clear hd))
  go_returns
  exact ⟨rfl, HS.out, HK.out, HB.out⟩
set_option maxHeartbeats 8000000 in
set_option maxRecDepth 100000 in
theorem c_rbool_true (w : World) (base Rb Rd T : Nat) (A : Option Addr) (D : List Int) (C i : Nat) (hs : Sr w base Rb Rd T 1 11 A D C i)  (hz : At D i [1]) :
    Calls Try.prog 103 #[.pointer (some ⟨Rd, 0, none⟩)] w fun e w' => e = .returned (.tuple #[.bool true, .nilIface]) ∧ Done w w' base Rb Rd T 1 11 A D C (i + 1) := by
  have HS := Aside0.mk hs
  have HK := Aside0.mk (Kp.refl w Rb Rd)
  have HB := Aside0.mk (Below.refl base w)
  have HZ := Aside0.mk hz
  clear hz
  clear hs
  go_enter Try.func103, Try.ntmps103
  go_wp2_with (first | (go_at_call 54; (with_reducible refine (r_bool_true _ base Rb Rd T 1 11 A D C _ HS.out HZ.out).mono ?_); rintro e W1 ⟨rfl, hd⟩; have n1 := Aside0.mk hd.1; have n2 := Aside0.mk (HK.out.trans hd.2.1); have n3 := Aside0.mk (HB.out.trans hd.2.2); clear HS HK HB; have HS := n1; have HK := n2; have HB := n3; clear n1 n2 n3; clear hd))
  go_returns
  exact ⟨rfl, HS.out, HK.out, HB.out⟩
set_option maxHeartbeats 8000000 in
set_option maxRecDepth 100000 in
theorem c_rbool_false (w : World) (base Rb Rd T : Nat) (A : Option Addr) (D : List Int) (C i : Nat) (hs : Sr w base Rb Rd T 1 11 A D C i)  (hz : At D i [0]) :
    Calls Try.prog 103 #[.pointer (some ⟨Rd, 0, none⟩)] w fun e w' => e = .returned (.tuple #[.bool false, .nilIface]) ∧ Done w w' base Rb Rd T 1 11 A D C (i + 1) := by
  have HS := Aside0.mk hs
  have HK := Aside0.mk (Kp.refl w Rb Rd)
  have HB := Aside0.mk (Below.refl base w)
  have HZ := Aside0.mk hz
  clear hz
  clear hs
  go_enter Try.func103, Try.ntmps103
  go_wp2_with (first | (go_at_call 54; (with_reducible refine (r_bool_false _ base Rb Rd T 1 11 A D C _ HS.out HZ.out).mono ?_); rintro e W1 ⟨rfl, hd⟩; have n1 := Aside0.mk hd.1; have n2 := Aside0.mk (HK.out.trans hd.2.1); have n3 := Aside0.mk (HB.out.trans hd.2.2); clear HS HK HB; have HS := n1; have HK := n2; have HB := n3; clear n1 n2 n3; clear hd))
  go_returns
  exact ⟨rfl, HS.out, HK.out, HB.out⟩
set_option maxHeartbeats 8000000 in
set_option maxRecDepth 100000 in
theorem c_rint8 (w : World) (base Rb Rd T : Nat) (A : Option Addr) (D : List Int) (C i : Nat) (hs : Sr w base Rb Rd T 1 11 A D C i) (z : Int) (hz : At D i [z]) :
    Calls Try.prog 111 #[.pointer (some ⟨Rd, 0, none⟩)] w fun e w' => e = .returned (.tuple #[.int .i8 (IntKind.i8.wrap z), .nilIface]) ∧ Done w w' base Rb Rd T 1 11 A D C (i + 1) := by
  have HS := Aside0.mk hs
  have HK := Aside0.mk (Kp.refl w Rb Rd)
  have HB := Aside0.mk (Below.refl base w)
  have HZ := Aside0.mk hz
  clear hz
  clear hs
  go_enter Try.func111, Try.ntmps111
  go_wp2_with (first | (go_at_call 61; (with_reducible refine (r_int8 _ base Rb Rd T 1 11 A D C _ HS.out z HZ.out).mono ?_); rintro e W1 ⟨rfl, hd⟩; have n1 := Aside0.mk hd.1; have n2 := Aside0.mk (HK.out.trans hd.2.1); have n3 := Aside0.mk (HB.out.trans hd.2.2); clear HS HK HB; have HS := n1; have HK := n2; have HB := n3; clear n1 n2 n3; clear hd))
  go_returns
  exact ⟨rfl, HS.out, HK.out, HB.out⟩
set_option maxHeartbeats 8000000 in
set_option maxRecDepth 100000 in
theorem c_rfloat (w : World) (base Rb Rd T : Nat) (A : Option Addr) (D : List Int) (C i : Nat) (hs : Sr w base Rb Rd T 1 11 A D C i) (n : Int) (hz : At D i (hib 8 n)) :
    Calls Try.prog 107 #[.pointer (some ⟨Rd, 0, none⟩)] w fun e w' => e = .returned (.tuple #[.float .f64 (IntKind.u64.wrap n).toNat, .nilIface]) ∧ Done w w' base Rb Rd T 1 11 A D C (i + 8) := by
  have HS := Aside0.mk hs
  have HK := Aside0.mk (Kp.refl w Rb Rd)
  have HB := Aside0.mk (Below.refl base w)
  have HZ := Aside0.mk hz
  clear hz
  clear hs
  go_enter Try.func107, Try.ntmps107
  go_wp2_with (first | (go_at_call 57; (with_reducible refine (r_float _ base Rb Rd T 1 11 A D C _ HS.out n HZ.out).mono ?_); rintro e W1 ⟨rfl, hd⟩; have n1 := Aside0.mk hd.1; have n2 := Aside0.mk (HK.out.trans hd.2.1); have n3 := Aside0.mk (HB.out.trans hd.2.2); clear HS HK HB; have HS := n1; have HK := n2; have HB := n3; clear n1 n2 n3; clear hd))
  go_returns
  exact ⟨rfl, HS.out, HK.out, HB.out⟩
set_option maxHeartbeats 8000000 in
set_option maxRecDepth 100000 in
theorem c_rint16 (w : World) (base Rb Rd T : Nat) (A : Option Addr) (D : List Int) (C i : Nat) (hs : Sr w base Rb Rd T 1 11 A D C i) (n : Int) (h0 : -32768 ≤ n) (h1 : n < 32768) (j : Nat) (hj : j < 10) (hn : nb j (zig n)) (hz : At D i (vbytes j (zig n))) :
    Calls Try.prog 108 #[.pointer (some ⟨Rd, 0, none⟩)] w fun e w' => e = .returned (.tuple #[.int .i16 n, .nilIface]) ∧ Done w w' base Rb Rd T 1 11 A D C (i + (j + 1)) := by
  have HS := Aside0.mk hs
  have HK := Aside0.mk (Kp.refl w Rb Rd)
  have HB := Aside0.mk (Below.refl base w)
  have ew : IntKind.i16.wrap n = n := by rw [show IntKind.i16.wrap n = (n + 32768) % 65536 - 32768 by simp [IntKind.wrap, IntKind.signed, IntKind.bits, IntKind.min, IntKind.max]; omega]; omega
  have HV := Aside0.mk (show -9223372036854775808 ≤ n ∧ n < 9223372036854775808 ∧ -32768 ≤ n ∧ n ≤ 32767 by omega)
  have HJ := Aside0.mk hj
  have HN := Aside0.mk hn
  have HZ := Aside0.mk hz
  clear hj hn hz
  clear hs
  go_enter Try.func108, Try.ntmps108
  go_wp2_with (first | (go_at_call 119; (with_reducible refine (c_rv _ base Rb Rd T A D C _ HS.out _ (-32768) 32767 n HV.out.1 HV.out.2.1 HV.out.2.2.1 HV.out.2.2.2 j HJ.out HN.out HZ.out).mono ?_); rintro e W1 ⟨rfl, hd⟩; have n1 := Aside0.mk hd.1; have n2 := Aside0.mk (HK.out.trans hd.2.1); have n3 := Aside0.mk (HB.out.trans hd.2.2); clear HS HK HB; have HS := n1; have HK := n2; have HB := n3; clear n1 n2 n3; clear hd))
  go_returns
  exact ⟨rfl, HS.out, HK.out, HB.out⟩
set_option maxHeartbeats 8000000 in
set_option maxRecDepth 100000 in
theorem c_rint32 (w : World) (base Rb Rd T : Nat) (A : Option Addr) (D : List Int) (C i : Nat) (hs : Sr w base Rb Rd T 1 11 A D C i) (n : Int) (h0 : -2147483648 ≤ n) (h1 : n < 2147483648) (j : Nat) (hj : j < 10) (hn : nb j (zig n)) (hz : At D i (vbytes j (zig n))) :
    Calls Try.prog 109 #[.pointer (some ⟨Rd, 0, none⟩)] w fun e w' => e = .returned (.tuple #[.int .i32 n, .nilIface]) ∧ Done w w' base Rb Rd T 1 11 A D C (i + (j + 1)) := by
  have HS := Aside0.mk hs
  have HK := Aside0.mk (Kp.refl w Rb Rd)
  have HB := Aside0.mk (Below.refl base w)
  have ew : wrap32 n = n := by unfold wrap32; omega
  have HV := Aside0.mk (show -9223372036854775808 ≤ n ∧ n < 9223372036854775808 ∧ -2147483648 ≤ n ∧ n ≤ 2147483647 by omega)
  have HJ := Aside0.mk hj
  have HN := Aside0.mk hn
  have HZ := Aside0.mk hz
  clear hj hn hz
  clear hs
  go_enter Try.func109, Try.ntmps109
  go_wp2_with (first | (go_at_call 119; (with_reducible refine (c_rv _ base Rb Rd T A D C _ HS.out _ (-2147483648) 2147483647 n HV.out.1 HV.out.2.1 HV.out.2.2.1 HV.out.2.2.2 j HJ.out HN.out HZ.out).mono ?_); rintro e W1 ⟨rfl, hd⟩; have n1 := Aside0.mk hd.1; have n2 := Aside0.mk (HK.out.trans hd.2.1); have n3 := Aside0.mk (HB.out.trans hd.2.2); clear HS HK HB; have HS := n1; have HK := n2; have HB := n3; clear n1 n2 n3; clear hd))
  go_returns
  exact ⟨rfl, HS.out, HK.out, HB.out⟩
set_option maxHeartbeats 8000000 in
set_option maxRecDepth 100000 in
theorem c_rint64 (w : World) (base Rb Rd T : Nat) (A : Option Addr) (D : List Int) (C i : Nat) (hs : Sr w base Rb Rd T 1 11 A D C i) (n : Int) (h0 : -9223372036854775808 ≤ n) (h1 : n < 9223372036854775808) (j : Nat) (hj : j < 10) (hn : nb j (zig n)) (hz : At D i (vbytes j (zig n))) :
    Calls Try.prog 110 #[.pointer (some ⟨Rd, 0, none⟩)] w fun e w' => e = .returned (.tuple #[.int .i64 n, .nilIface]) ∧ Done w w' base Rb Rd T 1 11 A D C (i + (j + 1)) := by
  have HS := Aside0.mk hs
  have HK := Aside0.mk (Kp.refl w Rb Rd)
  have HB := Aside0.mk (Below.refl base w)
  have ew : True := trivial
  have HV := Aside0.mk (show -9223372036854775808 ≤ n ∧ n < 9223372036854775808 ∧ -9223372036854775808 ≤ n ∧ n ≤ 9223372036854775807 by omega)
  have HJ := Aside0.mk hj
  have HN := Aside0.mk hn
  have HZ := Aside0.mk hz
  clear hj hn hz
  clear hs
  go_enter Try.func110, Try.ntmps110
  go_wp2_with (first | (go_at_call 119; (with_reducible refine (c_rv _ base Rb Rd T A D C _ HS.out _ (-9223372036854775808) 9223372036854775807 n HV.out.1 HV.out.2.1 HV.out.2.2.1 HV.out.2.2.2 j HJ.out HN.out HZ.out).mono ?_); rintro e W1 ⟨rfl, hd⟩; have n1 := Aside0.mk hd.1; have n2 := Aside0.mk (HK.out.trans hd.2.1); have n3 := Aside0.mk (HB.out.trans hd.2.2); clear HS HK HB; have HS := n1; have HK := n2; have HB := n3; clear n1 n2 n3; clear hd))
  go_returns
  exact ⟨rfl, HS.out, HK.out, HB.out⟩
set_option maxHeartbeats 8000000 in
set_option maxRecDepth 100000 in
theorem c_rlength (w : World) (base Rb Rd T : Nat) (A : Option Addr) (D : List Int) (C i : Nat) (hs : Sr w base Rb Rd T 1 11 A D C i) (n : Int) (h0 : 0 ≤ n) (h1 : n < 2147483648) (j : Nat) (hj : j < 10) (hn : nb j n) (hz : At D i (vbytes j n)) :
    Calls Try.prog 112 #[.pointer (some ⟨Rd, 0, none⟩)] w fun e w' => e = .returned (.tuple #[.int .i64 n, .nilIface]) ∧ Done w w' base Rb Rd T 1 11 A D C (i + (j + 1)) := by
  have HS := Aside0.mk hs
  have HK := Aside0.mk (Kp.refl w Rb Rd)
  have HB := Aside0.mk (Below.refl base w)
  have ew : wrap64 n = n := by unfold wrap64; omega
  have HV := Aside0.mk (show 0 ≤ n ∧ n < 18446744073709551616 ∧ n ≤ 2147483647 by omega)
  have HJ := Aside0.mk hj
  have HN := Aside0.mk hn
  have HZ := Aside0.mk hz
  clear hj hn hz
  clear hs
  go_enter Try.func112, Try.ntmps112
  go_wp2_with (first | (go_at_call 120; (with_reducible refine (c_ru _ base Rb Rd T A D C _ HS.out _ 2147483647 n HV.out.1 HV.out.2.1 HV.out.2.2 j HJ.out HN.out HZ.out).mono ?_); rintro e W1 ⟨rfl, hd⟩; have n1 := Aside0.mk hd.1; have n2 := Aside0.mk (HK.out.trans hd.2.1); have n3 := Aside0.mk (HB.out.trans hd.2.2); clear HS HK HB; have HS := n1; have HK := n2; have HB := n3; clear n1 n2 n3; clear hd))
  go_returns
  exact ⟨rfl, HS.out, HK.out, HB.out⟩
set_option maxHeartbeats 8000000 in
set_option maxRecDepth 100000 in
theorem c_rbytes (w : World) (base Rb Rd T : Nat) (A : Option Addr) (D : List Int) (C i : Nat) (hs : Sr w base Rb Rd T 1 11 A D C i) (zs : List Int) (hn1 : zs.length < 2147483648) (j : Nat) (hj : j < 10) (hn : nb j (zs.length : Int)) (hz : At D i (vbytes j (zs.length : Int) ++ zs)) :
    Calls Try.prog 105 #[.pointer (some ⟨Rd, 0, none⟩)] w fun e w' => Text e w w' base Rb Rd T 1 11 A D C (i + (j + 1) + zs.length) zs := by
  have HS := Aside0.mk hs
  have HK := Aside0.mk (Kp.refl w Rb Rd)
  have HB := Aside0.mk (Below.refl base w)
  have hz2 := hz.cat
  rw [vbytes_len] at hz2
  have HZ1 := Aside0.mk hz2.1
  have HZ2 := Aside0.mk hz2.2
  have HM2 := Aside0.mk hn1
  have HJ := Aside0.mk hj
  obtain ⟨m, hm⟩ : ∃ m, m = zs.length := ⟨_, rfl⟩
  have HLE := Aside0.mk (show i + (j + 1) + m ≤ D.length by have := hz2.2.le; omega)
  have HML := Aside0.mk hm.symm
  rw [← hm] at hn1 HZ1 hn
  have HN := Aside0.mk hn
  have HM := Aside0.mk (show (0 : Int) ≤ (m : Int) ∧ (m : Int) < 2147483648 by omega)
  have hmk := print_make (P := Try.prog) 26 5 .u8 1 Try.underlying26 info5 (by decide) m (by omega)
  unfold Text
  rw [← hm]
  clear hs hz hz2 hm hn1 hn hj
  go_enter Try.func105, Try.ntmps105
  go_wp2_with (first | (go_at_call 112; (with_reducible refine (c_rlength _ base Rb Rd T A D C _ HS.out (m : Int) HM.out.1 HM.out.2 j HJ.out HN.out HZ1.out).mono ?_); rintro e W1 ⟨rfl, hd⟩; have n1 := Aside0.mk hd.1; have n2 := Aside0.mk (HK.out.trans hd.2.1); have n3 := Aside0.mk (HB.out.trans hd.2.2); clear HS HK HB; have HS := n1; have HK := n2; have HB := n3; clear n1 n2 n3; clear hd) | (go_at_call 118; (with_reducible refine (c_reader _ base Rb Rd T A D C _ HS.out).mono ?_); rintro e W1 ⟨rfl, rfl⟩) | (go_at_call 70; (with_reducible refine (rd_short _ base Rb Rd T 1 11 A D C _ HS.out m HLE.out).mono ?_); rintro e W1 ⟨rfl, hb⟩; have n1 := Aside0.mk (HS.out.below hb); have n2 := Aside0.mk (HK.out.trans (Kp.below hb)); have n3 := Aside0.mk (HB.out.trans (hb.mono HS.out.b3)); clear HS HK HB; have HS := n1; have HK := n2; have HB := n3; clear n1 n2 n3; have HNEW := Aside0.mk (rd_new _ base Rb Rd T 1 11 A D C _ HS.out zs HM2.out HZ2.out); rw [HML.out] at HNEW; have HSA := Aside0.mk (HS.out.below (below_alloc (Below.refl _ _) (.cells (madeCells #[.int .u8 0] m) 5))); clear hb) | (go_at_call 118; (with_reducible refine (c_reader _ base Rb Rd T A D C _ HSA.out).mono ?_); rintro e W1 ⟨rfl, rfl⟩) | (go_at_call 71; (with_reducible refine (HNEW.out).mono ?_); rintro e W1 ⟨he, hc, hd⟩; rw [HML.out] at he; subst he; have HCN := Aside0.mk hc; have n1 := Aside0.mk hd.1; have n2 := Aside0.mk (HK.out.trans hd.2.1); have n3 := Aside0.mk (HB.out.trans hd.2.2); clear HS HK HB; have HS := n1; have HK := n2; have HB := n3; clear n1 n2 n3; clear hd hc))
  go_ret2
  have hc := HCN.out
  rw [HML.out] at hc
  exact ⟨_, rfl, hc, HS.out, HK.out, HB.out⟩
set_option maxHeartbeats 8000000 in
set_option maxRecDepth 100000 in
theorem c_rtext (w : World) (base Rb Rd T : Nat) (A : Option Addr) (D : List Int) (C i : Nat) (hs : Sr w base Rb Rd T 1 11 A D C i) (S : ByteArray) (hS : S.size < 2147483648) (j : Nat) (hj : j < 10) (hn : nb j (S.size : Int)) (hz : At D i (vbytes j (S.size : Int) ++ bytesOf S)) :
    Calls Try.prog 117 #[.pointer (some ⟨Rd, 0, none⟩)] w fun e w' => e = .returned (.tuple #[.string S, .nilIface]) ∧ Done w w' base Rb Rd T 1 11 A D C (i + (j + 1) + S.size) := by
  have HS := Aside0.mk hs
  have HK := Aside0.mk (Kp.refl w Rb Rd)
  have HB := Aside0.mk (Below.refl base w)
  obtain ⟨zs, hzs⟩ : ∃ zs, zs = bytesOf S := ⟨_, rfl⟩
  have hlen : zs.length = S.size := by rw [hzs, bytesOf_length]
  have HSTR := Aside0.mk (show S = strOfNums zs by rw [hzs, str_bytes])
  rw [← hzs, ← hlen] at hz
  rw [← hlen] at hn ⊢
  have HZ := Aside0.mk hz
  have HJ := Aside0.mk hj
  have HN := Aside0.mk hn
  have HN1 := Aside0.mk (show zs.length < 2147483648 by rw [hlen]; exact hS)
  clear hz hzs hlen hn hj
  clear hs
  go_enter Try.func117, Try.ntmps117
  go_wp2_with (first | (go_at_call 105; (with_reducible refine (c_rbytes _ base Rb Rd T A D C _ HS.out zs HN1.out j HJ.out HN.out HZ.out).mono ?_); rintro e W1 ⟨B, rfl, hc, hd⟩; have n1 := Aside0.mk hd.1; have n2 := Aside0.mk (HK.out.trans hd.2.1); have n3 := Aside0.mk (HB.out.trans hd.2.2); clear HS HK HB; have HS := n1; have HK := n2; have HB := n3; clear n1 n2 n3; have tcv : Sem.run Try.prog (convert 26 9 (.slice (some ⟨B, 0, none⟩) zs.length zs.length)) W1 = .ok (.string S) W1 := (by rw [HSTR.out]; exact Kd.C_string Try.underlying26 Try.underlying5 Try.underlying9 hc); clear hc; clear hd))
  go_returns
  exact ⟨rfl, HS.out, HK.out, HB.out⟩
end Go.Proofs.Ytmjilokgpgajjaa.Th
