/- Written by thread.py (wip/tpl): what the binary reader's methods read. -/
import Derived.Test.YtmjilokgpgajjaaThN1
import Derived.Test.YtmjilokgpgajjaaThM1
import Derived.Handy
namespace Go.Proofs.Ytmjilokgpgajjaa.Th
open Go.RowKit Go.Proofs.YtmjilokgpgajjaaW.PrintWords Go.Proofs.YtmjilokgpgajjaaW.PrintLast Go.Proofs.YtmjilokgpgajjaaW.PrintMore
set_option linter.unusedVariables false
set_option linter.unusedSimpArgs false
theorem blkof1 {w : World} {g : Nat} {t : TypeId} {a0 : Value} (h : w.heap[g]? = some (.cells #[a0] t (0, 0))) : w.cell? ⟨g, 0, none⟩ = some a0 ∧ g < w.heap.size := ⟨(blk_cell h 0).trans rfl, blk_lt h⟩
theorem blkof2 {w : World} {g : Nat} {t : TypeId} {a0 a1 : Value} (h : w.heap[g]? = some (.cells #[a0, a1] t (0, 0))) : w.cell? ⟨g, 0, none⟩ = some a0 ∧ w.cell? ⟨g, 1, none⟩ = some a1 ∧ g < w.heap.size := ⟨(blk_cell h 0).trans rfl, (blk_cell h 1).trans rfl, blk_lt h⟩
theorem blkof3 {w : World} {g : Nat} {t : TypeId} {a0 a1 a2 : Value} (h : w.heap[g]? = some (.cells #[a0, a1, a2] t (0, 0))) : w.cell? ⟨g, 0, none⟩ = some a0 ∧ w.cell? ⟨g, 1, none⟩ = some a1 ∧ w.cell? ⟨g, 2, none⟩ = some a2 ∧ g < w.heap.size := ⟨(blk_cell h 0).trans rfl, (blk_cell h 1).trans rfl, (blk_cell h 2).trans rfl, blk_lt h⟩
theorem blkof4 {w : World} {g : Nat} {t : TypeId} {a0 a1 a2 a3 : Value} (h : w.heap[g]? = some (.cells #[a0, a1, a2, a3] t (0, 0))) : w.cell? ⟨g, 0, none⟩ = some a0 ∧ w.cell? ⟨g, 1, none⟩ = some a1 ∧ w.cell? ⟨g, 2, none⟩ = some a2 ∧ w.cell? ⟨g, 3, none⟩ = some a3 ∧ g < w.heap.size := ⟨(blk_cell h 0).trans rfl, (blk_cell h 1).trans rfl, (blk_cell h 2).trans rfl, (blk_cell h 3).trans rfl, blk_lt h⟩
theorem blkof5 {w : World} {g : Nat} {t : TypeId} {a0 a1 a2 a3 a4 : Value} (h : w.heap[g]? = some (.cells #[a0, a1, a2, a3, a4] t (0, 0))) : w.cell? ⟨g, 0, none⟩ = some a0 ∧ w.cell? ⟨g, 1, none⟩ = some a1 ∧ w.cell? ⟨g, 2, none⟩ = some a2 ∧ w.cell? ⟨g, 3, none⟩ = some a3 ∧ w.cell? ⟨g, 4, none⟩ = some a4 ∧ g < w.heap.size := ⟨(blk_cell h 0).trans rfl, (blk_cell h 1).trans rfl, (blk_cell h 2).trans rfl, (blk_cell h 3).trans rfl, (blk_cell h 4).trans rfl, blk_lt h⟩
theorem blkof6 {w : World} {g : Nat} {t : TypeId} {a0 a1 a2 a3 a4 a5 : Value} (h : w.heap[g]? = some (.cells #[a0, a1, a2, a3, a4, a5] t (0, 0))) : w.cell? ⟨g, 0, none⟩ = some a0 ∧ w.cell? ⟨g, 1, none⟩ = some a1 ∧ w.cell? ⟨g, 2, none⟩ = some a2 ∧ w.cell? ⟨g, 3, none⟩ = some a3 ∧ w.cell? ⟨g, 4, none⟩ = some a4 ∧ w.cell? ⟨g, 5, none⟩ = some a5 ∧ g < w.heap.size := ⟨(blk_cell h 0).trans rfl, (blk_cell h 1).trans rfl, (blk_cell h 2).trans rfl, (blk_cell h 3).trans rfl, (blk_cell h 4).trans rfl, (blk_cell h 5).trans rfl, blk_lt h⟩
/-- A call that reads. -/
def Done (w w' : World) (base Rb Rd T off SZ : Nat) (A : Option Addr) (D : List Int) (C j : Nat) : Prop := Sr w' base Rb Rd T off SZ A D C j ∧ Kp w w' Rb Rd ∧ Below base w w'
section
variable {w w' : World} {base Rb Rd T off SZ : Nat} {A : Option Addr} {D : List Int} {C i j : Nat}
theorem Done.sr (h : Done w w' base Rb Rd T off SZ A D C j) : Sr w' base Rb Rd T off SZ A D C j := h.1
theorem Sr.ltb (h : Sr w base Rb Rd T off SZ A D C i) : Rb < w.heap.size := blk_lt h.hR
theorem Sr.ltd (h : Sr w base Rb Rd T off SZ A D C i) : Rd < w.heap.size := by obtain ⟨ws, h1, _⟩ := h.hQ; exact blk_lt h1
theorem Sr.new (h : Sr w base Rb Rd T off SZ A D C i) {B : Nat} (hB : B = w.heap.size) {w0 : World} (h0 : w0.heap.size ≤ w.heap.size) : B ≠ Rb ∧ B ≠ Rd ∧ base ≤ B ∧ w0.heap.size ≤ B := by
  have h1 := h.ltb
  have h2 := h.ltd
  have h3 := h.b3
  omega
theorem Kp.other {w W W1 : World} {Rb Rd B : Nat} (h : Kp w W Rb Rd) (hk : KeepBut W W1 B none) (hB : B ≠ Rb ∧ B ≠ Rd ∧ base ≤ B ∧ w.heap.size ≤ B) : Kp w W1 Rb Rd :=
  ⟨Nat.le_trans h.1 hk.1, fun k h1 h2 h3 => (hk.2 k (Nat.lt_of_lt_of_le h1 h.1) (by omega) (by simp)).trans (h.2 k h1 h2 h3)⟩
theorem Sr.other (h : Sr w base Rb Rd T off SZ A D C i) {B : Nat} {N : Nat} (hB : B ≠ Rb ∧ B ≠ Rd ∧ base ≤ B ∧ N ≤ B) (hk : KeepBut w w' B none) : Sr w' base Rb Rd T off SZ A D C i := by
  obtain ⟨ws, h3, h4⟩ := h.hQ
  exact ⟨hk.blk h.hR (Ne.symm hB.1) (by simp), Kd.F_step h.hD (fun k ho hk' => hk.2 k hk' (Nat.ne_of_lt (Nat.lt_of_lt_of_le ho hB.2.2.1)) (by simp)), ⟨ws, hk.blk h3 (Ne.symm hB.2.1) (by simp), h4⟩, h.hZ, h.n1, h.hC, h.hL, h.b1, h.b2, Nat.le_trans h.b3 hk.1⟩
end
set_option maxRecDepth 100000 in
theorem is_byter (S : Nat) (w : World) : Sem.run Try.prog (Instr.typeAssert (.iface 61 (.pointer (some ⟨S, 0, none⟩))) 158 187 true) w = .ok (.tuple #[.iface 61 (.pointer (some ⟨S, 0, none⟩)), .bool true]) w := by kernel_rfl
set_option maxHeartbeats 8000000 in
set_option maxRecDepth 100000 in
theorem r_byte (w : World) (base Rb Rd T off SZ : Nat) (A : Option Addr) (D : List Int) (C i : Nat) (hs : Sr w base Rb Rd T off SZ A D C i) (z : Int) (hz : At D i [z]) :
    Calls Try.prog 69 #[.pointer (some ⟨Rd, off, none⟩)] w fun e w' => e = .returned (.tuple #[.int .u8 z, .nilIface]) ∧ Done w w' base Rb Rd T off SZ A D C (i + 1) := by
  have HS := Aside0.mk hs
  have HK := Aside0.mk (Kp.refl w Rb Rd)
  have HB := Aside0.mk (Below.refl base w)
  have HZ := Aside0.mk hz
  obtain ⟨ws, h3, h4, h5, h6⟩ := hs.hQ
  have c1 : w.cell? ⟨Rd, off + 1, none⟩ = some (.iface 61 (.pointer (some ⟨Rb, 0, none⟩))) := (blk_cell h3 (off + 1)).trans h5
  have hta := is_byter Rb
  clear hz h3 h4 h5 h6
  clear hs
  go_enter Try.func69, Try.ntmps69
  go_wp2_with (first | (go_at_call 149; (with_reducible refine (rd_byte _ base Rb Rd T off SZ A D C _ z HS.out HZ.out).mono ?_); rintro e W1 ⟨rfl, hd⟩; have n1 := Aside0.mk hd.1; have n2 := Aside0.mk (HK.out.trans hd.2.1); have n3 := Aside0.mk (HB.out.trans hd.2.2); clear HS HK HB; have HS := n1; have HK := n2; have HB := n3; clear n1 n2 n3; clear hd))
  go_returns
  exact ⟨rfl, HS.out, HK.out, HB.out⟩
set_option maxHeartbeats 8000000 in
set_option maxRecDepth 100000 in
theorem r_bool_true (w : World) (base Rb Rd T off SZ : Nat) (A : Option Addr) (D : List Int) (C i : Nat) (hs : Sr w base Rb Rd T off SZ A D C i)  (hz : At D i [1]) :
    Calls Try.prog 54 #[.pointer (some ⟨Rd, off, none⟩)] w fun e w' => e = .returned (.tuple #[.bool true, .nilIface]) ∧ Done w w' base Rb Rd T off SZ A D C (i + 1) := by
  have HS := Aside0.mk hs
  have HK := Aside0.mk (Kp.refl w Rb Rd)
  have HB := Aside0.mk (Below.refl base w)
  have HZ := Aside0.mk hz
  clear hz
  clear hs
  go_enter Try.func54, Try.ntmps54
  go_wp2_with (first | (go_at_call 69; (with_reducible refine (r_byte _ base Rb Rd T off SZ A D C _ HS.out 1 HZ.out).mono ?_); rintro e W1 ⟨rfl, hd⟩; have n1 := Aside0.mk hd.1; have n2 := Aside0.mk (HK.out.trans hd.2.1); have n3 := Aside0.mk (HB.out.trans hd.2.2); clear HS HK HB; have HS := n1; have HK := n2; have HB := n3; clear n1 n2 n3; clear hd))
  go_returns
  exact ⟨rfl, HS.out, HK.out, HB.out⟩
set_option maxHeartbeats 8000000 in
set_option maxRecDepth 100000 in
theorem r_bool_false (w : World) (base Rb Rd T off SZ : Nat) (A : Option Addr) (D : List Int) (C i : Nat) (hs : Sr w base Rb Rd T off SZ A D C i)  (hz : At D i [0]) :
    Calls Try.prog 54 #[.pointer (some ⟨Rd, off, none⟩)] w fun e w' => e = .returned (.tuple #[.bool false, .nilIface]) ∧ Done w w' base Rb Rd T off SZ A D C (i + 1) := by
  have HS := Aside0.mk hs
  have HK := Aside0.mk (Kp.refl w Rb Rd)
  have HB := Aside0.mk (Below.refl base w)
  have HZ := Aside0.mk hz
  clear hz
  clear hs
  go_enter Try.func54, Try.ntmps54
  go_wp2_with (first | (go_at_call 69; (with_reducible refine (r_byte _ base Rb Rd T off SZ A D C _ HS.out 0 HZ.out).mono ?_); rintro e W1 ⟨rfl, hd⟩; have n1 := Aside0.mk hd.1; have n2 := Aside0.mk (HK.out.trans hd.2.1); have n3 := Aside0.mk (HB.out.trans hd.2.2); clear HS HK HB; have HS := n1; have HK := n2; have HB := n3; clear n1 n2 n3; clear hd))
  go_returns
  exact ⟨rfl, HS.out, HK.out, HB.out⟩
set_option maxHeartbeats 8000000 in
set_option maxRecDepth 100000 in
theorem r_int8 (w : World) (base Rb Rd T off SZ : Nat) (A : Option Addr) (D : List Int) (C i : Nat) (hs : Sr w base Rb Rd T off SZ A D C i) (z : Int) (hz : At D i [z]) :
    Calls Try.prog 61 #[.pointer (some ⟨Rd, off, none⟩)] w fun e w' => e = .returned (.tuple #[.int .i8 (IntKind.i8.wrap z), .nilIface]) ∧ Done w w' base Rb Rd T off SZ A D C (i + 1) := by
  have HS := Aside0.mk hs
  have HK := Aside0.mk (Kp.refl w Rb Rd)
  have HB := Aside0.mk (Below.refl base w)
  have HZ := Aside0.mk hz
  clear hz
  clear hs
  go_enter Try.func61, Try.ntmps61
  go_wp2_with (first | (go_at_call 69; (with_reducible refine (r_byte _ base Rb Rd T off SZ A D C _ HS.out z HZ.out).mono ?_); rintro e W1 ⟨rfl, hd⟩; have n1 := Aside0.mk hd.1; have n2 := Aside0.mk (HK.out.trans hd.2.1); have n3 := Aside0.mk (HB.out.trans hd.2.2); clear HS HK HB; have HS := n1; have HK := n2; have HB := n3; clear n1 n2 n3; clear hd))
  go_returns
  exact ⟨rfl, HS.out, HK.out, HB.out⟩
set_option maxHeartbeats 8000000 in
set_option maxRecDepth 100000 in
theorem r_int16 (w : World) (base Rb Rd T off SZ : Nat) (A : Option Addr) (D : List Int) (C i : Nat) (hs : Sr w base Rb Rd T off SZ A D C i) (n : Int) (h0 : -32768 ≤ n) (h1 : n < 32768) (hz : At D i (hib 2 n)) :
    Calls Try.prog 58 #[.pointer (some ⟨Rd, off, none⟩)] w fun e w' => e = .returned (.tuple #[.int .i16 n, .nilIface]) ∧ Done w w' base Rb Rd T off SZ A D C (i + 2) := by
  have HS := Aside0.mk hs
  have HK := Aside0.mk (Kp.refl w Rb Rd)
  have HB := Aside0.mk (Below.refl base w)
  have HZ0 := Aside0.mk (show hib 2 n = [n / 256 % 256, n % 256] by simp [hib])
  rw [HZ0.out] at hz
  have HZ := Aside0.mk hz
  obtain ⟨z0, hz0⟩ : ∃ z, z = n / 256 % 256 := ⟨_, rfl⟩
  obtain ⟨z1, hz1⟩ : ∃ z, z = n % 256 := ⟨_, rfl⟩
  rw [← hz0, ← hz1] at HZ
  have g0 : 0 ≤ z0 ∧ z0 < 256 := by omega
  have g1 : 0 ≤ z1 ∧ z1 < 256 := by omega
  have hv : IntKind.i16.wrap (z0 * 256 + z1) = n := by rw [show IntKind.i16.wrap (z0 * 256 + z1) = (z0 * 256 + z1 + 32768) % 65536 - 32768 by simp [IntKind.wrap, IntKind.signed, IntKind.bits, IntKind.min, IntKind.max]; omega]; omega
  have HG0 := Aside0.mk g0
  have HG1 := Aside0.mk g1
  have HV := Aside0.mk hv
  clear hz hv HZ0 hz0 g0 hz1 g1
  clear hs
  go_enter Try.func58, Try.ntmps58
  go_wp2_with (first | (go_at_call 72; (with_reducible refine (rd_into2 _ base Rb Rd T off SZ A D C _ HS.out [z0, z1] HZ.out rfl).mono ?_); rintro e W1 ⟨rfl, hd⟩; have n1 := Aside0.mk hd.1; have n2 := Aside0.mk (HK.out.trans hd.2.2.1); have n3 := Aside0.mk (HB.out.trans hd.2.2.2); clear HS HK HB; have HS := n1; have HK := n2; have HB := n3; clear n1 n2 n3; have HCB := Aside0.mk hd.2.1; clear hd) | (go_at_call 74; (with_reducible refine (buint16 z0 z1 HG0.out HG1.out _ Rd (off + 2) 8 HCB.out).mono ?_); rintro e W1 ⟨rfl, hb⟩; have n1 := Aside0.mk (HS.out.below hb); have n2 := Aside0.mk (HK.out.trans (Kp.below hb)); have n3 := Aside0.mk (HB.out.trans (hb.mono HS.out.b3)); clear HS HK HB; have HS := n1; have HK := n2; have HB := n3; clear n1 n2 n3; clear hb))
  go_returns
  refine ⟨?_, HS.out, HK.out, HB.out⟩
  first | (rw [HV.out]; done) | (rw [HV.out]; rfl) | (rw [HV.out, show wrap64 n = n by unfold wrap64; omega]; done) | (rw [HV.out, show wrap64 n = n by unfold wrap64; omega]; rfl)
set_option maxHeartbeats 8000000 in
set_option maxRecDepth 100000 in
theorem r_int32 (w : World) (base Rb Rd T off SZ : Nat) (A : Option Addr) (D : List Int) (C i : Nat) (hs : Sr w base Rb Rd T off SZ A D C i) (n : Int) (h0 : -2147483648 ≤ n) (h1 : n < 2147483648) (hz : At D i (hib 4 n)) :
    Calls Try.prog 59 #[.pointer (some ⟨Rd, off, none⟩)] w fun e w' => e = .returned (.tuple #[.int .i32 n, .nilIface]) ∧ Done w w' base Rb Rd T off SZ A D C (i + 4) := by
  have HS := Aside0.mk hs
  have HK := Aside0.mk (Kp.refl w Rb Rd)
  have HB := Aside0.mk (Below.refl base w)
  have HZ0 := Aside0.mk (show hib 4 n = [n / 16777216 % 256, n / 65536 % 256, n / 256 % 256, n % 256] by simp [hib])
  rw [HZ0.out] at hz
  have HZ := Aside0.mk hz
  obtain ⟨z0, hz0⟩ : ∃ z, z = n / 16777216 % 256 := ⟨_, rfl⟩
  obtain ⟨z1, hz1⟩ : ∃ z, z = n / 65536 % 256 := ⟨_, rfl⟩
  obtain ⟨z2, hz2⟩ : ∃ z, z = n / 256 % 256 := ⟨_, rfl⟩
  obtain ⟨z3, hz3⟩ : ∃ z, z = n % 256 := ⟨_, rfl⟩
  rw [← hz0, ← hz1, ← hz2, ← hz3] at HZ
  have g0 : 0 ≤ z0 ∧ z0 < 256 := by omega
  have g1 : 0 ≤ z1 ∧ z1 < 256 := by omega
  have g2 : 0 ≤ z2 ∧ z2 < 256 := by omega
  have g3 : 0 ≤ z3 ∧ z3 < 256 := by omega
  have hv : wrap32 (z0 * 16777216 + z1 * 65536 + z2 * 256 + z3) = n := by unfold wrap32; omega
  have HG0 := Aside0.mk g0
  have HG1 := Aside0.mk g1
  have HG2 := Aside0.mk g2
  have HG3 := Aside0.mk g3
  have HV := Aside0.mk hv
  clear hz hv HZ0 hz0 g0 hz1 g1 hz2 g2 hz3 g3
  clear hs
  go_enter Try.func59, Try.ntmps59
  go_wp2_with (first | (go_at_call 72; (with_reducible refine (rd_into4 _ base Rb Rd T off SZ A D C _ HS.out [z0, z1, z2, z3] HZ.out rfl).mono ?_); rintro e W1 ⟨rfl, hd⟩; have n1 := Aside0.mk hd.1; have n2 := Aside0.mk (HK.out.trans hd.2.2.1); have n3 := Aside0.mk (HB.out.trans hd.2.2.2); clear HS HK HB; have HS := n1; have HK := n2; have HB := n3; clear n1 n2 n3; have HCB := Aside0.mk hd.2.1; clear hd) | (go_at_call 75; (with_reducible refine (buint32 z0 z1 z2 z3 HG0.out HG1.out HG2.out HG3.out _ Rd (off + 2) 8 HCB.out).mono ?_); rintro e W1 ⟨rfl, hb⟩; have n1 := Aside0.mk (HS.out.below hb); have n2 := Aside0.mk (HK.out.trans (Kp.below hb)); have n3 := Aside0.mk (HB.out.trans (hb.mono HS.out.b3)); clear HS HK HB; have HS := n1; have HK := n2; have HB := n3; clear n1 n2 n3; clear hb))
  go_returns
  refine ⟨?_, HS.out, HK.out, HB.out⟩
  first | (rw [HV.out]; done) | (rw [HV.out]; rfl) | (rw [HV.out, show wrap64 n = n by unfold wrap64; omega]; done) | (rw [HV.out, show wrap64 n = n by unfold wrap64; omega]; rfl)
set_option maxHeartbeats 8000000 in
set_option maxRecDepth 100000 in
theorem r_int64 (w : World) (base Rb Rd T off SZ : Nat) (A : Option Addr) (D : List Int) (C i : Nat) (hs : Sr w base Rb Rd T off SZ A D C i) (n : Int) (h0 : -9223372036854775808 ≤ n) (h1 : n < 9223372036854775808) (hz : At D i (hib 8 n)) :
    Calls Try.prog 60 #[.pointer (some ⟨Rd, off, none⟩)] w fun e w' => e = .returned (.tuple #[.int .i64 n, .nilIface]) ∧ Done w w' base Rb Rd T off SZ A D C (i + 8) := by
  have HS := Aside0.mk hs
  have HK := Aside0.mk (Kp.refl w Rb Rd)
  have HB := Aside0.mk (Below.refl base w)
  have HZ0 := Aside0.mk (show hib 8 n = [n / 72057594037927936 % 256, n / 281474976710656 % 256, n / 1099511627776 % 256, n / 4294967296 % 256, n / 16777216 % 256, n / 65536 % 256, n / 256 % 256, n % 256] by simp [hib])
  rw [HZ0.out] at hz
  have HZ := Aside0.mk hz
  obtain ⟨z0, hz0⟩ : ∃ z, z = n / 72057594037927936 % 256 := ⟨_, rfl⟩
  obtain ⟨z1, hz1⟩ : ∃ z, z = n / 281474976710656 % 256 := ⟨_, rfl⟩
  obtain ⟨z2, hz2⟩ : ∃ z, z = n / 1099511627776 % 256 := ⟨_, rfl⟩
  obtain ⟨z3, hz3⟩ : ∃ z, z = n / 4294967296 % 256 := ⟨_, rfl⟩
  obtain ⟨z4, hz4⟩ : ∃ z, z = n / 16777216 % 256 := ⟨_, rfl⟩
  obtain ⟨z5, hz5⟩ : ∃ z, z = n / 65536 % 256 := ⟨_, rfl⟩
  obtain ⟨z6, hz6⟩ : ∃ z, z = n / 256 % 256 := ⟨_, rfl⟩
  obtain ⟨z7, hz7⟩ : ∃ z, z = n % 256 := ⟨_, rfl⟩
  rw [← hz0, ← hz1, ← hz2, ← hz3, ← hz4, ← hz5, ← hz6, ← hz7] at HZ
  have g0 : 0 ≤ z0 ∧ z0 < 256 := by omega
  have g1 : 0 ≤ z1 ∧ z1 < 256 := by omega
  have g2 : 0 ≤ z2 ∧ z2 < 256 := by omega
  have g3 : 0 ≤ z3 ∧ z3 < 256 := by omega
  have g4 : 0 ≤ z4 ∧ z4 < 256 := by omega
  have g5 : 0 ≤ z5 ∧ z5 < 256 := by omega
  have g6 : 0 ≤ z6 ∧ z6 < 256 := by omega
  have g7 : 0 ≤ z7 ∧ z7 < 256 := by omega
  have hv : wrap64 (z0 * 72057594037927936 + z1 * 281474976710656 + z2 * 1099511627776 + z3 * 4294967296 + z4 * 16777216 + z5 * 65536 + z6 * 256 + z7) = n := by unfold wrap64; omega
  have HG0 := Aside0.mk g0
  have HG1 := Aside0.mk g1
  have HG2 := Aside0.mk g2
  have HG3 := Aside0.mk g3
  have HG4 := Aside0.mk g4
  have HG5 := Aside0.mk g5
  have HG6 := Aside0.mk g6
  have HG7 := Aside0.mk g7
  have HV := Aside0.mk hv
  clear hz hv HZ0 hz0 g0 hz1 g1 hz2 g2 hz3 g3 hz4 g4 hz5 g5 hz6 g6 hz7 g7
  clear hs
  go_enter Try.func60, Try.ntmps60
  go_wp2_with (first | (go_at_call 72; (with_reducible refine (rd_into8 _ base Rb Rd T off SZ A D C _ HS.out [z0, z1, z2, z3, z4, z5, z6, z7] HZ.out rfl).mono ?_); rintro e W1 ⟨rfl, hd⟩; have n1 := Aside0.mk hd.1; have n2 := Aside0.mk (HK.out.trans hd.2.2.1); have n3 := Aside0.mk (HB.out.trans hd.2.2.2); clear HS HK HB; have HS := n1; have HK := n2; have HB := n3; clear n1 n2 n3; have HCB := Aside0.mk hd.2.1; clear hd) | (go_at_call 73; (with_reducible refine (buint64 z0 z1 z2 z3 z4 z5 z6 z7 HG0.out HG1.out HG2.out HG3.out HG4.out HG5.out HG6.out HG7.out _ Rd (off + 2) 8 HCB.out).mono ?_); rintro e W1 ⟨rfl, hb⟩; have n1 := Aside0.mk (HS.out.below hb); have n2 := Aside0.mk (HK.out.trans (Kp.below hb)); have n3 := Aside0.mk (HB.out.trans (hb.mono HS.out.b3)); clear HS HK HB; have HS := n1; have HK := n2; have HB := n3; clear n1 n2 n3; clear hb))
  go_returns
  refine ⟨?_, HS.out, HK.out, HB.out⟩
  first | (rw [HV.out]; done) | (rw [HV.out]; rfl) | (rw [HV.out, show wrap64 n = n by unfold wrap64; omega]; done) | (rw [HV.out, show wrap64 n = n by unfold wrap64; omega]; rfl)
set_option maxHeartbeats 8000000 in
set_option maxRecDepth 100000 in
theorem r_length (w : World) (base Rb Rd T off SZ : Nat) (A : Option Addr) (D : List Int) (C i : Nat) (hs : Sr w base Rb Rd T off SZ A D C i) (n : Int) (h0 : 0 ≤ n) (h1 : n < 2147483648) (hz : At D i (hib 4 n)) :
    Calls Try.prog 62 #[.pointer (some ⟨Rd, off, none⟩)] w fun e w' => e = .returned (.tuple #[.int .i64 n, .nilIface]) ∧ Done w w' base Rb Rd T off SZ A D C (i + 4) := by
  have HS := Aside0.mk hs
  have HK := Aside0.mk (Kp.refl w Rb Rd)
  have HB := Aside0.mk (Below.refl base w)
  have HZ0 := Aside0.mk (show hib 4 n = [n / 16777216 % 256, n / 65536 % 256, n / 256 % 256, n % 256] by simp [hib])
  rw [HZ0.out] at hz
  have HZ := Aside0.mk hz
  obtain ⟨z0, hz0⟩ : ∃ z, z = n / 16777216 % 256 := ⟨_, rfl⟩
  obtain ⟨z1, hz1⟩ : ∃ z, z = n / 65536 % 256 := ⟨_, rfl⟩
  obtain ⟨z2, hz2⟩ : ∃ z, z = n / 256 % 256 := ⟨_, rfl⟩
  obtain ⟨z3, hz3⟩ : ∃ z, z = n % 256 := ⟨_, rfl⟩
  rw [← hz0, ← hz1, ← hz2, ← hz3] at HZ
  have g0 : 0 ≤ z0 ∧ z0 < 256 := by omega
  have g1 : 0 ≤ z1 ∧ z1 < 256 := by omega
  have g2 : 0 ≤ z2 ∧ z2 < 256 := by omega
  have g3 : 0 ≤ z3 ∧ z3 < 256 := by omega
  have hv : (z0 * 16777216 + z1 * 65536 + z2 * 256 + z3) = n := by omega
  have d1 : decide ((2147483647 : Int) < z0 * 16777216 + z1 * 65536 + z2 * 256 + z3) = false := by simp; omega
  have HG0 := Aside0.mk g0
  have HG1 := Aside0.mk g1
  have HG2 := Aside0.mk g2
  have HG3 := Aside0.mk g3
  have HV := Aside0.mk hv
  clear hz hv HZ0 hz0 g0 hz1 g1 hz2 g2 hz3 g3
  clear hs
  go_enter Try.func62, Try.ntmps62
  go_wp2_with (first | (go_at_call 72; (with_reducible refine (rd_into4 _ base Rb Rd T off SZ A D C _ HS.out [z0, z1, z2, z3] HZ.out rfl).mono ?_); rintro e W1 ⟨rfl, hd⟩; have n1 := Aside0.mk hd.1; have n2 := Aside0.mk (HK.out.trans hd.2.2.1); have n3 := Aside0.mk (HB.out.trans hd.2.2.2); clear HS HK HB; have HS := n1; have HK := n2; have HB := n3; clear n1 n2 n3; have HCB := Aside0.mk hd.2.1; clear hd) | (go_at_call 75; (with_reducible refine (buint32 z0 z1 z2 z3 HG0.out HG1.out HG2.out HG3.out _ Rd (off + 2) 8 HCB.out).mono ?_); rintro e W1 ⟨rfl, hb⟩; have n1 := Aside0.mk (HS.out.below hb); have n2 := Aside0.mk (HK.out.trans (Kp.below hb)); have n3 := Aside0.mk (HB.out.trans (hb.mono HS.out.b3)); clear HS HK HB; have HS := n1; have HK := n2; have HB := n3; clear n1 n2 n3; clear hb))
  go_returns
  refine ⟨?_, HS.out, HK.out, HB.out⟩
  first | (rw [HV.out]; done) | (rw [HV.out]; rfl) | (rw [HV.out, show wrap64 n = n by unfold wrap64; omega]; done) | (rw [HV.out, show wrap64 n = n by unfold wrap64; omega]; rfl)
end Go.Proofs.Ytmjilokgpgajjaa.Th
