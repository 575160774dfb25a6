/- Written by thread.py (wip/tpl): what the binary reader's methods read. -/
import Derived.Test.YtmjilokgpgajjaaGreatSThN1
import Derived.Test.YtmjilokgpgajjaaGreatSThM1
import Derived.Handy
namespace Go.Proofs.YtmjilokgpgajjaaGreat.Th
open Go.RowKit Go.Proofs.YtmjilokgpgajjaaGreatW.PrintWords Go.Proofs.YtmjilokgpgajjaaGreatW.PrintLast Go.Proofs.YtmjilokgpgajjaaGreatW.PrintMore
set_option linter.unusedVariables false
set_option linter.unusedSimpArgs false
theorem blkof3 {w : World} {g : Nat} {t : TypeId} {a0 a1 a2 : Value} (h : w.heap[g]? = some (.cells #[a0, a1, a2] t (0, 0))) : w.cell? ⟨g, 0, none⟩ = some a0 ∧ w.cell? ⟨g, 1, none⟩ = some a1 ∧ w.cell? ⟨g, 2, none⟩ = some a2 ∧ g < w.heap.size := ⟨(blk_cell h 0).trans rfl, (blk_cell h 1).trans rfl, (blk_cell h 2).trans rfl, blk_lt h⟩
theorem blkof6 {w : World} {g : Nat} {t : TypeId} {a0 a1 a2 a3 a4 a5 : Value} (h : w.heap[g]? = some (.cells #[a0, a1, a2, a3, a4, a5] t (0, 0))) : w.cell? ⟨g, 0, none⟩ = some a0 ∧ w.cell? ⟨g, 1, none⟩ = some a1 ∧ w.cell? ⟨g, 2, none⟩ = some a2 ∧ w.cell? ⟨g, 3, none⟩ = some a3 ∧ w.cell? ⟨g, 4, none⟩ = some a4 ∧ w.cell? ⟨g, 5, none⟩ = some a5 ∧ g < w.heap.size := ⟨(blk_cell h 0).trans rfl, (blk_cell h 1).trans rfl, (blk_cell h 2).trans rfl, (blk_cell h 3).trans rfl, (blk_cell h 4).trans rfl, (blk_cell h 5).trans rfl, blk_lt h⟩
/-- A call that reads. -/
def Done (w w' : World) (base Rb Rd T off SZ : Nat) (A : Option Addr) (D : List Int) (C j : Nat) : Prop := Sr w' base Rb Rd T off SZ A D C j ∧ Kp w w' Rb Rd ∧ Below base w w'
section
variable {w w' : World} {base Rb Rd T off SZ : Nat} {A : Option Addr} {D : List Int} {C i j : Nat}
theorem Sr.ltb (h : Sr w base Rb Rd T off SZ A D C i) : Rb < w.heap.size := blk_lt h.hR
theorem Sr.ltd (h : Sr w base Rb Rd T off SZ A D C i) : Rd < w.heap.size := by obtain ⟨ws, h1, _⟩ := h.hQ; exact blk_lt h1
theorem Sr.new (h : Sr w base Rb Rd T off SZ A D C i) {B : Nat} (hB : B = w.heap.size) {w0 : World} (h0 : w0.heap.size ≤ w.heap.size) : B ≠ Rb ∧ B ≠ Rd ∧ base ≤ B ∧ w0.heap.size ≤ B := by
  have h1 := h.ltb
  have h2 := h.ltd
  have h3 := h.b3
  omega
theorem Kp.other {w W W1 : World} {Rb Rd B : Nat} (h : Kp w W Rb Rd) (hk : KeepBut W W1 B none) (hB : B ≠ Rb ∧ B ≠ Rd ∧ base ≤ B ∧ w.heap.size ≤ B) : Kp w W1 Rb Rd :=
  ⟨Nat.le_trans h.1 hk.1, fun k h1 h2 h3 => (hk.2 k (Nat.lt_of_lt_of_le h1 h.1) (by omega) (by simp)).trans (h.2 k h1 h2 h3)⟩
theorem Sr.other (h : Sr w base Rb Rd T off SZ A D C i) {B : Nat} {N : Nat} (hB : B ≠ Rb ∧ B ≠ Rd ∧ base ≤ B ∧ N ≤ B) (hk : KeepBut w w' B none) : Sr w' base Rb Rd T off SZ A D C i := by
  obtain ⟨ws, h3, h4⟩ := h.hQ
  exact ⟨hk.blk h.hR (Ne.symm hB.1) (by simp), Kd.F_step h.hD (fun k ho hk' => hk.2 k hk' (Nat.ne_of_lt (Nat.lt_of_lt_of_le ho hB.2.2.1)) (by simp)), ⟨ws, hk.blk h3 (Ne.symm hB.2.1) (by simp), h4⟩, h.hZ, h.n1, h.hC, h.hL, h.b1, h.b2, Nat.le_trans h.b3 hk.1⟩
end
set_option maxRecDepth 100000 in
theorem is_byter (S : Nat) (w : World) : Sem.run Tryz.prog (Instr.typeAssert (.iface 52 (.pointer (some ⟨S, 0, none⟩))) 156 186 true) w = .ok (.tuple #[.iface 52 (.pointer (some ⟨S, 0, none⟩)), .bool true]) w := by kernel_rfl
set_option maxHeartbeats 8000000 in
set_option maxRecDepth 100000 in
theorem r_byte (w : World) (base Rb Rd T off SZ : Nat) (A : Option Addr) (D : List Int) (C i : Nat) (hs : Sr w base Rb Rd T off SZ A D C i) (z : Int) (hz : At D i [z]) :
    Calls Tryz.prog 69 #[.pointer (some ⟨Rd, off, none⟩)] w fun e w' => e = .returned (.tuple #[.int .u8 z, .nilIface]) ∧ Done w w' base Rb Rd T off SZ A D C (i + 1) := by
  have HS := Aside0.mk hs
  have HK := Aside0.mk (Kp.refl w Rb Rd)
  have HB := Aside0.mk (Below.refl base w)
  have HZ := Aside0.mk hz
  obtain ⟨ws, h3, h4, h5, h6⟩ := hs.hQ
  have c1 : w.cell? ⟨Rd, off + 1, none⟩ = some (.iface 52 (.pointer (some ⟨Rb, 0, none⟩))) := (blk_cell h3 (off + 1)).trans h5
  have hta := is_byter Rb
  clear hz h3 h4 h5 h6
  clear hs
  go_enter Tryz.func69, Tryz.ntmps69
  go_wp2_with (first | (go_at_call 149; (with_reducible refine (rd_byte _ base Rb Rd T off SZ A D C _ z HS.out HZ.out).mono ?_); rintro e W1 ⟨rfl, hd⟩; have n1 := Aside0.mk hd.1; have n2 := Aside0.mk (HK.out.trans hd.2.1); have n3 := Aside0.mk (HB.out.trans hd.2.2); clear HS HK HB; have HS := n1; have HK := n2; have HB := n3; clear n1 n2 n3; clear hd))
  go_returns
  exact ⟨rfl, HS.out, HK.out, HB.out⟩
set_option maxHeartbeats 8000000 in
set_option maxRecDepth 100000 in
theorem r_int8 (w : World) (base Rb Rd T off SZ : Nat) (A : Option Addr) (D : List Int) (C i : Nat) (hs : Sr w base Rb Rd T off SZ A D C i) (z : Int) (hz : At D i [z]) :
    Calls Tryz.prog 61 #[.pointer (some ⟨Rd, off, none⟩)] w fun e w' => e = .returned (.tuple #[.int .i8 (IntKind.i8.wrap z), .nilIface]) ∧ Done w w' base Rb Rd T off SZ A D C (i + 1) := by
  have HS := Aside0.mk hs
  have HK := Aside0.mk (Kp.refl w Rb Rd)
  have HB := Aside0.mk (Below.refl base w)
  have HZ := Aside0.mk hz
  clear hz
  clear hs
  go_enter Tryz.func61, Tryz.ntmps61
  go_wp2_with (first | (go_at_call 69; (with_reducible refine (r_byte _ base Rb Rd T off SZ A D C _ HS.out z HZ.out).mono ?_); rintro e W1 ⟨rfl, hd⟩; have n1 := Aside0.mk hd.1; have n2 := Aside0.mk (HK.out.trans hd.2.1); have n3 := Aside0.mk (HB.out.trans hd.2.2); clear HS HK HB; have HS := n1; have HK := n2; have HB := n3; clear n1 n2 n3; clear hd))
  go_returns
  exact ⟨rfl, HS.out, HK.out, HB.out⟩
set_option maxHeartbeats 8000000 in
set_option maxRecDepth 100000 in
theorem r_int16 (w : World) (base Rb Rd T off SZ : Nat) (A : Option Addr) (D : List Int) (C i : Nat) (hs : Sr w base Rb Rd T off SZ A D C i) (n : Int) (h0 : -32768 ≤ n) (h1 : n < 32768) (hz : At D i (hib 2 n)) :
    Calls Tryz.prog 58 #[.pointer (some ⟨Rd, off, none⟩)] w fun e w' => e = .returned (.tuple #[.int .i16 n, .nilIface]) ∧ Done w w' base Rb Rd T off SZ A D C (i + 2) := by
  have HS := Aside0.mk hs
  have HK := Aside0.mk (Kp.refl w Rb Rd)
  have HB := Aside0.mk (Below.refl base w)
  have HZ0 := Aside0.mk (show hib 2 n = [n / 256 % 256, n % 256] by simp [hib])
  rw [HZ0.out] at hz
  have HZ := Aside0.mk hz
  obtain ⟨z0, hz0⟩ : ∃ z, z = n / 256 % 256 := ⟨_, rfl⟩
  obtain ⟨z1, hz1⟩ : ∃ z, z = n % 256 := ⟨_, rfl⟩
  rw [← hz0, ← hz1] at HZ
  have g0 : 0 ≤ z0 ∧ z0 < 256 := by omega
  have g1 : 0 ≤ z1 ∧ z1 < 256 := by omega
  have hv : IntKind.i16.wrap (z0 * 256 + z1) = n := by rw [show IntKind.i16.wrap (z0 * 256 + z1) = (z0 * 256 + z1 + 32768) % 65536 - 32768 by simp [IntKind.wrap, IntKind.signed, IntKind.bits, IntKind.min, IntKind.max]; omega]; omega
  have HG0 := Aside0.mk g0
  have HG1 := Aside0.mk g1
  have HV := Aside0.mk hv
  clear hz hv HZ0 hz0 g0 hz1 g1
  clear hs
  go_enter Tryz.func58, Tryz.ntmps58
  go_wp2_with (first | (go_at_call 72; (with_reducible refine (rd_into2 _ base Rb Rd T off SZ A D C _ HS.out [z0, z1] HZ.out rfl).mono ?_); rintro e W1 ⟨rfl, hd⟩; have n1 := Aside0.mk hd.1; have n2 := Aside0.mk (HK.out.trans hd.2.2.1); have n3 := Aside0.mk (HB.out.trans hd.2.2.2); clear HS HK HB; have HS := n1; have HK := n2; have HB := n3; clear n1 n2 n3; have HCB := Aside0.mk hd.2.1; clear hd) | (go_at_call 74; (with_reducible refine (buint16 z0 z1 HG0.out HG1.out _ Rd (off + 2) 8 HCB.out).mono ?_); rintro e W1 ⟨rfl, hb⟩; have n1 := Aside0.mk (HS.out.below hb); have n2 := Aside0.mk (HK.out.trans (Kp.below hb)); have n3 := Aside0.mk (HB.out.trans (hb.mono HS.out.b3)); clear HS HK HB; have HS := n1; have HK := n2; have HB := n3; clear n1 n2 n3; clear hb))
  go_returns
  refine ⟨?_, HS.out, HK.out, HB.out⟩
  first | (rw [HV.out]; done) | (rw [HV.out]; rfl) | (rw [HV.out, show wrap64 n = n by unfold wrap64; omega]; done) | (rw [HV.out, show wrap64 n = n by unfold wrap64; omega]; rfl)
end Go.Proofs.YtmjilokgpgajjaaGreat.Th

