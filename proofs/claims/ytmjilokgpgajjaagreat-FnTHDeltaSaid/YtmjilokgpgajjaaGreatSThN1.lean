/- Merged by merge.py (wip/tpl) out of ThRd1, ThRd2, ThRd3, ThRd4: A reader of bytes: one byte is read. A reader of bytes: many bytes are read into an array. A reader of a protocol: whole reads into its array, or into a new one. Written by thuint.py (wip/tpl): whole numbers out of bytes, the highest one first. -/
import Derived.Test.YtmjilokgpgajjaaGreatSThM1
import Derived.Deep.QuietTactic
import Derived.BigQuiet
import Derived.Laws.CopyOwn
import Derived.Deep.RegionLaw
import Derived.Deep.RegionWith
import Derived.RegionTactic
import Derived.Stop.Asserts
import Derived.Laws.BitsLemmas
namespace Go.Proofs.YtmjilokgpgajjaaGreat.Th
open Go.RowKit Go.Proofs.YtmjilokgpgajjaaGreatW.PrintWords Go.Proofs.YtmjilokgpgajjaaGreatW.PrintLast Go.Proofs.YtmjilokgpgajjaaGreatW.PrintMore
set_option linter.unusedVariables false
set_option linter.unusedSimpArgs false
/-- From place i on stand the numbers zs. -/
def At (D : List Int) (i : Nat) (zs : List Int) : Prop := ∃ pre post, D = pre ++ (zs ++ post) ∧ pre.length = i
theorem At.cat {D : List Int} {i : Nat} {xs ys : List Int} (h : At D i (xs ++ ys)) : At D i xs ∧ At D (i + xs.length) ys := by
  obtain ⟨pre, post, rfl, rfl⟩ := h
  exact ⟨⟨pre, ys ++ post, by simp, rfl⟩, ⟨pre ++ xs, post, by simp, by simp⟩⟩
theorem At.cons {D : List Int} {i : Nat} {x : Int} {ys : List Int} (h : At D i (x :: ys)) : At D i [x] ∧ At D (i + 1) ys := At.cat (xs := [x]) h
theorem At.le {D : List Int} {i : Nat} {zs : List Int} (h : At D i zs) : i + zs.length ≤ D.length := by
  obtain ⟨pre, post, rfl, rfl⟩ := h
  simp
theorem At.get {D : List Int} {i : Nat} {zs : List Int} (h : At D i zs) (k : Nat) (hk : k < zs.length) : D.getD (i + k) 0 = zs.getD k 0 := by
  obtain ⟨pre, post, rfl, rfl⟩ := h
  simp only [List.getD_eq_getElem?_getD]
  rw [List.getElem?_append_right (by omega), List.getElem?_append_left (by omega)]
  congr 2
  omega
theorem At.take {D : List Int} {i : Nat} {zs : List Int} (h : At D i zs) : (D.drop i).take zs.length = zs := by
  obtain ⟨pre, post, rfl, rfl⟩ := h
  simp
/-- A reader's block, the reader of the protocol over it, whose fields begin at place off of a block of SZ cells; and the bytes D, of which i are read. -/
structure Sr (w : World) (base Rb Rd T off SZ : Nat) (A : Option Addr) (D : List Int) (C : Nat) (i : Nat) : Prop where
  hR : w.heap[Rb]? = some (.cells #[.slice A D.length C, .int .i64 (i : Int)] 54 (0, 0))
  hD : Kd.F (Kd.int .u8) w (fun k => k < base) A D.length D
  hQ : ∃ ws : Array Value, w.heap[Rd]? = some (.cells ws T (0, 0)) ∧ ws.size = SZ ∧ ws[off + 1]? = some (.iface 52 (.pointer (some ⟨Rb, 0, none⟩))) ∧ (∀ k, k < 8 → ∃ b, ws[off + 2 + k]? = some (.int .u8 b))
  hZ : off + 10 ≤ SZ
  n1 : Rb ≠ Rd
  hC : D.length ≤ C
  hL : D.length < 4000000000
  b1 : base ≤ Rb
  b2 : base ≤ Rd
  b3 : base ≤ w.heap.size
/-- All other blocks are as they were. -/
def Kp (w w' : World) (Rb Rd : Nat) : Prop := w.heap.size ≤ w'.heap.size ∧ ∀ k, k < w.heap.size → k ≠ Rb → k ≠ Rd → w'.heap[k]? = w.heap[k]?
theorem Kp.refl (w : World) (Rb Rd : Nat) : Kp w w Rb Rd := ⟨Nat.le_refl _, fun _ _ _ _ => rfl⟩
theorem Kp.trans {w w1 w2 : World} {Rb Rd : Nat} (h : Kp w w1 Rb Rd) (k : Kp w1 w2 Rb Rd) : Kp w w2 Rb Rd := ⟨Nat.le_trans h.1 k.1, fun i h1 h2 h3 => (k.2 i (Nat.lt_of_lt_of_le h1 h.1) h2 h3).trans (h.2 i h1 h2 h3)⟩
theorem Kp.below {w w' : World} {Rb Rd : Nat} (h : Below w.heap.size w w') : Kp w w' Rb Rd := ⟨h.size, fun k hk _ _ => h.block k hk⟩
theorem Kp.keepb {w w' : World} {Rb Rd : Nat} (h : KeepBut w w' Rb none) : Kp w w' Rb Rd := ⟨h.1, fun k hk h1 _ => h.2 k hk h1 (by simp)⟩
theorem Kp.blk {w w' : World} {Rb Rd g : Nat} {o : Obj} (h : Kp w w' Rb Rd) (ho : w.heap[g]? = some o) (h1 : g ≠ Rb) (h2 : g ≠ Rd) : w'.heap[g]? = some o := (h.2 g (blk_lt ho) h1 h2).trans ho
section
variable {w w' : World} {base Rb Rd T off SZ : Nat} {A : Option Addr} {D : List Int} {C i j : Nat}
theorem Sr.below (h : Sr w base Rb Rd T off SZ A D C i) (hb : Below w.heap.size w w') : Sr w' base Rb Rd T off SZ A D C i := by
  obtain ⟨ws, h3, h4⟩ := h.hQ
  exact ⟨blk_below h.hR hb, Kd.F_step h.hD (fun k _ hk => hb.block k hk), ⟨ws, blk_below h3 hb, h4⟩, h.hZ, h.n1, h.hC, h.hL, h.b1, h.b2, Nat.le_trans h.b3 hb.size⟩
theorem Sr.drew (h : Sr w base Rb Rd T off SZ A D C i) : Sr w.drew base Rb Rd T off SZ A D C i := h.below (below_drew (Below.refl _ _))
/-- The reader itself has turned. -/
theorem Sr.turn (h : Sr w base Rb Rd T off SZ A D C i) (hk : KeepBut w w' Rb none) (hr : w'.heap[Rb]? = some (.cells #[.slice A D.length C, .int .i64 (j : Int)] 54 (0, 0))) : Sr w' base Rb Rd T off SZ A D C j := by
  obtain ⟨ws, h3, h4⟩ := h.hQ
  exact ⟨hr, Kd.F_step h.hD (fun k ho hk' => hk.2 k hk' (Nat.ne_of_lt (Nat.lt_of_lt_of_le ho h.b1)) (by simp)), ⟨ws, hk.blk h3 (Ne.symm h.n1) (by simp), h4⟩, h.hZ, h.n1, h.hC, h.hL, h.b1, h.b2, Nat.le_trans h.b3 hk.1⟩
/-- Bytes are written into the array of the protocol's reader. -/
theorem Sr.bytes (h : Sr w base Rb Rd T off SZ A D C i) {ws : Array Value} (hw : w.heap[Rd]? = some (.cells ws T (0, 0))) (bs : List Int) (hb1 : w'.heap[Rd]? = some (.cells (setBytes ws (off + 2) bs) T (0, 0))) (hl : bs.length ≤ 8) (hk : KeepBut w w' Rd none) : Sr w' base Rb Rd T off SZ A D C i := by
  obtain ⟨ws', h3, h4, h5, h6⟩ := h.hQ
  obtain rfl : ws' = ws := by
    have := h3.symm.trans hw
    injection this with this
    injection this
  refine ⟨hk.blk h.hR h.n1 (by simp), Kd.F_step h.hD (fun k ho hk' => hk.2 k hk' (Nat.ne_of_lt (Nat.lt_of_lt_of_le ho h.b2)) (by simp)), ⟨_, hb1, by rw [setBytes_size]; exact h4, by rw [setBytes_other _ _ _ _ (by omega)]; exact h5, fun k hk8 => ?_⟩, h.hZ, h.n1, h.hC, h.hL, h.b1, h.b2, Nat.le_trans h.b3 hk.1⟩
  by_cases hi2 : bs.length ≤ k
  · rw [setBytes_other _ _ _ _ (by omega)]
    exact h6 k hk8
  · have hz := h.hZ
    exact ⟨_, setBytes_at bs ws' (off + 2) k (by omega) (by omega)⟩
/-- A byte of the data, where it lies. -/
theorem Sr.cell (h : Sr w base Rb Rd T off SZ A D C i) (k : Nat) (hk : k < D.length) : ∃ a, A = some a ∧ w.cell? (a.add k) = some (.int .u8 (D.getD k 0)) := by
  have hc := Kd.F_now h.hD
  have hr := Kd.reads_of_C (d := (0 : Int)) hc
  obtain ⟨a, e, hh⟩ := hr.2.2 (by omega)
  exact ⟨a, e, hh k hk⟩
end
set_option maxHeartbeats 4000000 in
set_option maxRecDepth 100000 in
theorem rd_byte (w : World) (base Rb Rd T off SZ : Nat) (A : Option Addr) (D : List Int) (C i : Nat) (b : Int) (hs : Sr w base Rb Rd T off SZ A D C i) (hb : At D i [b]) :
    Calls Tryz.prog 149 #[.pointer (some ⟨Rb, 0, none⟩)] w fun e w' => e = .returned (.tuple #[.int .u8 b, .nilIface]) ∧ Sr w' base Rb Rd T off SZ A D C (i + 1) ∧ Kp w w' Rb Rd ∧ Below base w w' := by
  have hle := hb.le
  simp only [List.length_cons, List.length_nil] at hle
  obtain ⟨a, hA, hcell⟩ := hs.cell i (by omega)
  have hget := hb.get 0 (by simp)
  rw [Nat.add_zero] at hget
  rw [hget] at hcell
  have hcell2 : w.cell? (a.add i) = some (.int .u8 b) := hcell
  have hL := hs.hL
  have HS := Aside0.mk hs
  subst hA
  have BK := Aside0.mk hs.hR
  have hlt := blk_lt hs.hR
  have c0 : w.cell? ⟨Rb, 0, none⟩ = some (.slice (some a) D.length C) := (blk_cell hs.hR 0).trans rfl
  have c1 : w.cell? ⟨Rb, 1, none⟩ = some (.int .i64 (i : Int)) := (blk_cell hs.hR 1).trans rfl
  have d1 : decide ((D.length : Int) ≤ (i : Int)) = false := by simp; omega
  have HG := Aside0.mk hget
  clear hb hget hcell hs
  obtain ⟨L, hLL⟩ : ∃ L, L = D.length := ⟨_, rfl⟩
  have HLL := Aside0.mk hLL
  rw [← hLL] at c0 d1 hle hL BK
  clear hLL
  go_enter Tryz.func149, Tryz.ntmps149
  go_wp2
  go_quiet (fail)
  go_upto_region 4 with ((with_reducible refine gate_st rfl ?_); refine store_any _ _ _ rfl rfl rfl BK.out rfl (by simp) rfl rfl rfl (by kernel_rfl) ?_; intro W2 hb2 hk2 hg2; have HSB := Aside0.mk hb2; have HK2 := Aside0.mk hk2; have HG2 := Aside0.mk hg2; clear hb2 hk2 hg2)
  have hk := HK2.out
  have hr : W2.heap[Rb]? = some (.cells #[.slice (some a) D.length C, .int .i64 ((i + 1 : Nat) : Int)] 54 (0, 0)) := by have h := HSB.out; rw [HLL.out] at h; exact h
  have hs2 := HS.out.turn (j := i + 1) hk hr
  obtain ⟨a2, hA2, hcell3⟩ := hs2.cell i (by rw [← HLL.out]; omega)
  obtain rfl : a = a2 := Option.some.inj hA2
  rw [← HG.out.symm] at hcell3
  have hcell4 : W2.cell? (a.add i) = some (.int .u8 b) := hcell3
  have HS2 := Aside0.mk hs2
  have HKP := Aside0.mk (Kp.keepb (Rd := Rd) hk)
  have HB2 := Aside0.mk (HG2.out.mono HS.out.b1)
  rw [← HLL.out] at hr
  have r0 : W2.cell? ⟨Rb, 0, none⟩ = some (.slice (some a) L C) := (blk_cell hr 0).trans rfl
  have r1 : W2.cell? ⟨Rb, 1, none⟩ = some (.int .i64 ((i : Int) + 1)) := (blk_cell hr 1).trans (by simp)
  have hltR := blk_lt hr
  clear hk hr hs2 hcell3 hA2 HSB HK2 HG2
  have h0 : (0 : Int) ≤ (i : Int) := by omega
  have h1 : (i : Int) < (L : Int) := by omega
  have e1 : IntKind.i64.wrap ((i : Int) + 1 - 1) = (i : Int) := by rw [IntKind.wrap_i64]; omega
  have e2 : (i : Int).toNat = i := by omega
  go_quiet (fail)
  go_wp2_with fail
  go_ret2
  exact ⟨rfl, HS2.out.below (pw_below_drewN (Below.refl _ _) _), HKP.out.trans (Kp.below (pw_below_drewN (Below.refl _ _) _)), (pw_below_drewN (Below.refl base w) _).trans (pw_below_drewN HB2.out _)⟩
end Go.Proofs.YtmjilokgpgajjaaGreat.Th

namespace Go.Proofs.YtmjilokgpgajjaaGreat.Th
open Go.RowKit Go.Proofs.YtmjilokgpgajjaaGreatW.PrintWords Go.Proofs.YtmjilokgpgajjaaGreatW.PrintLast Go.Proofs.YtmjilokgpgajjaaGreatW.PrintMore
set_option linter.unusedVariables false
set_option linter.unusedSimpArgs false
end Go.Proofs.YtmjilokgpgajjaaGreat.Th

namespace Go.Proofs.YtmjilokgpgajjaaGreat.Th
open Go.RowKit Go.Proofs.YtmjilokgpgajjaaGreatW.PrintWords Go.Proofs.YtmjilokgpgajjaaGreatW.PrintLast Go.Proofs.YtmjilokgpgajjaaGreatW.PrintMore
set_option linter.unusedVariables false
set_option linter.unusedSimpArgs false
section
variable {w w' : World} {base Rb Rd T off SZ : Nat} {A : Option Addr} {D : List Int} {C i m G To o : Nat} {ws : Array Value} {zs : List Int}
end
end Go.Proofs.YtmjilokgpgajjaaGreat.Th

namespace Go.Proofs.YtmjilokgpgajjaaGreat.Th
open Go.RowKit Go.Proofs.YtmjilokgpgajjaaGreatW.PrintWords Go.Proofs.YtmjilokgpgajjaaGreatW.PrintLast Go.Proofs.YtmjilokgpgajjaaGreatW.PrintMore
set_option linter.unusedVariables false
set_option linter.unusedSimpArgs false
theorem add_at (G o j : Nat) : (⟨G, o, none⟩ : Addr).add j = ⟨G, o + j, none⟩ := by unfold Addr.add; split <;> simp_all
end Go.Proofs.YtmjilokgpgajjaaGreat.Th

