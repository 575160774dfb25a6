/- Merged by merge.py (wip/tpl) out of ThRd1, ThRd2, ThRd3, ThRd4: A reader of bytes: one byte is read. A reader of bytes: many bytes are read into an array. A reader of a protocol: whole reads into its array, or into a new one. Written by thuint.py (wip/tpl): whole numbers out of bytes, the highest one first. -/
import Derived.Test.YtmjilokgpgajjaaGreatSThM1
import Derived.Deep.QuietTactic
import Derived.BigQuiet
import Derived.Laws.CopyOwn
import Derived.Deep.RegionLaw
import Derived.Deep.RegionWith
import Derived.RegionTactic
import Derived.Stop.Asserts
import Derived.Laws.BitsLemmas
namespace Go.Proofs.YtmjilokgpgajjaaGreat.Th
open Go.RowKit Go.Proofs.YtmjilokgpgajjaaGreatW.PrintWords Go.Proofs.YtmjilokgpgajjaaGreatW.PrintLast Go.Proofs.YtmjilokgpgajjaaGreatW.PrintMore
set_option linter.unusedVariables false
set_option linter.unusedSimpArgs false
/-- From place i on stand the numbers zs. -/
def At (D : List Int) (i : Nat) (zs : List Int) : Prop := ∃ pre post, D = pre ++ (zs ++ post) ∧ pre.length = i
theorem At.cat {D : List Int} {i : Nat} {xs ys : List Int} (h : At D i (xs ++ ys)) : At D i xs ∧ At D (i + xs.length) ys := by
  obtain ⟨pre, post, rfl, rfl⟩ := h
  exact ⟨⟨pre, ys ++ post, by simp, rfl⟩, ⟨pre ++ xs, post, by simp, by simp⟩⟩
theorem At.cons {D : List Int} {i : Nat} {x : Int} {ys : List Int} (h : At D i (x :: ys)) : At D i [x] ∧ At D (i + 1) ys := At.cat (xs := [x]) h
theorem At.le {D : List Int} {i : Nat} {zs : List Int} (h : At D i zs) : i + zs.length ≤ D.length := by
  obtain ⟨pre, post, rfl, rfl⟩ := h
  simp
theorem At.get {D : List Int} {i : Nat} {zs : List Int} (h : At D i zs) (k : Nat) (hk : k < zs.length) : D.getD (i + k) 0 = zs.getD k 0 := by
  obtain ⟨pre, post, rfl, rfl⟩ := h
  simp only [List.getD_eq_getElem?_getD]
  rw [List.getElem?_append_right (by omega), List.getElem?_append_left (by omega)]
  congr 2
  omega
theorem At.take {D : List Int} {i : Nat} {zs : List Int} (h : At D i zs) : (D.drop i).take zs.length = zs := by
  obtain ⟨pre, post, rfl, rfl⟩ := h
  simp
/-- A reader's block, the reader of the protocol over it, whose fields begin at place off of a block of SZ cells; and the bytes D, of which i are read. -/
structure Sr (w : World) (base Rb Rd T off SZ : Nat) (A : Option Addr) (D : List Int) (C : Nat) (i : Nat) : Prop where
  hR : w.heap[Rb]? = some (.cells #[.slice A D.length C, .int .i64 (i : Int)] 54 (0, 0))
  hD : Kd.F (Kd.int .u8) w (fun k => k < base) A D.length D
  hQ : ∃ ws : Array Value, w.heap[Rd]? = some (.cells ws T (0, 0)) ∧ ws.size = SZ ∧ ws[off + 1]? = some (.iface 52 (.pointer (some ⟨Rb, 0, none⟩))) ∧ (∀ k, k < 8 → ∃ b, ws[off + 2 + k]? = some (.int .u8 b))
  hZ : off + 10 ≤ SZ
  n1 : Rb ≠ Rd
  hC : D.length ≤ C
  hL : D.length < 4000000000
  b1 : base ≤ Rb
  b2 : base ≤ Rd
  b3 : base ≤ w.heap.size
/-- All other blocks are as they were. -/
def Kp (w w' : World) (Rb Rd : Nat) : Prop := w.heap.size ≤ w'.heap.size ∧ ∀ k, k < w.heap.size → k ≠ Rb → k ≠ Rd → w'.heap[k]? = w.heap[k]?
theorem Kp.refl (w : World) (Rb Rd : Nat) : Kp w w Rb Rd := ⟨Nat.le_refl _, fun _ _ _ _ => rfl⟩
theorem Kp.trans {w w1 w2 : World} {Rb Rd : Nat} (h : Kp w w1 Rb Rd) (k : Kp w1 w2 Rb Rd) : Kp w w2 Rb Rd := ⟨Nat.le_trans h.1 k.1, fun i h1 h2 h3 => (k.2 i (Nat.lt_of_lt_of_le h1 h.1) h2 h3).trans (h.2 i h1 h2 h3)⟩
theorem Kp.below {w w' : World} {Rb Rd : Nat} (h : Below w.heap.size w w') : Kp w w' Rb Rd := ⟨h.size, fun k hk _ _ => h.block k hk⟩
theorem Kp.keepb {w w' : World} {Rb Rd : Nat} (h : KeepBut w w' Rb none) : Kp w w' Rb Rd := ⟨h.1, fun k hk h1 _ => h.2 k hk h1 (by simp)⟩
theorem Kp.keepd {w w' : World} {Rb Rd : Nat} (h : KeepBut w w' Rd none) : Kp w w' Rb Rd := ⟨h.1, fun k hk _ h1 => h.2 k hk h1 (by simp)⟩
theorem Kp.blk {w w' : World} {Rb Rd g : Nat} {o : Obj} (h : Kp w w' Rb Rd) (ho : w.heap[g]? = some o) (h1 : g ≠ Rb) (h2 : g ≠ Rd) : w'.heap[g]? = some o := (h.2 g (blk_lt ho) h1 h2).trans ho
section
variable {w w' : World} {base Rb Rd T off SZ : Nat} {A : Option Addr} {D : List Int} {C i j : Nat}
theorem Sr.below (h : Sr w base Rb Rd T off SZ A D C i) (hb : Below w.heap.size w w') : Sr w' base Rb Rd T off SZ A D C i := by
  obtain ⟨ws, h3, h4⟩ := h.hQ
  exact ⟨blk_below h.hR hb, Kd.F_step h.hD (fun k _ hk => hb.block k hk), ⟨ws, blk_below h3 hb, h4⟩, h.hZ, h.n1, h.hC, h.hL, h.b1, h.b2, Nat.le_trans h.b3 hb.size⟩
theorem Sr.drew (h : Sr w base Rb Rd T off SZ A D C i) : Sr w.drew base Rb Rd T off SZ A D C i := h.below (below_drew (Below.refl _ _))
/-- The reader itself has turned. -/
theorem Sr.turn (h : Sr w base Rb Rd T off SZ A D C i) (hk : KeepBut w w' Rb none) (hr : w'.heap[Rb]? = some (.cells #[.slice A D.length C, .int .i64 (j : Int)] 54 (0, 0))) : Sr w' base Rb Rd T off SZ A D C j := by
  obtain ⟨ws, h3, h4⟩ := h.hQ
  exact ⟨hr, Kd.F_step h.hD (fun k ho hk' => hk.2 k hk' (Nat.ne_of_lt (Nat.lt_of_lt_of_le ho h.b1)) (by simp)), ⟨ws, hk.blk h3 (Ne.symm h.n1) (by simp), h4⟩, h.hZ, h.n1, h.hC, h.hL, h.b1, h.b2, Nat.le_trans h.b3 hk.1⟩
/-- Bytes are written into the array of the protocol's reader. -/
theorem Sr.bytes (h : Sr w base Rb Rd T off SZ A D C i) {ws : Array Value} (hw : w.heap[Rd]? = some (.cells ws T (0, 0))) (bs : List Int) (hb1 : w'.heap[Rd]? = some (.cells (setBytes ws (off + 2) bs) T (0, 0))) (hl : bs.length ≤ 8) (hk : KeepBut w w' Rd none) : Sr w' base Rb Rd T off SZ A D C i := by
  obtain ⟨ws', h3, h4, h5, h6⟩ := h.hQ
  obtain rfl : ws' = ws := by
    have := h3.symm.trans hw
    injection this with this
    injection this
  refine ⟨hk.blk h.hR h.n1 (by simp), Kd.F_step h.hD (fun k ho hk' => hk.2 k hk' (Nat.ne_of_lt (Nat.lt_of_lt_of_le ho h.b2)) (by simp)), ⟨_, hb1, by rw [setBytes_size]; exact h4, by rw [setBytes_other _ _ _ _ (by omega)]; exact h5, fun k hk8 => ?_⟩, h.hZ, h.n1, h.hC, h.hL, h.b1, h.b2, Nat.le_trans h.b3 hk.1⟩
  by_cases hi2 : bs.length ≤ k
  · rw [setBytes_other _ _ _ _ (by omega)]
    exact h6 k hk8
  · have hz := h.hZ
    exact ⟨_, setBytes_at bs ws' (off + 2) k (by omega) (by omega)⟩
/-- A byte of the data, where it lies. -/
theorem Sr.cell (h : Sr w base Rb Rd T off SZ A D C i) (k : Nat) (hk : k < D.length) : ∃ a, A = some a ∧ w.cell? (a.add k) = some (.int .u8 (D.getD k 0)) := by
  have hc := Kd.F_now h.hD
  have hr := Kd.reads_of_C (d := (0 : Int)) hc
  obtain ⟨a, e, hh⟩ := hr.2.2 (by omega)
  exact ⟨a, e, hh k hk⟩
end
set_option maxHeartbeats 4000000 in
set_option maxRecDepth 100000 in
theorem rd_byte (w : World) (base Rb Rd T off SZ : Nat) (A : Option Addr) (D : List Int) (C i : Nat) (b : Int) (hs : Sr w base Rb Rd T off SZ A D C i) (hb : At D i [b]) :
    Calls Tryz.prog 149 #[.pointer (some ⟨Rb, 0, none⟩)] w fun e w' => e = .returned (.tuple #[.int .u8 b, .nilIface]) ∧ Sr w' base Rb Rd T off SZ A D C (i + 1) ∧ Kp w w' Rb Rd ∧ Below base w w' := by
  have hle := hb.le
  simp only [List.length_cons, List.length_nil] at hle
  obtain ⟨a, hA, hcell⟩ := hs.cell i (by omega)
  have hget := hb.get 0 (by simp)
  rw [Nat.add_zero] at hget
  rw [hget] at hcell
  have hcell2 : w.cell? (a.add i) = some (.int .u8 b) := hcell
  have hL := hs.hL
  have HS := Aside0.mk hs
  subst hA
  have BK := Aside0.mk hs.hR
  have hlt := blk_lt hs.hR
  have c0 : w.cell? ⟨Rb, 0, none⟩ = some (.slice (some a) D.length C) := (blk_cell hs.hR 0).trans rfl
  have c1 : w.cell? ⟨Rb, 1, none⟩ = some (.int .i64 (i : Int)) := (blk_cell hs.hR 1).trans rfl
  have d1 : decide ((D.length : Int) ≤ (i : Int)) = false := by simp; omega
  have HG := Aside0.mk hget
  clear hb hget hcell hs
  obtain ⟨L, hLL⟩ : ∃ L, L = D.length := ⟨_, rfl⟩
  have HLL := Aside0.mk hLL
  rw [← hLL] at c0 d1 hle hL BK
  clear hLL
  go_enter Tryz.func149, Tryz.ntmps149
  go_wp2
  go_quiet (fail)
  go_upto_region 4 with ((with_reducible refine gate_st rfl ?_); refine store_any _ _ _ rfl rfl rfl BK.out rfl (by simp) rfl rfl rfl (by kernel_rfl) ?_; intro W2 hb2 hk2 hg2; have HSB := Aside0.mk hb2; have HK2 := Aside0.mk hk2; have HG2 := Aside0.mk hg2; clear hb2 hk2 hg2)
  have hk := HK2.out
  have hr : W2.heap[Rb]? = some (.cells #[.slice (some a) D.length C, .int .i64 ((i + 1 : Nat) : Int)] 54 (0, 0)) := by have h := HSB.out; rw [HLL.out] at h; exact h
  have hs2 := HS.out.turn (j := i + 1) hk hr
  obtain ⟨a2, hA2, hcell3⟩ := hs2.cell i (by rw [← HLL.out]; omega)
  obtain rfl : a = a2 := Option.some.inj hA2
  rw [← HG.out.symm] at hcell3
  have hcell4 : W2.cell? (a.add i) = some (.int .u8 b) := hcell3
  have HS2 := Aside0.mk hs2
  have HKP := Aside0.mk (Kp.keepb (Rd := Rd) hk)
  have HB2 := Aside0.mk (HG2.out.mono HS.out.b1)
  rw [← HLL.out] at hr
  have r0 : W2.cell? ⟨Rb, 0, none⟩ = some (.slice (some a) L C) := (blk_cell hr 0).trans rfl
  have r1 : W2.cell? ⟨Rb, 1, none⟩ = some (.int .i64 ((i : Int) + 1)) := (blk_cell hr 1).trans (by simp)
  have hltR := blk_lt hr
  clear hk hr hs2 hcell3 hA2 HSB HK2 HG2
  have h0 : (0 : Int) ≤ (i : Int) := by omega
  have h1 : (i : Int) < (L : Int) := by omega
  have e1 : IntKind.i64.wrap ((i : Int) + 1 - 1) = (i : Int) := by rw [IntKind.wrap_i64]; omega
  have e2 : (i : Int).toNat = i := by omega
  go_quiet (fail)
  go_wp2_with fail
  go_ret2
  exact ⟨rfl, HS2.out.below (pw_below_drewN (Below.refl _ _) _), HKP.out.trans (Kp.below (pw_below_drewN (Below.refl _ _) _)), (pw_below_drewN (Below.refl base w) _).trans (pw_below_drewN HB2.out _)⟩
end Go.Proofs.YtmjilokgpgajjaaGreat.Th

namespace Go.Proofs.YtmjilokgpgajjaaGreat.Th
open Go.RowKit Go.Proofs.YtmjilokgpgajjaaGreatW.PrintWords Go.Proofs.YtmjilokgpgajjaaGreatW.PrintLast Go.Proofs.YtmjilokgpgajjaaGreatW.PrintMore
set_option linter.unusedVariables false
set_option linter.unusedSimpArgs false
theorem setBytes_list : ∀ (bs : List Int) (ws : Array Value) (o : Nat), o + bs.length ≤ ws.size → setBytes ws o bs = (ws.toList.take o ++ (nums .u8 bs ++ ws.toList.drop (o + bs.length))).toArray := by
  intro bs ws o h
  apply Array.ext_getElem?
  intro j
  rcases (by omega : j < o ∨ (o ≤ j ∧ j < o + bs.length) ∨ o + bs.length ≤ j) with h1 | ⟨h1, h2⟩ | h1
  · rw [setBytes_other _ _ _ _ (.inl h1)]
    simp only [List.getElem?_toArray]
    rw [List.getElem?_append_left (by simp; omega)]
    simp [h1]
  · have := setBytes_at bs ws o (j - o) h (by omega)
    rw [show o + (j - o) = j by omega] at this
    rw [this]
    simp only [List.getElem?_toArray]
    rw [List.getElem?_append_right (by simp; omega), List.getElem?_append_left (by simp [nums]; omega)]
    simp [nums, show min o ws.size = o by omega, show j - o < bs.length by omega]
  · rw [setBytes_other _ _ _ _ (.inr h1)]
    simp only [List.getElem?_toArray]
    rw [List.getElem?_append_right (by simp; omega), List.getElem?_append_right (by simp [nums]; omega)]
    simp [nums, show min o ws.size = o by omega, show o + bs.length + (j - o - bs.length) = j by omega]
open Go.RowKit in
/-- Bytes are copied into an array, in a region that draws its order. -/
theorem copy_step {P : Program} {ops : Array Oper} {o : Oper} {a : Act} {W : World} {K : Act → World → Prop} {Q : Exit → Act → World → Prop} {E : Prop} (hgd : o.guard = none) (d s : Operand) (dT sT : TypeId)
    (ho : o.op = .call { callee := .builtin .copy, args := #[d, s], argTypes := #[dT, sT] }) (elem : TypeId) (hu : P.underlying dT = some (.slice elem)) (hsz : (P.info? elem).map (·.size) = some 1)
    (sp : Option Addr) (g off m dCap sLen sCap t : Nat) (hd : a.eval d = .slice (some ⟨g, off, none⟩) m dCap) (hs : a.eval s = .slice sp sLen sCap)
    {ws : Array Value} (hg : W.heap[g]? = some (.cells ws t (0, 0))) (ys zs : List Int) (hl : zs.length = m) (hm : m ≤ sLen) (hm0 : 0 < m) (hsrc : ReadsInt W .u8 sp sLen ys) (htk : ys.take m = zs) (hfit : off + m ≤ ws.size)
    (h : ∀ w', w'.heap[g]? = some (.cells (setBytes ws off zs) t (0, 0)) → KeepBut W w' g none → Below g W w' → K (a.put o.dst (goInt (m : Int))) w') :
    if Region.wanted o (yielded ops a.tmps) = true then Oper.wp P o a W K Q else E := by
  have hw : Region.wanted o (yielded ops a.tmps) = true := by simp [Region.wanted, hgd]
  rw [if_pos hw]
  obtain ⟨ad, rfl, hc⟩ := hsrc.2.2 (by omega)
  have hcl : (nums .u8 zs).length = m := by simp [nums, hl]
  have hrun := run_copy_row (P := P) W dT sT o.type elem g off m dCap ad sLen sCap ws t (nums .u8 zs) hu hsz hg (by rw [hcl]; exact (Nat.min_eq_right hm).symm) (fun j v hj => by
    have hjl : j < zs.length := by
      have := (List.getElem?_eq_some_iff.1 hj).1
      simpa [nums] using this
    have hv : v = .int .u8 (zs.getD j 0) := by
      rw [nums, List.getElem?_map, List.getElem?_eq_getElem hjl] at hj
      simp at hj
      rw [← hj, List.getD_eq_getElem?_getD, List.getElem?_eq_getElem hjl]
      rfl
    rw [hv, ← htk]
    have := hc j (by omega)
    rw [this]
    congr 2
    simp only [List.getD_eq_getElem?_getD]
    rw [List.getElem?_take_of_lt (by omega)]) (by rw [hcl]; exact hfit) (by simp [nums]; intro v _; rfl)
  have hset : (ws.toList.take off ++ (nums .u8 zs ++ ws.toList.drop (off + (nums .u8 zs).length))).toArray = setBytes ws off zs := by rw [setBytes_list _ _ _ (by omega), hcl, hl]
  rw [List.append_assoc, hset] at hrun
  unfold Oper.wp
  simp [execOp, ho, resolve, invoke, builtin, hd, hs, hrun, Result.andThen]
  rw [hcl]
  exact h _ (setRow_heap W g _ _ t _ hg) ⟨by simp, fun k _ hk _ => setRow_other W g k _ hk⟩ (below_setRow (Below.refl g W) (Nat.le_refl g) _)
theorem info5s : (Tryz.prog.info? 5).map (·.size) = some 1 := by kernel_rfl
set_option maxHeartbeats 8000000 in
set_option maxRecDepth 100000 in
theorem rd_read (w : World) (base Rb Rd T off SZ : Nat) (A : Option Addr) (D : List Int) (C i : Nat) (hs : Sr w base Rb Rd T off SZ A D C i) (G To o : Nat) (ws : Array Value) (hG : w.heap[G]? = some (.cells ws To (0, 0))) (hGn : G ≠ Rb) (hGb : base ≤ G) (m c : Nat) (hm : 0 < m) (hsz : o + m ≤ ws.size) (zs : List Int) (hz : At D i zs) (hl : zs.length = m) :
    Calls Tryz.prog 148 #[.pointer (some ⟨Rb, 0, none⟩), .slice (some ⟨G, o, none⟩) m c] w fun e w' => e = .returned (.tuple #[.int .i64 (m : Int), .nilIface]) ∧ w'.heap[G]? = some (.cells (setBytes ws o zs) To (0, 0)) ∧ w'.heap[Rb]? = some (.cells #[.slice A D.length C, .int .i64 ((i + m : Nat) : Int)] 54 (0, 0)) ∧ Kp w w' Rb G ∧ Below base w w' := by
  have hle := hz.le
  rw [hl] at hle
  have hL := hs.hL
  have hC := hs.hC
  have HS := Aside0.mk hs
  have HGB := Aside0.mk hGb
  obtain ⟨info, hinfo, hsize⟩ := Option.map_eq_some_iff.1 info5s
  obtain ⟨A', hcut, hrd⟩ := print_cut (P := Tryz.prog) 28 5 .i64 Tryz.underlying28 hinfo hsize A D.length C i (by omega)
  have hsrc := hrd w .u8 D hC (Kd.reads_of_C (d := (0 : Int)) (Kd.F_now hs.hD))
  have HSRC := Aside0.mk (show ReadsInt w .u8 A' (D.length - i) (D.drop i) from hsrc)
  have HTK := Aside0.mk (show (D.drop i).take m = zs by rw [← hl]; exact hz.take)
  have HCUT := Aside0.mk hcut
  have HLE := Aside0.mk (show m ≤ D.length - i by omega)
  have BK := Aside0.mk hs.hR
  have BG := Aside0.mk hG
  have HFIT := Aside0.mk hsz
  have HZL := Aside0.mk hl
  have hlt := blk_lt hs.hR
  have hltG := blk_lt hG
  have c0 : w.cell? ⟨Rb, 0, none⟩ = some (.slice A D.length C) := (blk_cell hs.hR 0).trans rfl
  have c1 : w.cell? ⟨Rb, 1, none⟩ = some (.int .i64 (i : Int)) := (blk_cell hs.hR 1).trans rfl
  have d1 : decide ((D.length : Int) ≤ (i : Int)) = false := by simp; omega
  obtain ⟨L, hLL⟩ : ∃ L, L = D.length := ⟨_, rfl⟩
  have HLL := Aside0.mk hLL
  rw [← hLL] at c0 d1 hle hL hC BK HSRC HCUT HLE
  have hcut2 := HCUT.out
  clear hLL hcut hrd hsrc hs hG hsz hz hl hinfo hsize
  go_enter Tryz.func148, Tryz.ntmps148
  go_wp2
  go_quiet (fail)
  go_wp2_with fail
  rename_i nq
  go_region_law (refine copy_step rfl (.tmp 18) (.tmp 27) 28 28 rfl 5 Tryz.underlying28 info5s A' G o m c (L - i) (C - i) To rfl rfl BG.out (D.drop i) zs HZL.out HLE.out hm HSRC.out HTK.out HFIT.out ?_; intro w2 hb2 hk2 hg2; have HB2 := Aside0.mk hb2; have HK2 := Aside0.mk hk2; have HG2 := Aside0.mk hg2; clear hb2 hk2 hg2)
  all_goals
    have hr := HK2.out.blk BK.out (Ne.symm hGn) (by simp)
    have BK2 := Aside0.mk hr
    have r0 : w2.cell? ⟨Rb, 0, none⟩ = some (.slice A L C) := (blk_cell hr 0).trans rfl
    have r1 : w2.cell? ⟨Rb, 1, none⟩ = some (.int .i64 (i : Int)) := (blk_cell hr 1).trans rfl
    have hltR := blk_lt hr
    clear hr
    go_wp2_with ((with_reducible refine gate_st rfl ?_); refine store_any _ _ _ rfl rfl rfl BK2.out rfl (by simp) rfl rfl rfl (by kernel_rfl) ?_; intro w3 hb3 hk3 hg3; have HB3 := Aside0.mk hb3; have HK3 := Aside0.mk hk3; have HG3 := Aside0.mk hg3; clear hb3 hk3 hg3)
    go_ret2
    have h3 := HB3.out
    rw [HLL.out] at h3
    refine ⟨rfl, HK3.out.blk HB2.out hGn (by simp), ?_, (Kp.keepd HK2.out).trans (Kp.keepb HK3.out), ?_⟩
    · exact h3
    · exact ((below_drew (pw_below_drewN (Below.refl base w) nq)).trans (HG2.out.mono HGB.out)).trans (HG3.out.mono HS.out.b1)
/-- Bytes have been read into an array. -/
def Full (w w' : World) (base Rb : Nat) (A : Option Addr) (D : List Int) (C i G To o m : Nat) (ws : Array Value) (zs : List Int) : Prop := w'.heap[G]? = some (.cells (setBytes ws o zs) To (0, 0)) ∧ w'.heap[Rb]? = some (.cells #[.slice A D.length C, .int .i64 ((i + m : Nat) : Int)] 54 (0, 0)) ∧ Kp w w' Rb G ∧ Below base w w'
set_option maxHeartbeats 8000000 in
set_option maxRecDepth 100000 in
theorem rd_least (w : World) (base Rb Rd T off SZ : Nat) (A : Option Addr) (D : List Int) (C i : Nat) (hs : Sr w base Rb Rd T off SZ A D C i) (G To o : Nat) (ws : Array Value) (hG : w.heap[G]? = some (.cells ws To (0, 0))) (hGn : G ≠ Rb) (hGb : base ≤ G) (m c : Nat) (hm : 0 < m) (hmc : m ≤ c) (hm9 : m < 4000000000) (hsz : o + m ≤ ws.size) (zs : List Int) (hz : At D i zs) (hl : zs.length = m) :
    Calls Tryz.prog 78 #[.iface 52 (.pointer (some ⟨Rb, 0, none⟩)), .slice (some ⟨G, o, none⟩) m c, .int .i64 (m : Int)] w fun e w' => e = .returned (.tuple #[.int .i64 (m : Int), .nilIface]) ∧ Full w w' base Rb A D C i G To o m ws zs := by
  have nh : ∀ (k : Nat) (W : World), Sem.run Tryz.prog (nilAhead (k + 3) 52 (.pointer (some ⟨Rb, 0, none⟩)) "Read") W = .ok (some false) W := fun k W => by kernel_rfl
  have HRD := Aside0.mk (fun (w1 : World) (h : Below w.heap.size w w1) (c' : Nat) => rd_read w1 base Rb Rd T off SZ A D C i (hs.below h) G To o ws (blk_below hG h) hGn hGb m c' hm hsz zs hz hl)
  have HM := Aside0.mk hm
  have HB0 := Aside0.mk hs.b3
  have d0 : decide ((m : Int) < (m : Int)) = false := by simp
  have d1 : decide ((0 : Int) < (m : Int)) = true := by simp; omega
  clear hs hG hz hl hsz
  go_enter Tryz.func78, Tryz.ntmps78
  go_wp2
  go_loopw [6, 7] (fun n e wr => (n = .int .i64 0 ∧ e = .nilIface ∧ wr = w) ∨ (n = .int .i64 (m : Int) ∧ e = .nilIface ∧ Full w wr base Rb A D C i G To o m ws zs)) (fun n _ _ => ((m : Int) - intOf n).toNat)
  case atStart => exact .inl ⟨rfl, rfl, rfl⟩
  case round =>
    rcases hrel with ⟨rfl, rfl, rfl⟩ | ⟨rfl, rfl, hF⟩
    · go_wp2_with fail
      have HRD2 := Aside0.mk (HRD.out wr.drew (below_drew (Below.refl _ _)) c)
      go_region_with (go_at_call 148; (with_reducible refine HRD2.out.mono ?_); rintro e w2 ⟨rfl, f1, f2, f3, f4⟩; have HF := Aside0.mk (show Full wr w2 base Rb A D C i G To o m ws zs from ⟨f1, f2, (Kp.below (below_drew (Below.refl _ wr))).trans f3, (below_drew (Below.refl base wr)).trans f4⟩); clear f1 f2 f3 f4)
      all_goals
        go_wp2_with fail
        go_roundw
        case rel => exact .inr ⟨rfl, rfl, HF.out⟩
        case measure => simp [intOf]; omega
    · have HF := Aside0.mk hF
      clear hF
      go_wp2_with fail
      go_ret2
      exact ⟨rfl, HF.out⟩
end Go.Proofs.YtmjilokgpgajjaaGreat.Th

namespace Go.Proofs.YtmjilokgpgajjaaGreat.Th
open Go.RowKit Go.Proofs.YtmjilokgpgajjaaGreatW.PrintWords Go.Proofs.YtmjilokgpgajjaaGreatW.PrintLast Go.Proofs.YtmjilokgpgajjaaGreatW.PrintMore
set_option linter.unusedVariables false
set_option linter.unusedSimpArgs false
section
variable {w w' : World} {base Rb Rd T off SZ : Nat} {A : Option Addr} {D : List Int} {C i m G To o : Nat} {ws : Array Value} {zs : List Int}
theorem Sr.full (h : Sr w base Rb Rd T off SZ A D C i) (hw : w.heap[Rd]? = some (.cells ws T (0, 0))) (hm : zs.length = m) (hm8 : m ≤ 8) (hi : i + m ≤ D.length) (f : Full w w' base Rb A D C i Rd T (off + 2) m ws zs) : Sr w' base Rb Rd T off SZ A D C (i + m) := by
  obtain ⟨f1, f2, f3, f4⟩ := f
  obtain ⟨ws', h3, h4, h5, h6⟩ := h.hQ
  obtain rfl : ws' = ws := by
    have := h3.symm.trans hw
    injection this with this
    injection this
  refine ⟨f2, Kd.F_step h.hD (fun k ho _ => f4.block k ho), ⟨_, f1, by rw [setBytes_size]; exact h4, by rw [setBytes_other _ _ _ _ (by omega)]; exact h5, fun k hk8 => ?_⟩, h.hZ, h.n1, h.hC, h.hL, h.b1, h.b2, Nat.le_trans h.b3 f3.1⟩
  by_cases hi2 : zs.length ≤ k
  · rw [setBytes_other _ _ _ _ (by omega)]
    exact h6 k hk8
  · have hz := h.hZ
    exact ⟨_, setBytes_at zs ws' (off + 2) k (by omega) (by omega)⟩
end
set_option maxHeartbeats 4000000 in
set_option maxRecDepth 100000 in
theorem rd_full (w : World) (base Rb Rd T off SZ : Nat) (A : Option Addr) (D : List Int) (C i : Nat) (hs : Sr w base Rb Rd T off SZ A D C i) (G To o : Nat) (ws : Array Value) (hG : w.heap[G]? = some (.cells ws To (0, 0))) (hGn : G ≠ Rb) (hGb : base ≤ G) (m c : Nat) (hm : 0 < m) (hmc : m ≤ c) (hm9 : m < 4000000000) (hsz : o + m ≤ ws.size) (zs : List Int) (hz : At D i zs) (hl : zs.length = m) :
    Calls Tryz.prog 71 #[.iface 52 (.pointer (some ⟨Rb, 0, none⟩)), .slice (some ⟨G, o, none⟩) m c] w fun e w' => e = .returned (.tuple #[.int .i64 (m : Int), .nilIface]) ∧ Full w w' base Rb A D C i G To o m ws zs := by
  have HRD := Aside0.mk (rd_least w base Rb Rd T off SZ A D C i hs G To o ws hG hGn hGb m c hm hmc hm9 hsz zs hz hl)
  clear hs hG hz hl hsz
  go_enter Tryz.func71, Tryz.ntmps71
  go_wp2_with (go_at_call 78; (with_reducible refine HRD.out.mono ?_); rintro e w2 ⟨rfl, hf⟩; have HF := Aside0.mk hf; clear hf)
  go_ret2
  exact ⟨rfl, HF.out⟩
/-- Some bytes are read into the array of the protocol's reader. -/
def Got (w' : World) (base Rb Rd T off SZ : Nat) (A : Option Addr) (D : List Int) (C i m : Nat) (zs : List Int) (w : World) : Prop := Sr w' base Rb Rd T off SZ A D C (i + m) ∧ (Kd.int .u8).C w' (some ⟨Rd, off + 2, none⟩) m zs ∧ Kp w w' Rb Rd ∧ Below base w w'
set_option maxHeartbeats 4000000 in
set_option maxRecDepth 100000 in
theorem rd_into2 (w : World) (base Rb Rd T off SZ : Nat) (A : Option Addr) (D : List Int) (C i : Nat) (hs : Sr w base Rb Rd T off SZ A D C i) (zs : List Int) (hz : At D i zs) (hl : zs.length = 2) :
    Calls Tryz.prog 72 #[.pointer (some ⟨Rd, off, none⟩), .int .i64 2] w fun e w' => e = .returned (.tuple #[.slice (some ⟨Rd, off + 2, none⟩) 2 8, .nilIface]) ∧ Got w' base Rb Rd T off SZ A D C i 2 zs w := by
  obtain ⟨ws, h3, h4, h5, h6⟩ := hs.hQ
  have hle := hz.le
  have hZ := hs.hZ
  have c1 : w.cell? ⟨Rd, off + 1, none⟩ = some (.iface 52 (.pointer (some ⟨Rb, 0, none⟩))) := (blk_cell h3 (off + 1)).trans h5
  have HRD := Aside0.mk (rd_full w.drew base Rb Rd T off SZ A D C i hs.drew Rd T (off + 2) ws (blk_drew h3) (Ne.symm hs.n1) hs.b2 2 8 (by omega) (by omega) (by omega) (by omega) zs hz hl)
  have HS := Aside0.mk hs
  have H3 := Aside0.mk h3
  have HL := Aside0.mk hl
  have HLE := Aside0.mk hle
  have HSZ := Aside0.mk (show off + 2 + 2 ≤ ws.size by omega)
  clear hs h3 h4 h5 h6 hz hl hle hZ
  go_enter Tryz.func72, Tryz.ntmps72
  go_wp2_with fail
  go_region_with (go_at_call 71; (with_reducible refine HRD.out.mono ?_); rintro e w2 ⟨rfl, hf⟩; have HF := Aside0.mk hf; clear hf)
  all_goals
    go_wp2_with fail
    go_ret2
    have hf := HF.out
    refine ⟨rfl, HS.out.drew.full (blk_drew H3.out) HL.out (by omega) (by have := HLE.out; rw [HL.out] at this; exact this) hf, cells_C (ws := setBytes ws (off + 2) zs) hf.1 HL.out (by omega) (fun i hi => setBytes_at zs ws (off + 2) i (by rw [HL.out]; exact HSZ.out) (by rw [HL.out]; exact hi)), (Kp.below (below_drew (Below.refl _ w))).trans hf.2.2.1, (below_drew (Below.refl base w)).trans hf.2.2.2⟩
end Go.Proofs.YtmjilokgpgajjaaGreat.Th

namespace Go.Proofs.YtmjilokgpgajjaaGreat.Th
open Go.RowKit Go.Proofs.YtmjilokgpgajjaaGreatW.PrintWords Go.Proofs.YtmjilokgpgajjaaGreatW.PrintLast Go.Proofs.YtmjilokgpgajjaaGreatW.PrintMore
set_option linter.unusedVariables false
set_option linter.unusedSimpArgs false
theorem or_comm (k : IntKind) (x y : Int) : Go.bits .or k x y = Go.bits .or k y x := by
  show k.wrap (((BitVec.ofInt k.bits x ||| BitVec.ofInt k.bits y).toNat : Nat) : Int) = k.wrap (((BitVec.ofInt k.bits y ||| BitVec.ofInt k.bits x).toNat : Nat) : Int)
  rw [BitVec.or_comm]
theorem add_at (G o j : Nat) : (⟨G, o, none⟩ : Addr).add j = ⟨G, o + j, none⟩ := by unfold Addr.add; split <;> simp_all
theorem wraps_u16 (n : Int) (h₀ : 0 ≤ n) (h₁ : n < 2 ^ 16) : IntKind.u16.wrap n = n := by
  have e : IntKind.u16.wrap n = n % 65536 := by simp [IntKind.wrap, IntKind.bits, IntKind.signed]
  rw [e]; omega
theorem or_lo (k : IntKind) (j : Nat) (hj : j ≤ k.bits) (hk : ∀ n : Int, 0 ≤ n → n < 2 ^ j → k.wrap n = n) (i : Nat) (x y : Int) (hy₀ : 0 ≤ y) (hy : y % 2 ^ i = 0) (hy₁ : y < 2 ^ j) (hx₀ : 0 ≤ x) (hx : x < 2 ^ i) (hx₁ : x < 2 ^ j) : Go.bits .or k x y = x + y := by
  rw [or_comm, bits_join k j hj hk i y x hy₀ hy hy₁ hx₀ hx hx₁]
  omega
set_option maxHeartbeats 8000000 in
set_option maxRecDepth 100000 in
theorem buint16 (z0 z1 : Int) (h0 : 0 ≤ z0 ∧ z0 < 256) (h1 : 0 ≤ z1 ∧ z1 < 256) (w : World) (G o c : Nat) (hc : (Kd.int .u8).C w (some ⟨G, o, none⟩) 2 [z0, z1]) :
    Calls Tryz.prog 74 #[.agg #[], .slice (some ⟨G, o, none⟩) 2 c] w fun e w' => e = .returned (.int .u16 (z0 * 256 + z1)) ∧ Below w.heap.size w w' := by
  have hr := Kd.reads_of_C (d := (0 : Int)) hc
  obtain ⟨ad, had, hh⟩ := hr.2.2 (by omega)
  obtain rfl := Option.some.inj had
  have HB0 := Aside0.mk (Below.refl w.heap.size w)
  have HC0 := Aside0.mk (show w.cell? ⟨G, o, none⟩ = some (.int .u8 z0) from (by have h := hh 0 (by omega); rw [add_at] at h; exact h))
  have HC1 := Aside0.mk (show w.cell? ⟨G, o + 1, none⟩ = some (.int .u8 z1) from (by have h := hh 1 (by omega); rw [add_at] at h; exact h))
  clear hr hh hc
  have y1 : IntKind.u16.wrap (z0 * 256) = z0 * 256 := wraps_u16 _ (by omega) (by omega)
  have o1 : Go.bits .or .u16 (z1) (z0 * 256) = z1 + z0 * 256 := or_lo .u16 16 (by decide) wraps_u16 8 _ _ (by omega) (by omega) (by omega) (by omega) (by omega) (by omega)
  have HE := Aside0.mk (show z1 + z0 * 256 = z0 * 256 + z1 by omega)
  have Y1 := Aside0.mk y1
  have O1 := Aside0.mk o1
  clear y1 o1
  go_enter Tryz.func74, Tryz.ntmps74
  go_upto_region 2 with ((with_reducible refine gate_dst (N := 2) rfl ?_); refine box_event ?xhg (N := 2) ?xhd (cs := #[]) (t := 179) ?xhr ?_; (case xhd => rfl); (case xhg => rfl); (case xhr => first | (go_simp; done) | (go_simp; rfl)); intro G2 hG2 W1 hb1 hg1; have HB1 := Aside0.mk hg1; have cc0 := pw_cell_below hg1 HC0.out; have cc1 := pw_cell_below hg1 HC1.out; clear hb1 hg1 hG2)
  go_quiet (fail)
  go_wp2_with fail
  go_ret
  refine ⟨?_, pw_below_drewN HB1.out _⟩
  rw [O1.out, HE.out] <;> rfl
end Go.Proofs.YtmjilokgpgajjaaGreat.Th

