/- What a compact writer's numbers write. -/
import Derived.Test.YtmjilokgpgajjaaThUvar
import Derived.Test.YtmjilokgpgajjaaThFloat
namespace Go.Proofs.Ytmjilokgpgajjaa.Th
open Go.RowKit Go.Proofs.YtmjilokgpgajjaaW.PrintWords Go.Proofs.YtmjilokgpgajjaaW.PrintLast Go.Proofs.YtmjilokgpgajjaaW.PrintMore Go.Proofs.Ytmjilokgpgajjaa.PFnTHWrites
set_option linter.unusedVariables false
set_option linter.unusedSimpArgs false
theorem St.away {w w' : World} {base Sg Wg T off SZ Pg PT : Nat} {ps : Array Value} {pv : Value} {xs : List Int} (h : St w base Sg Wg T off SZ Pg PT ps pv xs) {ws : Array Value} (hw : w.heap[Wg]? = some (.cells ws T (0, 0))) (o : Nat) (bs : List Int) (hb1 : w'.heap[Wg]? = some (.cells (setBytes ws o bs) T (0, 0))) (hl : off + 10 ≤ o) (hk : KeepBut w w' Wg none) : St w' base Sg Wg T off SZ Pg PT ps pv xs := by
  obtain ⟨v, h1, h2⟩ := h.hS
  obtain ⟨ws', h3, h4, h5, h6, h7⟩ := h.hW
  obtain rfl : ws' = ws := by
    have := h3.symm.trans hw
    injection this with this
    injection this
  refine ⟨⟨v, (hk.2 Sg (blk_lt h1) h.n1 (by simp)).trans h1, Kd.R_mono (Kd.R_keep (Kd.R_types h2 h3 (ne5 h.t5)) hk (fun _ hk => hk.2)) (fun _ _ => trivial)⟩, ⟨_, hb1, by rw [setBytes_size, h4], by rw [setBytes_other _ _ _ _ (by omega)]; exact h5, by rw [setBytes_other _ _ _ _ (by omega)]; exact h6, fun i hi => by rw [setBytes_other _ _ _ _ (by omega)]; exact h7 i hi⟩, (hk.2 Pg (blk_lt h.hP) (Ne.symm h.n3) (by simp)).trans h.hP, h.hZ, h.t5, h.p5, h.n1, h.n2, h.n3, h.b1, h.b2, Nat.le_trans h.b3 hk.1⟩
theorem slice_first (T N : Nat) (ht : Try.prog.underlying T = some (.array (Try.prog.arrayLen T) (Try.prog.elem T))) (hN : Try.prog.arrayLen T = N) (hs : (Try.prog.info? (Try.prog.elem T)).map (·.size) = some 1) (a : Addr) (n : Nat) (hn : n ≤ N) (w : World) :
    Sem.run Try.prog (Instr.sliceAt T (.pointer (some a)) none (some (.int .i64 (n : Int))) none) w = .ok (.slice (some a) n N) w := by
  obtain ⟨i, hi, hz⟩ := Option.map_eq_some_iff.1 hs
  rw [run_sliceAt_array_h w T a ht .i64 (n : Int) (by omega) (by rw [hN]; omega)]
  simp [sizeOf, typeInfo, hi, hz, slicedAt, hN]
  intro h
  unfold Addr.add
  split <;> simp_all
set_option maxHeartbeats 4000000 in
set_option maxRecDepth 100000 in
theorem c_uvar (w : World) (base Sg Wg T Pg PT : Nat) (ps : Array Value) (pv : Value) (xs : List Int) (hst : St w base Sg Wg T 1 21 Pg PT ps pv xs) (v : Int) (h0 : 0 ≤ v) (h1 : v < 18446744073709551616) (j : Nat) (hj : j < 10) (hn : nb j v) (hl : xs.length < 10000000000) :
    Calls Try.prog 140 #[.pointer (some ⟨Wg, 0, none⟩), .int .u64 v] w fun e w' => e = .returned .nilIface ∧ St w' base Sg Wg T 1 21 Pg PT ps pv (xs ++ vbytes j v) ∧ Below base w w' ∧ Rest w w' Sg Wg := by
  obtain ⟨ws, h3, h4, h5, h6, h7⟩ := hst.hW
  have HU := Aside0.mk (fun (c : Nat) => uvar v h0 h1 j hj hn Wg T 11 c ws w h3 (by omega))
  have HST := Aside0.mk hst
  have H3 := Aside0.mk h3
  have HSZ := Aside0.mk h4
  obtain ⟨n, hnn⟩ : ∃ n, n = j + 1 := ⟨_, rfl⟩
  have hlen := vbytes_len j v
  rw [← hnn] at HU hlen
  generalize vbytes j v = bs at *
  have HL := Aside0.mk hlen
  have hn10 : n ≤ 10 := by omega
  have hsl := slice_first 170 10 (by kernel_rfl) (by kernel_rfl) (by kernel_rfl) ⟨Wg, 11, none⟩ n hn10
  clear hst h3 h4 h5 h6 h7 hlen hnn hj hn
  go_enter Try.func140, Try.ntmps140
  go_upto_region 2 with (go_at_call 142; (with_reducible refine (HU.out _).mono ?_); rintro e w1 ⟨rfl, hw1, hk1, hb1⟩; have HS1 := Aside0.mk (HST.out.away H3.out 11 bs hw1 (by decide) hk1); have HC1 := Aside0.mk (show (Kd.int .u8).C w1 (some ⟨Wg, 11, none⟩) n bs from cells_C hw1 HL.out (by omega) (fun i hi => setBytes_at bs ws 11 i (by rw [HL.out, HSZ.out]; omega) (by rw [HL.out]; exact hi))); have HB1 := Aside0.mk (hb1.mono HST.out.b2); have HR1 := Aside0.mk (Rest.bytes HST.out.n1 hk1); clear hw1 hk1 hb1)
  have HW := Aside0.mk (w_write w1.drew base Sg Wg T 1 21 Pg PT ps pv xs bs (some ⟨Wg, 11, none⟩) 10 (HS1.out.below (below_drew (Below.refl _ _))) (by rw [HL.out]; exact Kd.C_drew HC1.out) (by rw [HL.out]; omega))
  rw [HL.out] at HW
  have HBD := Aside0.mk (below_drew HB1.out)
  have HRD := Aside0.mk (HR1.out.trans (Rest.below (Sg := Sg) (Wg := Wg) (below_drew (Below.refl w1.heap.size w1))))
  go_region_with (go_at_call 96; (with_reducible refine HW.out.mono ?_); rintro e w3 ⟨rfl, hs3, hb3, hr3⟩; have HS3 := Aside0.mk hs3; have HB3 := Aside0.mk (HBD.out.trans hb3); have HR3 := Aside0.mk (HRD.out.trans hr3); clear hs3 hb3 hr3)
  all_goals
    go_wp2_with fail
    go_ret
    exact ⟨rfl, HS3.out, HB3.out, HR3.out⟩
end Go.Proofs.Ytmjilokgpgajjaa.Th
