/- The walk of the law on appended fields, given what its parts tell. -/
import Derived.Test.YtokediiehlnjkaaDoorPbDoor
import Derived.Deep.RegionLaw
import Derived.Deep.AppendLies
import Derived.Deep.RegionHeld3
import Derived.BigQuiet
import Derived.Deep.RegionWith
import Derived.Deep.DeepCutAuto
namespace Go.Proofs.YtokediiehlnjkaaDoor.Pb
open Go.RowKit Go.Proofs.YtokediiehlnjkaaDoorW.PrintWords Go.Proofs.YtokediiehlnjkaaDoorW.PrintLast Go.Proofs.YtokediiehlnjkaaDoorW.PrintMore Go.Proofs.YtokediiehlnjkaaDoor.PFnPBAppends
set_option linter.unusedVariables false
set_option linter.unusedSimpArgs false
theorem own_zero {g n c k : Nat} (h : (Value.slice (some ⟨g, 0, none⟩) n c).ownBlock = some k) : g ≤ k := by
  have h2 : some g = some k := h
  injection h2 with h2
  omega
theorem appended_at {op f n : Int} {lv out : List Int} (h : Appended op f n lv out) (w : World) (A : Option Addr) (c : Nat) (ms : List Int) (Av : Option Addr) (cv : Nat) (h1 : (Kd.int .u8).C w A ms.length ms) (h2 : (Kd.int .u8).C w Av lv.length lv) (h3 : ms.length < 3000000000) :
    Calls Tryd.prog 6 #[.int .i64 op, .slice A ms.length c, .int .u64 f, .int .u64 n, .slice Av lv.length cv] w fun e w' => ∃ v1, e = .returned v1 ∧ (Kd.int .u8).R 5 w' w.heap.size (fun _ => True) v1 (ms ++ out) ∧ Below w.heap.size w w' := h w A c ms Av cv h1 h2 h3
theorem str_append (a b : List Int) : strOfNums a ++ strOfNums b = strOfNums (a ++ b) := by
  apply ByteArray.ext
  simp [strOfNums, ByteArray.data_append]
theorem R_empty (W : World) (base : Nat) (hb : base ≤ W.heap.size) : (Kd.int .u8).R 5 (W.alloc (.cells #[] 5)) base (fun _ => True) (.slice (some ⟨W.heap.size, 0, none⟩) 0 0) [] :=
  ⟨fun _ _ => trivial, OwnRow.lit W base (ps := ([] : List Int)) (inner := []) (Reps.none _ _) hb (by simp)⟩

set_option maxHeartbeats 8000000 in
set_option maxRecDepth 100000 in
theorem law3 (K : Nat) (nu ki n : Int) (ms lv : List Int) (N ty : Int) (val out : List Int) (hP : laws_pbPart.f K nu ki n lv = some (N, ty, val)) (hQ : spec_PBPart.f K N ty val = some out) (hA : Appended ty N n lv out)
    (Am : Option Addr) (cm : Nat) (Av : Option Addr) (cv : Nat) (w : World) (hms : (Kd.int .u8).C w Am ms.length ms) (hlv : (Kd.int .u8).C w Av lv.length lv) (hcv : lv.length ≤ cv) (l1 : ms.length ≤ 2147483647) (l2 : lv.length ≤ 2147483647) (ht0 : 0 ≤ ty) (ht1 : ty ≤ 5) (hlo : out.length ≤ 3000000000) :
    Calls Tryd.prog 3 #[.slice Am ms.length cm, .int .u32 nu, .int .u8 ki, .int .u64 n, .slice Av lv.length cv] w fun e w' => e = .returned (.bool true) ∧ Below w.heap.size w w' := by
  have HM := Aside0.mk hms
  have HV := Aside0.mk hlv
  have HP := Aside0.mk hP
  have HQ := Aside0.mk hQ
  have hty : IntKind.i64.wrap ty = ty := by rw [IntKind.wrap_i64]; omega
  have HA := Aside0.mk (show Appended (IntKind.i64.wrap ty) N n lv out by rw [hty]; exact hA)
  clear hty
  have d1 : decide ((2147483647 : Int) < (ms.length : Int)) = false := by simp; omega
  have d2 : decide ((2147483647 : Int) < (lv.length : Int)) = false := by simp; omega
  have HB := Aside0.mk (Below.refl w.heap.size w)
  clear hms hlv hP hQ hA
  go_enter Tryd.func3, Tryd.ntmps3
  go_upto_region 4 with (first | (go_at_call 5; (with_reducible refine (laws_pbPart.calls K nu ki n Av cv lv N ty val _ HV.out hcv HP.out).mono ?_); rintro e w1 ⟨vp, rfl, ho, hb⟩; obtain ⟨Ap, cp, rfl, hcp, hCp⟩ := Kd.R_reads ho; have HCP := Aside0.mk hCp; have HO := Aside0.mk ho; have n1 := Aside0.mk (HB.out.trans hb); clear HB ho hb hCp; have HB := n1; clear n1))
  obtain ⟨W, hW⟩ : ∃ W, W = w1.alloc (.cells #[.int .u64 N, .int .u64 ty, .slice Ap val.length cp] 26) := ⟨_, rfl⟩
  obtain ⟨G, hG⟩ : ∃ G, G = w1.heap.size := ⟨_, rfl⟩
  have hsz := HB.out.size
  have BK := Aside0.mk (show W.heap[G]? = some (.cells #[.int .u64 N, .int .u64 ty, .slice Ap val.length cp] 26 (0, 0)) by rw [hW, hG]; exact blk_new _ _)
  have hb1 : Below w1.heap.size w1 W := by rw [hW]; exact below_alloc (Below.refl _ _) _
  have HBW := Aside0.mk (HB.out.trans (hb1.mono hsz))
  have HCW := Aside0.mk (Kd.C_below HCP.out hb1)
  rw [← hW, ← hG]
  clear HB HCP hb1 HO hW hG hsz
  have HB := HBW
  clear HBW
  have HMW := Aside0.mk (Kd.C_below HM.out HB.out)
  have HVW := Aside0.mk (Kd.C_below HV.out HB.out)
  have hlt := blk_lt BK.out
  have hsz := HB.out.size
  have hbA : Below W.heap.size W (W.drew.alloc (.cells #[] 5)) := below_alloc (below_drew (Below.refl _ _)) _
  have BKA := Aside0.mk (blk_below BK.out hbA)
  have HBA := Aside0.mk (HB.out.trans (hbA.mono hsz))
  have HMA := Aside0.mk (Kd.C_below HMW.out hbA)
  have HPA := Aside0.mk (Kd.F_below (Kd.C_F (Kd.heap_int .u8) HCW.out) hbA)
  have HRA := Aside0.mk (R_empty W.drew w.heap.size hsz)
  have c0 : W.cell? ⟨G, 0, none⟩ = some (.int .u64 N) := (blk_cell BK.out 0).trans rfl
  have c1 : W.cell? ⟨G, 1, none⟩ = some (.int .u64 ty) := (blk_cell BK.out 1).trans rfl
  have a0 : (W.drew.alloc (.cells #[] 5)).cell? ⟨G, 0, none⟩ = some (.int .u64 N) := (blk_cell BKA.out 0).trans rfl
  have a1 : (W.drew.alloc (.cells #[] 5)).cell? ⟨G, 1, none⟩ = some (.int .u64 ty) := (blk_cell BKA.out 1).trans rfl
  have hsA : w.heap.size ≤ (W.drew.alloc (.cells #[] 5)).heap.size := HBA.out.size
  have hlA : (([] : List Int).length + ms.length) * 1 ≤ 140737488355328 := by simp; omega
  have hm3 : ms.length < 3000000000 := by omega
  have hGn : ∀ v : Value, (∀ k, v.ownBlock = some k → W.heap.size ≤ k) → some G ≠ v.ownBlock := fun v h he => by have := h G he.symm; omega
  clear hbA
  go_cut [12] (fun s12 wx => ∃ A4 c4, s12 = .slice A4 (ms.length + out.length) c4 ∧ Aside0 (wx.heap[G]? = some (.cells #[.int .u64 N, .int .u64 ty, .slice Ap val.length cp] 26 (0, 0))) ∧ Aside0 (Below w.heap.size w wx) ∧ Aside0 ((Kd.int .u8).C wx A4 (ms ++ out).length (ms ++ out)) ∧ Aside0 ((Kd.int .u8).C wx Ap val.length val))
  case first =>
   go_region_law (first
    | (refine Kd.R_append_rows_step (Kd.int .u8) (w0 := w) w.heap.size (by simp [Region.wanted]) (.tmp 29) (.tmp 30) 22 5 (.int .u8 0) 1 rfl Tryd.underlying22 info5 rfl (by decide) (by decide) (.slice (some ⟨W.heap.size, 0, none⟩) 0 0) [] ms Am ms.length cm (fun _ => True) (fun _ => False) rfl rfl HRA.out HMA.out (fun _ _ h => h) (fun _ h => h.elim) (fun _ _ => trivial) HBA.out hsA hlA ?_; intro v1 w3 ho hb hg hat; rw [List.nil_append] at ho; obtain ⟨A3, c3, rfl, hc3, hC3⟩ := Kd.R_reads ho; have BK3 := Aside0.mk (blk_grown BKA.out hg (hGn _ (fun k hk => own_zero hk))); have HB3 := Aside0.mk hb; have HC3 := Aside0.mk hC3; have HV3 := Aside0.mk (Kd.C_below HV.out hb); have HP3 := Aside0.mk (Kd.F_now (Kd.F_grown HPA.out hg (fun k hk he => Nat.lt_irrefl _ (Nat.lt_of_lt_of_le hk (own_zero he.symm))))); have b0 : w3.cell? ⟨G, 0, none⟩ = some (.int .u64 N) := (blk_cell BK3.out 0).trans rfl; have b1 : w3.cell? ⟨G, 1, none⟩ = some (.int .u64 ty) := (blk_cell BK3.out 1).trans rfl; clear ho hb hg hat hC3)
    | (go_simp; go_at_call 6; (with_reducible refine (appended_at HA.out w3 A3 c3 ms Av cv HC3.out HV3.out hm3).mono ?_); rintro e w4 ⟨v2, rfl, ho, hb⟩; obtain ⟨A4, c4, rfl, hc4, hC4⟩ := Kd.R_reads ho; have BK4 := Aside0.mk (blk_below BK3.out hb); have HB4 := Aside0.mk (HB3.out.trans (hb.mono HB3.out.size)); have HC4 := Aside0.mk hC4; have HP4 := Aside0.mk (Kd.C_below HP3.out hb); clear ho hb hC4))
   all_goals
    go_wp2_with fail
    go_meet
    exact ⟨A4, c4, rfl, BK4, HB4, HC4, HP4⟩
  case rest =>
   obtain ⟨A4, c4, rfl, BK4, HB4, HC4, HP4⟩ := hcut
   have g0 : wc.cell? ⟨G, 0, none⟩ = some (.int .u64 N) := (blk_cell BK4.out 0).trans rfl
   have g1 : wc.cell? ⟨G, 1, none⟩ = some (.int .u64 ty) := (blk_cell BK4.out 1).trans rfl
   have g2 : wc.cell? ⟨G, 2, none⟩ = some (.slice Ap val.length cp) := (blk_cell BK4.out 2).trans rfl
   have HM4 := Aside0.mk (Kd.C_below HM.out HB4.out)
   have u12 : Sem.run Tryd.prog (convert 22 9 (.slice A4 (ms.length + out.length) c4)) wc.drew = .ok (.string (strOfNums (ms ++ out))) wc.drew := by
    have h := Kd.C_string (P := Tryd.prog) (src := 22) (dst := 9) (c := c4) (w := wc.drew) Tryd.underlying22 Tryd.underlying5 Tryd.underlying9 (Kd.C_drew HC4.out)
    rw [List.length_append] at h
    exact h
   have u0 : Sem.run Tryd.prog (convert 22 9 (.slice Am ms.length cm)) wc.drew = .ok (.string (strOfNums ms)) wc.drew := Kd.C_string Tryd.underlying22 Tryd.underlying5 Tryd.underlying9 (Kd.C_drew HM4.out)
   have hcat := str_append ms out
   have HCD := Aside0.mk (Kd.C_drew HP4.out)
   have HBD := Aside0.mk (below_drew HB4.out)
   have hsum : ¬ (9223372036854775807 < (strOfNums ms).size + (strOfNums out).size) := by rw [strOfNums_size, strOfNums_size]; omega
   go_upto_region 5 with fail
   go_region_with (go_at_call 7; (with_reducible refine (spec_PBPart.calls K N ty Ap cp val out _ HCD.out hcp HQ.out).mono ?_); rintro e w5 ⟨v5, rfl, ho, hb⟩; obtain ⟨A5, c5, rfl, hc5, hC5⟩ := Kd.R_reads ho; have t12 : Sem.run Tryd.prog (convert 22 9 (.slice A4 (ms.length + out.length) c4)) w5 = .ok (.string (strOfNums (ms ++ out))) w5 := (by have h := Kd.C_string (P := Tryd.prog) (src := 22) (dst := 9) (c := c4) (w := w5) Tryd.underlying22 Tryd.underlying5 Tryd.underlying9 (Kd.C_below (Kd.C_drew HC4.out) hb); rw [List.length_append] at h; exact h); have t0 : Sem.run Tryd.prog (convert 22 9 (.slice Am ms.length cm)) w5 = .ok (.string (strOfNums ms)) w5 := Kd.C_string Tryd.underlying22 Tryd.underlying5 Tryd.underlying9 (Kd.C_below (Kd.C_drew HM4.out) hb); have t5 : Sem.run Tryd.prog (convert 22 9 (.slice A5 out.length c5)) w5 = .ok (.string (strOfNums out)) w5 := Kd.C_string Tryd.underlying22 Tryd.underlying5 Tryd.underlying9 hC5; have HB5 := Aside0.mk (HBD.out.trans (hb.mono HBD.out.size)); clear ho hb hC5)
   all_goals
    go_wp2_with fail
    go_ret
    exact ⟨rfl, HB5.out⟩
end Go.Proofs.YtokediiehlnjkaaDoor.Pb
