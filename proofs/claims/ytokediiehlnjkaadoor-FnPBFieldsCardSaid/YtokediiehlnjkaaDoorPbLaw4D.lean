/- The walks of the law on fields of each kind, given what its parts tell. -/
import Derived.Test.YtokediiehlnjkaaDoorPbLaw4
import Derived.Deep.RegionLaw
import Derived.Deep.AppendLies
import Derived.Deep.RegionHeld3
import Derived.BigQuiet
import Derived.Deep.RegionWith
import Derived.Deep.DeepCutAuto
namespace Go.Proofs.YtokediiehlnjkaaDoor.Pb
open Go.RowKit Go.Proofs.YtokediiehlnjkaaDoorW.PrintWords Go.Proofs.YtokediiehlnjkaaDoorW.PrintLast Go.Proofs.YtokediiehlnjkaaDoorW.PrintMore Go.Proofs.YtokediiehlnjkaaDoor.PFnPBAppends
set_option linter.unusedVariables false
set_option linter.unusedSimpArgs false

set_option maxHeartbeats 8000000 in
set_option maxRecDepth 100000 in
theorem law4_10a (ki nu n : Int) (lv : List Int) (N x : Int) (val out : List Int) (hk : Int.tmod (wrap64 ki) 13 = 10) (hN : IntKind.u64.wrap ((Int.tmod (IntKind.u64.wrap nu) 536870911) + 1) = N) (hW : spec_WRLow.f 20 x 8 = some val) (hx : n = x) (hb : (Go.bits .and .u64 (n / 4503599627370496) 2047 == 2047) = false) (hQ : spec_PBPart.f 20 N 1 val = some out) (hF : Fielded 10 N x lv out)
    (Av : Option Addr) (cv : Nat) (w : World) (hlv : (Kd.int .u8).C w Av lv.length lv) (hcv : lv.length ≤ cv) (l2 : lv.length ≤ 2147483647) :
    Calls Tryd.prog 4 #[.int .u8 ki, .int .u32 nu, .int .u64 n, .slice Av lv.length cv] w fun e w' => e = .returned (.bool true) ∧ Below w.heap.size w w' := by
  have HV := Aside0.mk hlv
  have HQ := Aside0.mk hQ
  have HF := Aside0.mk hF
  have d2 : decide ((2147483647 : Int) < (lv.length : Int)) = false := by simp; omega
  have HB := Aside0.mk (Below.refl w.heap.size w)
  clear hlv hQ hF
  subst hx
  have HW := Aside0.mk hW
  clear hW
  go_enter Tryd.func4, Tryd.ntmps4
  go_upto_region 33 with (first | (go_at_call 9; (with_reducible refine (spec_WRLow.calls 20 n 8 val _ HW.out).mono ?_); rintro e w1 ⟨vp, rfl, ho, hb⟩; obtain ⟨Ap, cp, rfl, hcp, hCp⟩ := Kd.R_reads ho; have HCP := Aside0.mk (Kd.F_mono (Kd.R_F (Kd.R_bound ho)) (fun k hk he => absurd (he ▸ hk.2.1) (Nat.not_le_of_lt (blk_lt BK.out)) : ∀ k, _ → k ≠ G)); have n1 := Aside0.mk (blk_below BK.out hb); have n3 := Aside0.mk (HB.out.trans (hb.mono HB.out.size)); clear BK HB ho hb hCp; have BK := n1; have HB := n3; clear n1 n3) | ((with_reducible refine gate_dst (N := 11) rfl ?_); refine box_event ?xhg (N := 11) ?xhd (cs := #[.int .u64 0, .int .u64 0, .slice none 0 0]) (t := 26) ?xhr ?_; (case xhd => rfl); (case xhg => rfl); (case xhr => first | (go_simp; done) | (go_simp; rfl)); intro G hG W1 hb1 hg1; have BK := Aside0.mk hb1; have n3 := Aside0.mk (HB.out.trans hg1); have hGe : w.heap.size ≤ G := (by omega); clear HB hb1 hg1 hG; have HB := n3; clear n3) | ((with_reducible refine gate_ (.store 26 (.tmp 11) (.tmp 23)) rfl ?_); refine store_agg _ _ _ rfl rfl rfl [.int .u64 N, .int .u64 0, .slice none 0 0] BK.out rfl rfl rfl (by kernel_rfl) (by simp [Value.oneCell']) ?_; intro W1 hb1 hk1 hg1; have n1 := Aside0.mk hb1; have n3 := Aside0.mk (HB.out.trans (hg1.mono hGe)); clear BK HB hb1 hk1 hg1; have BK := n1; have HB := n3; clear n1 n3) | ((with_reducible refine gate_st rfl ?_); refine store_any _ _ _ rfl rfl rfl BK.out rfl (by simp) rfl rfl rfl (by kernel_rfl) ?_; intro W1 hb1 hk1 hg1; have n1 := Aside0.mk hb1; have n3 := Aside0.mk (HB.out.trans (hg1.mono hGe)); have n4 := Aside0.mk (Kd.F_keep HCP.out hk1 (fun k h => h)); clear HCP; have HCP := n4; clear n4; clear BK HB hb1 hk1 hg1; have BK := n1; have HB := n3; clear n1 n3))
  have hs1 := HB.out.size
  have BKf := Aside0.mk (show W1.heap[G]? = some (.cells #[.int .u64 N, .int .u64 1, .slice Ap val.length cp] 26 (0, 0)) from BK.out)
  clear BK
  have HV1 := Aside0.mk (Kd.C_below HV.out HB.out)
  have g0 : W1.cell? ⟨G, 0, none⟩ = some (.int .u64 N) := (blk_cell BKf.out 0).trans rfl
  have g1 : W1.cell? ⟨G, 1, none⟩ = some (.int .u64 1) := (blk_cell BKf.out 1).trans rfl
  have g2 : W1.cell? ⟨G, 2, none⟩ = some (.slice Ap val.length cp) := (blk_cell BKf.out 2).trans rfl
  have HBD := Aside0.mk (below_drew HB.out)
  have HCD := Aside0.mk (Kd.C_drew (Kd.F_now HCP.out))
  have HVD := Aside0.mk (Kd.C_drew HV1.out)
  clear HB HCP HV HV1 hk hN
  go_region_with (first
    | (go_at_call 10; (with_reducible refine (fielded_at HF.out _ Av cv HVD.out l2).mono ?_); rintro e w5 ⟨v5, rfl, ho, hb⟩; obtain ⟨A5, c5, rfl, hc5, hC5⟩ := Kd.R_reads ho; have BK5 := Aside0.mk (blk_below (blk_drew BKf.out) hb); have HB5 := Aside0.mk (HBD.out.trans (hb.mono HBD.out.size)); have HC5 := Aside0.mk hC5; have HP5 := Aside0.mk (Kd.C_below HCD.out hb); have k0 : w5.cell? ⟨G, 0, none⟩ = some (.int .u64 N) := (blk_cell BK5.out 0).trans rfl; have k1 : w5.cell? ⟨G, 1, none⟩ = some (.int .u64 1) := (blk_cell BK5.out 1).trans rfl; have k2 : w5.cell? ⟨G, 2, none⟩ = some (.slice Ap val.length cp) := (blk_cell BK5.out 2).trans rfl; have t5 : Sem.run Tryd.prog (convert 22 9 (.slice A5 out.length c5)) w5 = .ok (.string (strOfNums out)) w5 := Kd.C_string Tryd.underlying22 Tryd.underlying5 Tryd.underlying9 hC5; clear ho hb hC5)
    | (go_at_call 7; (with_reducible refine (spec_PBPart.calls 20 N 1 Ap cp val out _ HP5.out hcp HQ.out).mono ?_); rintro e w6 ⟨v6, rfl, ho, hb⟩; obtain ⟨A6, c6, rfl, hc6, hC6⟩ := Kd.R_reads ho; have HB6 := Aside0.mk (HB5.out.trans (hb.mono HB5.out.size)); have u5 : Sem.run Tryd.prog (convert 22 9 (.slice A5 out.length c5)) w6 = .ok (.string (strOfNums out)) w6 := Kd.C_string Tryd.underlying22 Tryd.underlying5 Tryd.underlying9 (Kd.C_below HC5.out hb); have u6 : Sem.run Tryd.prog (convert 22 9 (.slice A6 out.length c6)) w6 = .ok (.string (strOfNums out)) w6 := Kd.C_string Tryd.underlying22 Tryd.underlying5 Tryd.underlying9 hC6; clear ho hb hC6))
  all_goals
    go_wp2_with fail
    go_ret
    exact ⟨rfl, HB6.out⟩

set_option maxHeartbeats 8000000 in
set_option maxRecDepth 100000 in
theorem law4_10b (ki nu n : Int) (lv : List Int) (N x : Int) (val out : List Int) (hk : Int.tmod (wrap64 ki) 13 = 10) (hN : IntKind.u64.wrap ((Int.tmod (IntKind.u64.wrap nu) 536870911) + 1) = N) (hW : spec_WRLow.f 20 x 8 = some val) (hx : 4611686018427387904 = x) (hb : (Go.bits .and .u64 (n / 4503599627370496) 2047 == 2047) = true) (hQ : spec_PBPart.f 20 N 1 val = some out) (hF : Fielded 10 N x lv out)
    (Av : Option Addr) (cv : Nat) (w : World) (hlv : (Kd.int .u8).C w Av lv.length lv) (hcv : lv.length ≤ cv) (l2 : lv.length ≤ 2147483647) :
    Calls Tryd.prog 4 #[.int .u8 ki, .int .u32 nu, .int .u64 n, .slice Av lv.length cv] w fun e w' => e = .returned (.bool true) ∧ Below w.heap.size w w' := by
  have HV := Aside0.mk hlv
  have HQ := Aside0.mk hQ
  have HF := Aside0.mk hF
  have d2 : decide ((2147483647 : Int) < (lv.length : Int)) = false := by simp; omega
  have HB := Aside0.mk (Below.refl w.heap.size w)
  clear hlv hQ hF
  subst hx
  have HW := Aside0.mk hW
  clear hW
  go_enter Tryd.func4, Tryd.ntmps4
  go_upto_region 33 with (first | (go_at_call 9; (with_reducible refine (spec_WRLow.calls 20 4611686018427387904 8 val _ HW.out).mono ?_); rintro e w1 ⟨vp, rfl, ho, hb⟩; obtain ⟨Ap, cp, rfl, hcp, hCp⟩ := Kd.R_reads ho; have HCP := Aside0.mk (Kd.F_mono (Kd.R_F (Kd.R_bound ho)) (fun k hk he => absurd (he ▸ hk.2.1) (Nat.not_le_of_lt (blk_lt BK.out)) : ∀ k, _ → k ≠ G)); have n1 := Aside0.mk (blk_below BK.out hb); have n3 := Aside0.mk (HB.out.trans (hb.mono HB.out.size)); clear BK HB ho hb hCp; have BK := n1; have HB := n3; clear n1 n3) | ((with_reducible refine gate_dst (N := 11) rfl ?_); refine box_event ?xhg (N := 11) ?xhd (cs := #[.int .u64 0, .int .u64 0, .slice none 0 0]) (t := 26) ?xhr ?_; (case xhd => rfl); (case xhg => rfl); (case xhr => first | (go_simp; done) | (go_simp; rfl)); intro G hG W1 hb1 hg1; have BK := Aside0.mk hb1; have n3 := Aside0.mk (HB.out.trans hg1); have hGe : w.heap.size ≤ G := (by omega); clear HB hb1 hg1 hG; have HB := n3; clear n3) | ((with_reducible refine gate_ (.store 26 (.tmp 11) (.tmp 23)) rfl ?_); refine store_agg _ _ _ rfl rfl rfl [.int .u64 N, .int .u64 0, .slice none 0 0] BK.out rfl rfl rfl (by kernel_rfl) (by simp [Value.oneCell']) ?_; intro W1 hb1 hk1 hg1; have n1 := Aside0.mk hb1; have n3 := Aside0.mk (HB.out.trans (hg1.mono hGe)); clear BK HB hb1 hk1 hg1; have BK := n1; have HB := n3; clear n1 n3) | ((with_reducible refine gate_st rfl ?_); refine store_any _ _ _ rfl rfl rfl BK.out rfl (by simp) rfl rfl rfl (by kernel_rfl) ?_; intro W1 hb1 hk1 hg1; have n1 := Aside0.mk hb1; have n3 := Aside0.mk (HB.out.trans (hg1.mono hGe)); have n4 := Aside0.mk (Kd.F_keep HCP.out hk1 (fun k h => h)); clear HCP; have HCP := n4; clear n4; clear BK HB hb1 hk1 hg1; have BK := n1; have HB := n3; clear n1 n3))
  have hs1 := HB.out.size
  have BKf := Aside0.mk (show W1.heap[G]? = some (.cells #[.int .u64 N, .int .u64 1, .slice Ap val.length cp] 26 (0, 0)) from BK.out)
  clear BK
  have HV1 := Aside0.mk (Kd.C_below HV.out HB.out)
  have g0 : W1.cell? ⟨G, 0, none⟩ = some (.int .u64 N) := (blk_cell BKf.out 0).trans rfl
  have g1 : W1.cell? ⟨G, 1, none⟩ = some (.int .u64 1) := (blk_cell BKf.out 1).trans rfl
  have g2 : W1.cell? ⟨G, 2, none⟩ = some (.slice Ap val.length cp) := (blk_cell BKf.out 2).trans rfl
  have HBD := Aside0.mk (below_drew HB.out)
  have HCD := Aside0.mk (Kd.C_drew (Kd.F_now HCP.out))
  have HVD := Aside0.mk (Kd.C_drew HV1.out)
  clear HB HCP HV HV1 hk hN
  go_region_with (first
    | (go_at_call 10; (with_reducible refine (fielded_at HF.out _ Av cv HVD.out l2).mono ?_); rintro e w5 ⟨v5, rfl, ho, hb⟩; obtain ⟨A5, c5, rfl, hc5, hC5⟩ := Kd.R_reads ho; have BK5 := Aside0.mk (blk_below (blk_drew BKf.out) hb); have HB5 := Aside0.mk (HBD.out.trans (hb.mono HBD.out.size)); have HC5 := Aside0.mk hC5; have HP5 := Aside0.mk (Kd.C_below HCD.out hb); have k0 : w5.cell? ⟨G, 0, none⟩ = some (.int .u64 N) := (blk_cell BK5.out 0).trans rfl; have k1 : w5.cell? ⟨G, 1, none⟩ = some (.int .u64 1) := (blk_cell BK5.out 1).trans rfl; have k2 : w5.cell? ⟨G, 2, none⟩ = some (.slice Ap val.length cp) := (blk_cell BK5.out 2).trans rfl; have t5 : Sem.run Tryd.prog (convert 22 9 (.slice A5 out.length c5)) w5 = .ok (.string (strOfNums out)) w5 := Kd.C_string Tryd.underlying22 Tryd.underlying5 Tryd.underlying9 hC5; clear ho hb hC5)
    | (go_at_call 7; (with_reducible refine (spec_PBPart.calls 20 N 1 Ap cp val out _ HP5.out hcp HQ.out).mono ?_); rintro e w6 ⟨v6, rfl, ho, hb⟩; obtain ⟨A6, c6, rfl, hc6, hC6⟩ := Kd.R_reads ho; have HB6 := Aside0.mk (HB5.out.trans (hb.mono HB5.out.size)); have u5 : Sem.run Tryd.prog (convert 22 9 (.slice A5 out.length c5)) w6 = .ok (.string (strOfNums out)) w6 := Kd.C_string Tryd.underlying22 Tryd.underlying5 Tryd.underlying9 (Kd.C_below HC5.out hb); have u6 : Sem.run Tryd.prog (convert 22 9 (.slice A6 out.length c6)) w6 = .ok (.string (strOfNums out)) w6 := Kd.C_string Tryd.underlying22 Tryd.underlying5 Tryd.underlying9 hC6; clear ho hb hC6))
  all_goals
    go_wp2_with fail
    go_ret
    exact ⟨rfl, HB6.out⟩

set_option maxHeartbeats 8000000 in
set_option maxRecDepth 100000 in
theorem law4_11 (ki nu n : Int) (lv : List Int) (N x : Int) (out : List Int) (hk : Int.tmod (wrap64 ki) 13 = 11) (hN : IntKind.u64.wrap ((Int.tmod (IntKind.u64.wrap nu) 536870911) + 1) = N) (hx : n = x) (hQ : spec_PBPart.f 20 N 2 lv = some out) (hF : Fielded 11 N x lv out)
    (Av : Option Addr) (cv : Nat) (w : World) (hlv : (Kd.int .u8).C w Av lv.length lv) (hcv : lv.length ≤ cv) (l2 : lv.length ≤ 2147483647) :
    Calls Tryd.prog 4 #[.int .u8 ki, .int .u32 nu, .int .u64 n, .slice Av lv.length cv] w fun e w' => e = .returned (.bool true) ∧ Below w.heap.size w w' := by
  have HV := Aside0.mk hlv
  have HQ := Aside0.mk hQ
  have HF := Aside0.mk hF
  have d2 : decide ((2147483647 : Int) < (lv.length : Int)) = false := by simp; omega
  have HB := Aside0.mk (Below.refl w.heap.size w)
  clear hlv hQ hF
  subst hx
  go_enter Tryd.func4, Tryd.ntmps4
  go_upto_region 33 with (first | ((with_reducible refine gate_dst (N := 11) rfl ?_); refine box_event ?xhg (N := 11) ?xhd (cs := #[.int .u64 0, .int .u64 0, .slice none 0 0]) (t := 26) ?xhr ?_; (case xhd => rfl); (case xhg => rfl); (case xhr => first | (go_simp; done) | (go_simp; rfl)); intro G hG W1 hb1 hg1; have BK := Aside0.mk hb1; have n3 := Aside0.mk (HB.out.trans hg1); have hGe : w.heap.size ≤ G := (by omega); clear HB hb1 hg1 hG; have HB := n3; clear n3) | ((with_reducible refine gate_ (.store 26 (.tmp 11) (.tmp 23)) rfl ?_); refine store_agg _ _ _ rfl rfl rfl [.int .u64 N, .int .u64 0, .slice none 0 0] BK.out rfl rfl rfl (by kernel_rfl) (by simp [Value.oneCell']) ?_; intro W1 hb1 hk1 hg1; have n1 := Aside0.mk hb1; have n3 := Aside0.mk (HB.out.trans (hg1.mono hGe)); clear BK HB hb1 hk1 hg1; have BK := n1; have HB := n3; clear n1 n3) | ((with_reducible refine gate_st rfl ?_); refine store_any _ _ _ rfl rfl rfl BK.out rfl (by simp) rfl rfl rfl (by kernel_rfl) ?_; intro W1 hb1 hk1 hg1; have n1 := Aside0.mk hb1; have n3 := Aside0.mk (HB.out.trans (hg1.mono hGe)); clear BK HB hb1 hk1 hg1; have BK := n1; have HB := n3; clear n1 n3))
  have HCP := Aside0.mk (Kd.C_F (Kd.heap_int .u8) (Kd.C_below HV.out HB.out))
  have hs1 := HB.out.size
  have BKf := Aside0.mk (show W1.heap[G]? = some (.cells #[.int .u64 N, .int .u64 2, .slice Av lv.length cv] 26 (0, 0)) from BK.out)
  clear BK
  have HV1 := Aside0.mk (Kd.C_below HV.out HB.out)
  have g0 : W1.cell? ⟨G, 0, none⟩ = some (.int .u64 N) := (blk_cell BKf.out 0).trans rfl
  have g1 : W1.cell? ⟨G, 1, none⟩ = some (.int .u64 2) := (blk_cell BKf.out 1).trans rfl
  have g2 : W1.cell? ⟨G, 2, none⟩ = some (.slice Av lv.length cv) := (blk_cell BKf.out 2).trans rfl
  have HBD := Aside0.mk (below_drew HB.out)
  have HCD := Aside0.mk (Kd.C_drew (Kd.F_now HCP.out))
  have HVD := Aside0.mk (Kd.C_drew HV1.out)
  clear HB HCP HV HV1 hk hN
  go_region_with (first
    | (go_at_call 10; (with_reducible refine (fielded_at HF.out _ Av cv HVD.out l2).mono ?_); rintro e w5 ⟨v5, rfl, ho, hb⟩; obtain ⟨A5, c5, rfl, hc5, hC5⟩ := Kd.R_reads ho; have BK5 := Aside0.mk (blk_below (blk_drew BKf.out) hb); have HB5 := Aside0.mk (HBD.out.trans (hb.mono HBD.out.size)); have HC5 := Aside0.mk hC5; have HP5 := Aside0.mk (Kd.C_below HCD.out hb); have k0 : w5.cell? ⟨G, 0, none⟩ = some (.int .u64 N) := (blk_cell BK5.out 0).trans rfl; have k1 : w5.cell? ⟨G, 1, none⟩ = some (.int .u64 2) := (blk_cell BK5.out 1).trans rfl; have k2 : w5.cell? ⟨G, 2, none⟩ = some (.slice Av lv.length cv) := (blk_cell BK5.out 2).trans rfl; have t5 : Sem.run Tryd.prog (convert 22 9 (.slice A5 out.length c5)) w5 = .ok (.string (strOfNums out)) w5 := Kd.C_string Tryd.underlying22 Tryd.underlying5 Tryd.underlying9 hC5; clear ho hb hC5)
    | (go_at_call 7; (with_reducible refine (spec_PBPart.calls 20 N 2 Av cv lv out _ HP5.out hcv HQ.out).mono ?_); rintro e w6 ⟨v6, rfl, ho, hb⟩; obtain ⟨A6, c6, rfl, hc6, hC6⟩ := Kd.R_reads ho; have HB6 := Aside0.mk (HB5.out.trans (hb.mono HB5.out.size)); have u5 : Sem.run Tryd.prog (convert 22 9 (.slice A5 out.length c5)) w6 = .ok (.string (strOfNums out)) w6 := Kd.C_string Tryd.underlying22 Tryd.underlying5 Tryd.underlying9 (Kd.C_below HC5.out hb); have u6 : Sem.run Tryd.prog (convert 22 9 (.slice A6 out.length c6)) w6 = .ok (.string (strOfNums out)) w6 := Kd.C_string Tryd.underlying22 Tryd.underlying5 Tryd.underlying9 hC6; clear ho hb hC6))
  all_goals
    go_wp2_with fail
    go_ret
    exact ⟨rfl, HB6.out⟩

set_option maxHeartbeats 8000000 in
set_option maxRecDepth 100000 in
theorem law4_12 (ki nu n : Int) (lv : List Int) (N x : Int) (out : List Int) (hk : Int.tmod (wrap64 ki) 13 = 12) (hN : IntKind.u64.wrap ((Int.tmod (IntKind.u64.wrap nu) 536870911) + 1) = N) (hx : n = x) (hQ : spec_PBPart.f 20 N 2 lv = some out) (hF : Fielded 12 N x lv out)
    (Av : Option Addr) (cv : Nat) (w : World) (hlv : (Kd.int .u8).C w Av lv.length lv) (hcv : lv.length ≤ cv) (l2 : lv.length ≤ 2147483647) :
    Calls Tryd.prog 4 #[.int .u8 ki, .int .u32 nu, .int .u64 n, .slice Av lv.length cv] w fun e w' => e = .returned (.bool true) ∧ Below w.heap.size w w' := by
  have HV := Aside0.mk hlv
  have HQ := Aside0.mk hQ
  have HF := Aside0.mk hF
  have d2 : decide ((2147483647 : Int) < (lv.length : Int)) = false := by simp; omega
  have HB := Aside0.mk (Below.refl w.heap.size w)
  clear hlv hQ hF
  subst hx
  go_enter Tryd.func4, Tryd.ntmps4
  go_upto_region 33 with (first | ((with_reducible refine gate_dst (N := 11) rfl ?_); refine box_event ?xhg (N := 11) ?xhd (cs := #[.int .u64 0, .int .u64 0, .slice none 0 0]) (t := 26) ?xhr ?_; (case xhd => rfl); (case xhg => rfl); (case xhr => first | (go_simp; done) | (go_simp; rfl)); intro G hG W1 hb1 hg1; have BK := Aside0.mk hb1; have n3 := Aside0.mk (HB.out.trans hg1); have hGe : w.heap.size ≤ G := (by omega); clear HB hb1 hg1 hG; have HB := n3; clear n3) | ((with_reducible refine gate_ (.store 26 (.tmp 11) (.tmp 23)) rfl ?_); refine store_agg _ _ _ rfl rfl rfl [.int .u64 N, .int .u64 0, .slice none 0 0] BK.out rfl rfl rfl (by kernel_rfl) (by simp [Value.oneCell']) ?_; intro W1 hb1 hk1 hg1; have n1 := Aside0.mk hb1; have n3 := Aside0.mk (HB.out.trans (hg1.mono hGe)); clear BK HB hb1 hk1 hg1; have BK := n1; have HB := n3; clear n1 n3) | ((with_reducible refine gate_st rfl ?_); refine store_any _ _ _ rfl rfl rfl BK.out rfl (by simp) rfl rfl rfl (by kernel_rfl) ?_; intro W1 hb1 hk1 hg1; have n1 := Aside0.mk hb1; have n3 := Aside0.mk (HB.out.trans (hg1.mono hGe)); clear BK HB hb1 hk1 hg1; have BK := n1; have HB := n3; clear n1 n3))
  have HCP := Aside0.mk (Kd.C_F (Kd.heap_int .u8) (Kd.C_below HV.out HB.out))
  have hs1 := HB.out.size
  have BKf := Aside0.mk (show W1.heap[G]? = some (.cells #[.int .u64 N, .int .u64 2, .slice Av lv.length cv] 26 (0, 0)) from BK.out)
  clear BK
  have HV1 := Aside0.mk (Kd.C_below HV.out HB.out)
  have g0 : W1.cell? ⟨G, 0, none⟩ = some (.int .u64 N) := (blk_cell BKf.out 0).trans rfl
  have g1 : W1.cell? ⟨G, 1, none⟩ = some (.int .u64 2) := (blk_cell BKf.out 1).trans rfl
  have g2 : W1.cell? ⟨G, 2, none⟩ = some (.slice Av lv.length cv) := (blk_cell BKf.out 2).trans rfl
  have HBD := Aside0.mk (below_drew HB.out)
  have HCD := Aside0.mk (Kd.C_drew (Kd.F_now HCP.out))
  have HVD := Aside0.mk (Kd.C_drew HV1.out)
  clear HB HCP HV HV1 hk hN
  go_region_with (first
    | (go_at_call 10; (with_reducible refine (fielded_at HF.out _ Av cv HVD.out l2).mono ?_); rintro e w5 ⟨v5, rfl, ho, hb⟩; obtain ⟨A5, c5, rfl, hc5, hC5⟩ := Kd.R_reads ho; have BK5 := Aside0.mk (blk_below (blk_drew BKf.out) hb); have HB5 := Aside0.mk (HBD.out.trans (hb.mono HBD.out.size)); have HC5 := Aside0.mk hC5; have HP5 := Aside0.mk (Kd.C_below HCD.out hb); have k0 : w5.cell? ⟨G, 0, none⟩ = some (.int .u64 N) := (blk_cell BK5.out 0).trans rfl; have k1 : w5.cell? ⟨G, 1, none⟩ = some (.int .u64 2) := (blk_cell BK5.out 1).trans rfl; have k2 : w5.cell? ⟨G, 2, none⟩ = some (.slice Av lv.length cv) := (blk_cell BK5.out 2).trans rfl; have t5 : Sem.run Tryd.prog (convert 22 9 (.slice A5 out.length c5)) w5 = .ok (.string (strOfNums out)) w5 := Kd.C_string Tryd.underlying22 Tryd.underlying5 Tryd.underlying9 hC5; clear ho hb hC5)
    | (go_at_call 7; (with_reducible refine (spec_PBPart.calls 20 N 2 Av cv lv out _ HP5.out hcv HQ.out).mono ?_); rintro e w6 ⟨v6, rfl, ho, hb⟩; obtain ⟨A6, c6, rfl, hc6, hC6⟩ := Kd.R_reads ho; have HB6 := Aside0.mk (HB5.out.trans (hb.mono HB5.out.size)); have u5 : Sem.run Tryd.prog (convert 22 9 (.slice A5 out.length c5)) w6 = .ok (.string (strOfNums out)) w6 := Kd.C_string Tryd.underlying22 Tryd.underlying5 Tryd.underlying9 (Kd.C_below HC5.out hb); have u6 : Sem.run Tryd.prog (convert 22 9 (.slice A6 out.length c6)) w6 = .ok (.string (strOfNums out)) w6 := Kd.C_string Tryd.underlying22 Tryd.underlying5 Tryd.underlying9 hC6; clear ho hb hC6))
  all_goals
    go_wp2_with fail
    go_ret
    exact ⟨rfl, HB6.out⟩
end Go.Proofs.YtokediiehlnjkaaDoor.Pb
