/- The law on a struct's end: its walk. -/
import Derived.Test.YtmjilokgpgajjaaGreatSThStop
import Derived.Deep.QuietTactic
import Derived.BigQuiet
import Derived.RegionTactic
import Derived.BigRegion
namespace Go.Proofs.YtmjilokgpgajjaaGreat.Th
open Go.RowKit Go.Proofs.YtmjilokgpgajjaaGreatW.PrintWords Go.Proofs.YtmjilokgpgajjaaGreatW.PrintLast Go.Proofs.YtmjilokgpgajjaaGreatW.PrintMore Go.Proofs.YtmjilokgpgajjaaGreat.PFnTHScripts
set_option linter.unusedVariables false
set_option linter.unusedSimpArgs false
set_option maxHeartbeats 8000000 in
set_option maxRecDepth 100000 in
theorem stops_go (w : World) (g p : Int) (hp : laws_wrProtocol.f g = some p) (hp3 : p = 0 ∨ p = 1 ∨ p = 2) :
    Calls Tryz.prog 6 #[.int .u8 g] w fun e w' => e = .returned (.bool true) ∧ Below w.heap.size w w' := by
  obtain ⟨zs, hzs⟩ : ∃ zs, zs = stopz p := ⟨_, rfl⟩
  have HP := Aside0.mk hp
  have HW : Aside0 (One p ⟨11, 0, ⟨#[]⟩, 0, 0, false⟩ zs) := Aside0.mk (by rw [hzs]; exact one_stop hp3)
  have HT : Aside0 (Sp p ⟨11, 0, ⟨#[]⟩, 0, 0, false⟩ zs) := Aside0.mk (by rw [hzs]; exact spx_stop hp3)
  obtain ⟨ds, hds⟩ : ∃ ds, ds = zs ++ [7] := ⟨_, rfl⟩
  have HR : Aside0 (OneD p ⟨11, 0, ⟨#[]⟩, 0, 0, false⟩ [7] ds) := Aside0.mk (OneR.to (by rw [hzs]; exact rdx_stop hp3) hds)
  have HDS := Aside0.mk hds
  have hzl : zs.length ≤ 3 := by
    rw [hzs]; unfold stopz; split
    · simp
    · simp [stopb, hib]
  have HZL := Aside0.mk hzl
  have hz2 : (p == 2) = true → zs.length = 1 := by intro h; rw [hzs]; simp at h; subst h; rfl
  have HZ2 := Aside0.mk hz2
  clear hp hzs hds hzl hz2
  go_enter Tryz.func6, Tryz.ntmps6
  go_upto_region 4 with (first
    | (go_at_call 7; (with_reducible refine (laws_wrProtocol.calls g p _ HP.out).mono ?_); rintro e w1 ⟨rfl, hd1⟩; obtain ⟨q, rfl⟩ := hd1.out)
    | (go_at_call 12; (with_reducible refine (HT.out.at_ _).mono ?_); rintro e w2 ⟨v2, rfl, ho, hb⟩; have HB2 := Aside0.mk ((pw_below_drewN (Below.refl w.heap.size w) _).trans (hb.mono (pw_below_drewN (Below.refl w.heap.size w) _).size)); have HR2 := Aside0.mk (Kd.R_lower ho (pw_below_drewN (Below.refl w.heap.size w) _).size); clear ho hb)
    | (go_at_call 10; (with_reducible refine (HW.out.at_ _ _ _ (blk_lt (blk_new w2 _)) (blk_new w2 _)).mono ?_); rintro e w4 ⟨A4, c4, rfl, hr, hb⟩; have hbW := below_alloc (Below.refl w2.heap.size w2) (.cells #[.int .i64 11, .int .i64 0, .string ⟨#[]⟩, .int .i64 0, .int .i64 0, .bool false] 25); have HB4 := Aside0.mk ((HB2.out.trans (hbW.mono HB2.out.size)).trans (hb.mono (HB2.out.trans (hbW.mono HB2.out.size)).size)); have HR4 := Aside0.mk (Kd.R_below (Kd.R_below HR2.out hbW) hb); have HC4 := Aside0.mk (Kd.R_reads' hr); clear hr hb hbW))
  obtain ⟨A2, c2, rfl, hc2, hC2⟩ := Kd.R_reads HR4.out
  have hx5 := below_alloc (Below.refl w4.heap.size w4) (.cells #[.int .i64 11] 3)
  have HBL := Aside0.mk (blk_new w4 (.cells #[.int .i64 11] 3))
  have HB5 := Aside0.mk (below_alloc HB4.out (.cells #[.int .i64 11] 3))
  have HCE := Aside0.mk (Kd.C_below hC2 hx5)
  have HCD := Aside0.mk (Kd.C_below HC4.out.2.2 hx5)
  clear hc2 hC2 HR2 HR4 HB2 HC4 hx5
  have e5 : (w4.alloc (.cells #[.int .i64 11] 3)).heap.size = w4.heap.size + 1 := by simp
  have he6 := (Kd.R_of_own (h1 := fun _ => rfl) (xs := []) (ok := fun _ => True) (own_lit (w4.alloc (.cells #[.int .i64 11] 3)) (w4.alloc (.cells #[.int .i64 11] 3)).heap.size 5 .u8 [] (Nat.le_refl _) (by decide)) (fun _ _ => trivial))
  rw [e5] at he6
  have HE6 : Aside0 ((Kd.int .u8).R 5 ((w4.alloc (.cells #[.int .i64 11] 3)).alloc (.cells #[] 5)) (w4.heap.size + 1) (fun _ => True) (.slice (some ⟨w4.heap.size + 1, 0, none⟩) 0 0) []) := Aside0.mk he6
  have E5 := Aside0.mk e5
  have hx6 := below_alloc (Below.refl (w4.alloc (.cells #[.int .i64 11] 3)).heap.size (w4.alloc (.cells #[.int .i64 11] 3))) (.cells #[] 5)
  have HCE6 := Aside0.mk (Kd.C_below HCE.out hx6)
  rw [e5] at hx6
  have HB6 := Aside0.mk hx6
  clear hx6 he6 e5
  go_upto_region 5 with (first
    | ((with_reducible refine gate_builtin (b := .append) (xs := #[.tmp 24, .tmp 25]) rfl ?_); at_builtin; refine Kd.R_append_rows (Kd.int .u8) (w0 := (w4.alloc (.cells #[.int .i64 11] 3))) (w4.heap.size + 1) rfl (.tmp 24) (.tmp 25) 28 5 (.int .u8 0) 1 rfl Tryz.underlying28 info5 rfl (by decide) (by decide) (.slice (some ⟨w4.heap.size + 1, 0, none⟩) 0 0) [] zs A2 zs.length c2 (fun _ => True) (fun _ => False) (by rfl) (by rfl) HE6.out HCE6.out (fun _ _ h => h) (fun _ h => h.elim) (fun _ _ => trivial) HB6.out (by simp) (by have := HZL.out; simp; omega) ?_; intro v1 w6 ho hb hg hat; rw [List.nil_append] at ho; have HO7 := Aside0.mk ho; have HB7 := Aside0.mk hb; clear ho hb hg hat)
    | ((with_reducible refine gate_builtin (b := .append) (xs := #[.tmp 26, .tmp 27]) rfl ?_); at_builtin; refine Kd.R_append (Kd.int .u8) (w0 := (w4.alloc (.cells #[.int .i64 11] 3))) (w4.heap.size + 1) rfl (.tmp 26) (.tmp 27) 28 5 (.int .u8 0) 1 rfl Tryz.underlying28 info5 rfl (by decide) (by decide) v1 zs 7 [.int .u8 7] (fun _ => True) (fun _ => False) (by rfl) (by rfl) rfl (fun _ hk => hk.elim) (fun _ _ => trivial) HO7.out HB7.out (by have := HB7.out.size; have := E5.out; omega) (by have := HZL.out; omega) ?_; intro v2 w8 ho hb hg hat; rw [← HDS.out] at ho; obtain ⟨A8, c8, rfl, hc8, hC8⟩ := Kd.R_reads ho; have HC8 := Aside0.mk hC8; have HL8 := Aside0.mk hc8; rw [← E5.out] at hb; have HB8 := Aside0.mk hb; have HBL8 := Aside0.mk (blk_below HBL.out hb); clear ho hb hg hat hC8 hc8)
    | (go_at_call 11; (with_reducible refine (HR.out.at_ w8 w4.heap.size A8 c8 HBL8.out HC8.out HL8.out (by have := HZL.out; rw [HDS.out]; simp; omega)).mono ?_); rintro e w9 ⟨v9, rfl, ho, hb⟩; have HV9 := Aside0.mk ho; have HB9 := Aside0.mk (HB8.out.trans (hb.mono HB8.out.size)); clear ho hb))
  obtain ⟨hvl, (⟨_, hv0⟩ | ⟨gv, cap, cur, rfl, hgN, hgb, h1c, hcm, hcs, hct⟩)⟩ := HV9.out
  · omega
  have u3 : w9.cell? ⟨gv, 3, none⟩ = some (.int .i64 0) := by
    rw [blk_cell hgb 3]
    have : cur[3]? = (cl6 ⟨11, 0, ⟨#[]⟩, 0, 0, false⟩)[3]? := by rw [← hct, List.getElem?_take_of_lt (by decide), Array.getElem?_toList]
    rw [this]; rfl
  have s1 : Sem.run Tryz.prog (convert 28 9 (.slice A4 zs.length c4)) w9 = .ok (.string (strOfNums zs)) w9 := Kd.C_string Tryz.underlying28 Tryz.underlying5 Tryz.underlying9 (Kd.C_below HCD.out HB9.out)
  have s2 : Sem.run Tryz.prog (convert 28 9 (.slice A2 zs.length c2)) w9 = .ok (.string (strOfNums zs)) w9 := Kd.C_string Tryz.underlying28 Tryz.underlying5 Tryz.underlying9 (Kd.C_below HCE.out HB9.out)
  have HBF := Aside0.mk (HB5.out.trans (HB9.out.mono HB5.out.size))
  clear hvl hgN hgb hcm hcs hct HV9
  have hpq : (p != 2) = true ∨ ((p != 2) = false ∧ ((zs.length : Int) == 1) = true) := by
    by_cases h : p = 2
    · right
      refine ⟨by simp [h], ?_⟩
      rw [HZ2.out (by simp [h])]; rfl
    · left; simp [h]
  clear hp3
  rcases hpq with hq | ⟨hq, hq2⟩
  all_goals
    go_wp2_with fail
    go_ret
    exact ⟨rfl, HBF.out⟩
theorem law_stops (w : World) (g : Int) (g0 : 0 ≤ g) (g1 : g ≤ 255) :
    Calls Tryz.prog 6 #[.int .u8 g] w fun e w' => e = .returned (.bool true) ∧ Below w.heap.size w w' := by
  have hp : laws_wrProtocol.f g = some (g % 3) := by
    have e : wrap64 g = g := by unfold wrap64; omega
    show some (Int.tmod (wrap64 g) 3) = _
    rw [e, Int.tmod_eq_emod_of_nonneg g0]
  exact stops_go w g (g % 3) hp (by omega)
end Go.Proofs.YtmjilokgpgajjaaGreat.Th

