/- The maker's values: plain ones. -/
import Derived.Test.YtekmminmgjoabaaDoorYKd
namespace Go.Proofs.YtekmminmgjoabaaDoor.Js
open Go.RowKit Go.Proofs.YtekmminmgjoabaaDoorW.PrintWords Go.Proofs.YtekmminmgjoabaaDoorW.PrintLast Go.Proofs.YtekmminmgjoabaaDoorW.PrintMore
set_option linter.unusedVariables false
set_option linter.unusedSimpArgs false
set_option maxHeartbeats 8000000 in
set_option maxRecDepth 100000 in
theorem node_leaves (f : Nat) (w : World) (B m : Nat) (code : List Int) (left deep : Int) (hB : B ≤ m) (hd : (6 - deep).toNat = f) (hd0 : 0 ≤ deep) (hd1 : deep ≤ 100) (hl1 : left ≤ 1000) (hl0 : cntB f - 1000000 ≤ left) (hm : MadeAt w B m code left) (ih : ∀ g, f = g + 1 → NodeC g) (hsel : kindF f (byteF code).1 left < 6) :
    Calls Tryd.prog 24 #[.pointer (some ⟨m, 0, none⟩), .int .i64 deep] w (NodePost w B m f code left) := by
  have hlt := hm.lt
  obtain ⟨a0, a1, a2⟩ := byteF_in hm.bytes
  have hcb := cntB_pos f
  have hll : -1000000 ≤ left := by omega
  have hmz := hm.below hB (below_alloc (Below.refl w.heap.size w) (.cells #[.int .i64 0, .string ⟨#[]⟩, .slice none 0 0, .slice none 0 0] 29))
  obtain ⟨cv, hm1, hm2, hm3⟩ := hmz
  have HVZ := Aside0.mk ((Mv.refl w m).alloc (Nat.le_of_lt hlt) (.cells #[.int .i64 0, .string ⟨#[]⟩, .slice none 0 0, .slice none 0 0] 29))
  have HRZ := Aside0.mk (blk_new w (.cells #[.int .i64 0, .string ⟨#[]⟩, .slice none 0 0, .slice none 0 0] 29))
  have HM1 := Aside0.mk hm1
  have HM2 := Aside0.mk hm2
  have HM3 := Aside0.mk hm3
  have HB := Aside0.mk hB
  have q1 : (w.alloc (.cells #[.int .i64 0, .string ⟨#[]⟩, .slice none 0 0, .slice none 0 0] 29)).cell? ⟨m, 1, none⟩ = some (.int .i64 left) := (blk_cell hm1 1).trans rfl
  obtain ⟨b, hb⟩ : ∃ b, b = (byteF code).1 := ⟨_, rfl⟩
  obtain ⟨c1, hc1⟩ : ∃ c, c = (byteF code).2 := ⟨_, rfl⟩
  rw [← hb] at a0 a1
  have HE := Aside0.mk (And.intro hb hc1)
  have H1 := Aside0.mk (fun w1 h => byte_calls w1 B m code (left - 1) hB h)
  rw [← hb, ← hc1] at H1
  have HD := Aside0.mk hd
  have HL0 := Aside0.mk hl0
  have HLT := Aside0.mk hlt
  have dcase : (decide (6 ≤ deep) = true ∧ Aside0 (f = 0)) ∨ (decide (6 ≤ deep) = false ∧ Aside0 (f ≠ 0)) := by
    by_cases h : 6 ≤ deep
    · left; exact ⟨by simpa using h, ⟨by omega⟩⟩
    · right; exact ⟨by simpa using h, ⟨by omega⟩⟩
  have lcase : (decide (left - 1 ≤ 0) = true ∧ Aside0 (left - 1 ≤ 0)) ∨ (decide (left - 1 ≤ 0) = false ∧ Aside0 (¬ left - 1 ≤ 0)) := by
    by_cases h : left - 1 ≤ 0
    · left; exact ⟨by simpa using h, ⟨h⟩⟩
    · right; exact ⟨by simpa using h, ⟨h⟩⟩
  have DC := Aside0.mk dcase
  have LC := Aside0.mk lcase
  have HKF := Aside0.mk (fun kk hk h => node_leaf f code left kk hk h)
  rw [← hb, ← hc1] at HKF
  rw [← hb] at hsel
  have HSEL := Aside0.mk hsel
  clear hsel
  clear hm1 hm2 hm3 hB hb hc1 a2 hm hd hl0 hcb hlt dcase lcase
  go_enter Tryd.func24, Tryd.ntmps24
  go_upto_region 3 with (first
    | ((with_reducible refine gate_st rfl ?_); refine store_any _ _ _ rfl rfl rfl HM1.out rfl (by simp) rfl rfl rfl (by kernel_rfl) ?_; intro W1 hb1 hk1 hg1; have HMA := Aside0.mk (show MadeAt W1 B m code (left - 1) from ⟨cv, hb1, HM2.out.below (hg1.mono HB.out), HM3.out⟩); have HVA := Aside0.mk (HVZ.out.trans ⟨hk1, hg1⟩); have HRA := Aside0.mk ((Mv.mk hk1 hg1).blk HRZ.out (by have := HLT.out; omega)); clear hb1 hk1 hg1)
    | (go_at_call 46; (with_reducible refine (H1.out _ HMA.out).mono ?_); rintro e w2 ⟨rfl, hm2, hv2⟩; have HMB := Aside0.mk hm2; have HVB := Aside0.mk (HVA.out.trans hv2); have HRB := Aside0.mk (hv2.blk HRA.out (by have := HLT.out; omega)); have q2 : w2.cell? ⟨m, 1, none⟩ = some (.int .i64 (left - 1)) := by { obtain ⟨cv2, h, -⟩ := hm2; exact (blk_cell h 1).trans rfl }; clear hm2 hv2))
  obtain ⟨tb, htb⟩ : ∃ tb, tb = (decide (6 ≤ deep) || decide (left - 1 ≤ 0)) := ⟨_, rfl⟩
  have HTB := Aside0.mk htb
  clear htb
  go_cut [30] (fun v30 wx => v30 = .bool tb ∧ w2 = wx)
  case first =>
    rcases DC.out with ⟨d1, -⟩ | ⟨d1, -⟩
    · have e : tb = true := by rw [HTB.out, d1]; rfl
      go_wp2_with fail
      go_meet
      exact ⟨by rw [e], rfl⟩
    · have e : tb = decide (left - 1 ≤ 0) := by rw [HTB.out, d1]; rfl
      have HE2 := Aside0.mk e
      clear e
      go_wp2_with fail
      go_meet
      exact ⟨by rw [HE2.out], rfl⟩
  case rest =>
    obtain ⟨rfl, rfl⟩ := hcut
    obtain ⟨kk, hkk⟩ : ∃ kk, kk = if tb then b % 10 % 5 else b % 10 := ⟨_, rfl⟩
    have HKK := Aside0.mk hkk
    have hfk : kk = if f = 0 ∨ left - 1 ≤ 0 then b % 10 % 5 else b % 10 := by
      rw [hkk, HTB.out]
      have e : decide (6 ≤ deep) = decide (f = 0) := by
        rcases DC.out with ⟨a, b⟩ | ⟨a, b⟩
        · rw [a]; simp [b.out]
        · rw [a]; simp [b.out]
      rw [e]
      simp
    have HLF := Aside0.mk (fun h => HKF.out kk hfk h)
    have hsel := HSEL.out
    rw [show kindF f b left = kk from hfk.symm] at hsel
    have HSL := Aside0.mk hsel
    clear hsel
    clear hfk
    have hk0 : 0 ≤ kk := by rw [hkk]; split <;> omega
    have hk1 : kk ≤ 9 := by rw [hkk]; split <;> omega
    clear hkk
    go_upto_if 30 with (fail)
    go_cut [5] (fun v5 wx => v5 = .int .i64 kk ∧ w2 = wx)
    case first =>
      cases tb
      · have e := HKK.out
        simp only [Bool.false_eq_true, if_false] at e
        have HE2 := Aside0.mk e
        clear e
        go_wp2_with fail
        go_meet
        exact ⟨by rw [HE2.out], rfl⟩
      · have e := HKK.out
        simp only [if_true] at e
        have HE2 := Aside0.mk (show kk = b % 5 by omega)
        clear e
        go_wp2_with fail
        go_meet
        exact ⟨by rw [HE2.out], rfl⟩
    case rest =>
      obtain ⟨rfl, rfl⟩ := hcut
      have hcase : kk = 0 ∨ kk = 1 ∨ kk = 2 ∨ kk = 3 ∨ (kk = 4 ∨ kk = 5) := by have := HSL.out; omega
      rcases hcase with rfl | rfl | rfl | rfl | hk
      · go_wp2_with ((with_reducible refine gate_st rfl ?_); refine store_agg _ _ _ rfl rfl rfl [.int .i64 1, .string ⟨#[110, 117, 108, 108]⟩, .slice none 0 0, .slice none 0 0] HRB.out rfl (by simp) rfl (by kernel_rfl) (by simp [Value.oneCell']) ?_; intro W3 hb3 hk3 hg3; have r0 : W3.cell? ⟨w.heap.size, 0, none⟩ = some (.int .i64 1) := (blk_cell hb3 0).trans rfl; have r1 : W3.cell? ⟨w.heap.size, 1, none⟩ = some (.string ⟨#[110, 117, 108, 108]⟩) := (blk_cell hb3 1).trans rfl; have r2 : W3.cell? ⟨w.heap.size, 2, none⟩ = some (.slice none 0 0) := (blk_cell hb3 2).trans rfl; have r3 : W3.cell? ⟨w.heap.size, 3, none⟩ = some (.slice none 0 0) := (blk_cell hb3 3).trans rfl; have HR3 := Aside0.mk hb3; have HK3 := Aside0.mk hk3; have HG3 := Aside0.mk hg3; clear hb3 hk3 hg3)
        have hn := HLF.out (by decide)
        have HN := Aside0.mk hn
        clear hn
        refine bodyPost_ret (v := .agg #[.int .i64 1, .string ⟨#[110, 117, 108, 108]⟩, .slice none 0 0, .slice none 0 0]) (by simp [results, Tryd.results24, go_sem, r0, r1, r2, r3]) rfl ?_
        refine ⟨.slice none 0 0, .slice none 0 0, ?_⟩
        rw [HN.out]
        exact ⟨rfl, kJ_leaf, HMB.out.above HB.out HG3.out HLT.out, HVB.out.setNew HK3.out HG3.out (Nat.le_refl _) HLT.out⟩
      · have HM4 := Aside0.mk (HMB.out.below HB.out (below_alloc (Below.refl w2.heap.size w2) (.cells #[.string ⟨#[116, 114, 117, 101]⟩, .string ⟨#[102, 97, 108, 115, 101]⟩] 9)))
        have HV4 := Aside0.mk (HVB.out.alloc (Nat.le_of_lt HMB.out.lt) (.cells #[.string ⟨#[116, 114, 117, 101]⟩, .string ⟨#[102, 97, 108, 115, 101]⟩] 9))
        have HR4 := Aside0.mk (blk_below HRB.out (below_alloc (Below.refl w2.heap.size w2) (.cells #[.string ⟨#[116, 114, 117, 101]⟩, .string ⟨#[102, 97, 108, 115, 101]⟩] 9)))
        have HL4 := Aside0.mk (blk_new w2 (.cells #[.string ⟨#[116, 114, 117, 101]⟩, .string ⟨#[102, 97, 108, 115, 101]⟩] 9))
        obtain ⟨x, hx⟩ : ∃ x, x = (byteF c1).1 := ⟨_, rfl⟩
        obtain ⟨c2, hc2⟩ : ∃ c, c = (byteF c1).2 := ⟨_, rfl⟩
        have hxi := byteF_in HMB.out.bytes
        have H2 := Aside0.mk (fun w1 h => byte_calls w1 B m c1 (left - 1) HB.out h)
        obtain ⟨tv, htv⟩ : ∃ tv : List Int, tv = if x % 2 = 0 then [116, 114, 117, 101] else [102, 97, 108, 115, 101] := ⟨_, rfl⟩
        have hn : nodeF f code left = (.mk 2 tv [] [], c2, left - 1) := by rw [HLF.out (by decide), htv, hx, hc2]; rfl
        have hlb := litB x
        rw [← htv] at hlb
        have HLB := Aside0.mk hlb
        have HN := Aside0.mk hn
        rw [← hx, ← hc2] at H2
        rw [← hx] at hxi
        obtain ⟨x0, x1, -⟩ := hxi
        have HNE := Aside0.mk (show w2.heap.size ≠ m ∧ w.heap.size ≠ m by have := HMB.out.lt; have := HLT.out; omega)
        clear hn hx hc2 htv hlb
        go_wp2_with (first
          | (go_at_call 46; (with_reducible refine (H2.out _ HM4.out).mono ?_); rintro e w5 ⟨rfl, hm5, hv5⟩; have hl := hv5.blk HL4.out HNE.out.1; have l0 : w5.cell? ⟨w2.heap.size, (x % 2).toNat, none⟩ = some (.string (strOfNums tv)) := (blk_cell hl _).trans HLB.out; have HM5 := Aside0.mk hm5; have HV5 := Aside0.mk (HV4.out.trans hv5); have HR5 := Aside0.mk (hv5.blk HR4.out HNE.out.2); clear hm5 hv5 hl)
          | ((with_reducible refine gate_st rfl ?_); refine store_agg _ _ _ rfl rfl rfl [.int .i64 2, .string (strOfNums tv), .slice none 0 0, .slice none 0 0] HR5.out rfl (by simp) rfl (by kernel_rfl) (by simp [Value.oneCell']) ?_; intro W3 hb3 hk3 hg3; have r0 : W3.cell? ⟨w.heap.size, 0, none⟩ = some (.int .i64 2) := (blk_cell hb3 0).trans rfl; have r1 : W3.cell? ⟨w.heap.size, 1, none⟩ = some (.string (strOfNums tv)) := (blk_cell hb3 1).trans rfl; have r2 : W3.cell? ⟨w.heap.size, 2, none⟩ = some (.slice none 0 0) := (blk_cell hb3 2).trans rfl; have r3 : W3.cell? ⟨w.heap.size, 3, none⟩ = some (.slice none 0 0) := (blk_cell hb3 3).trans rfl; have HR3 := Aside0.mk hb3; have HK3 := Aside0.mk hk3; have HG3 := Aside0.mk hg3; clear hb3 hk3 hg3))
        refine bodyPost_ret (v := .agg #[.int .i64 2, .string (strOfNums tv), .slice none 0 0, .slice none 0 0]) (by simp [results, Tryd.results24, go_sem, r0, r1, r2, r3]) rfl ?_
        refine ⟨.slice none 0 0, .slice none 0 0, ?_⟩
        rw [HN.out]
        exact ⟨rfl, kJ_leaf, HM5.out.above HB.out HG3.out HLT.out, HV5.out.setNew HK3.out HG3.out (Nat.le_refl _) HLT.out⟩
      · have hn : nodeF f code left = (.mk 3 (numF c1).1 [] [], (numF c1).2, left - 1) := by rw [HLF.out (by decide)]; rfl
        have HN := Aside0.mk hn
        clear hn
        have HNE := Aside0.mk (show w.heap.size ≠ m by have := HLT.out; omega)
        go_wp2_with (first
          | (go_at_call 47; (with_reducible refine (number_calls w2 B m c1 (left - 1) HB.out HMB.out).mono ?_); rintro e w5 ⟨rfl, hm5, hv5⟩; have HM5 := Aside0.mk hm5; have HV5 := Aside0.mk (HVB.out.trans hv5); have HR5 := Aside0.mk (hv5.blk HRB.out HNE.out); clear hm5 hv5)
          | ((with_reducible refine gate_st rfl ?_); refine store_agg _ _ _ rfl rfl rfl [.int .i64 3, .string (strOfNums (numF c1).1), .slice none 0 0, .slice none 0 0] HR5.out rfl (by simp) rfl (by kernel_rfl) (by simp [Value.oneCell']) ?_; intro W3 hb3 hk3 hg3; have r0 : W3.cell? ⟨w.heap.size, 0, none⟩ = some (.int .i64 3) := (blk_cell hb3 0).trans rfl; have r1 : W3.cell? ⟨w.heap.size, 1, none⟩ = some (.string (strOfNums (numF c1).1)) := (blk_cell hb3 1).trans rfl; have r2 : W3.cell? ⟨w.heap.size, 2, none⟩ = some (.slice none 0 0) := (blk_cell hb3 2).trans rfl; have r3 : W3.cell? ⟨w.heap.size, 3, none⟩ = some (.slice none 0 0) := (blk_cell hb3 3).trans rfl; have HR3 := Aside0.mk hb3; have HK3 := Aside0.mk hk3; have HG3 := Aside0.mk hg3; clear hb3 hk3 hg3))
        refine bodyPost_ret (v := .agg #[.int .i64 3, .string (strOfNums (numF c1).1), .slice none 0 0, .slice none 0 0]) (by simp [results, Tryd.results24, go_sem, r0, r1, r2, r3]) rfl ?_
        refine ⟨.slice none 0 0, .slice none 0 0, ?_⟩
        rw [HN.out]
        exact ⟨rfl, kJ_leaf, HM5.out.above HB.out HG3.out HLT.out, HV5.out.setNew HK3.out HG3.out (Nat.le_refl _) HLT.out⟩
      · have hn : nodeF f code left = (.mk 3 (numF c1).1 [] [], (numF c1).2, left - 1) := by rw [HLF.out (by decide)]; rfl
        have HN := Aside0.mk hn
        clear hn
        have HNE := Aside0.mk (show w.heap.size ≠ m by have := HLT.out; omega)
        go_wp2_with (first
          | (go_at_call 47; (with_reducible refine (number_calls w2 B m c1 (left - 1) HB.out HMB.out).mono ?_); rintro e w5 ⟨rfl, hm5, hv5⟩; have HM5 := Aside0.mk hm5; have HV5 := Aside0.mk (HVB.out.trans hv5); have HR5 := Aside0.mk (hv5.blk HRB.out HNE.out); clear hm5 hv5)
          | ((with_reducible refine gate_st rfl ?_); refine store_agg _ _ _ rfl rfl rfl [.int .i64 3, .string (strOfNums (numF c1).1), .slice none 0 0, .slice none 0 0] HR5.out rfl (by simp) rfl (by kernel_rfl) (by simp [Value.oneCell']) ?_; intro W3 hb3 hk3 hg3; have r0 : W3.cell? ⟨w.heap.size, 0, none⟩ = some (.int .i64 3) := (blk_cell hb3 0).trans rfl; have r1 : W3.cell? ⟨w.heap.size, 1, none⟩ = some (.string (strOfNums (numF c1).1)) := (blk_cell hb3 1).trans rfl; have r2 : W3.cell? ⟨w.heap.size, 2, none⟩ = some (.slice none 0 0) := (blk_cell hb3 2).trans rfl; have r3 : W3.cell? ⟨w.heap.size, 3, none⟩ = some (.slice none 0 0) := (blk_cell hb3 3).trans rfl; have HR3 := Aside0.mk hb3; have HK3 := Aside0.mk hk3; have HG3 := Aside0.mk hg3; clear hb3 hk3 hg3))
        refine bodyPost_ret (v := .agg #[.int .i64 3, .string (strOfNums (numF c1).1), .slice none 0 0, .slice none 0 0]) (by simp [results, Tryd.results24, go_sem, r0, r1, r2, r3]) rfl ?_
        refine ⟨.slice none 0 0, .slice none 0 0, ?_⟩
        rw [HN.out]
        exact ⟨rfl, kJ_leaf, HM5.out.above HB.out HG3.out HLT.out, HV5.out.setNew HK3.out HG3.out (Nat.le_refl _) HLT.out⟩
      · have hn : nodeF f code left = (.mk 4 (textF c1).1 [] [], (textF c1).2.2, left - 1) := by
          rw [HLF.out (by omega)]
          rcases hk with rfl | rfl <;> rfl
        have HN := Aside0.mk hn
        clear hn
        have HNE := Aside0.mk (show w.heap.size ≠ m by have := HLT.out; omega)
        rcases hk with rfl | rfl
        all_goals
         go_wp2_with (first
          | (go_at_call 31; (with_reducible refine (text_calls w2 B m c1 (left - 1) HB.out HMB.out).mono ?_); rintro e w5 ⟨rfl, hm5, hv5⟩; have HM5 := Aside0.mk hm5; have HV5 := Aside0.mk (HVB.out.trans hv5); have HR5 := Aside0.mk (hv5.blk HRB.out HNE.out); clear hm5 hv5)
          | ((with_reducible refine gate_st rfl ?_); refine store_agg _ _ _ rfl rfl rfl [.int .i64 4, .string (strOfNums (textF c1).1), .slice none 0 0, .slice none 0 0] HR5.out rfl (by simp) rfl (by kernel_rfl) (by simp [Value.oneCell']) ?_; intro W3 hb3 hk3 hg3; have r0 : W3.cell? ⟨w.heap.size, 0, none⟩ = some (.int .i64 4) := (blk_cell hb3 0).trans rfl; have r1 : W3.cell? ⟨w.heap.size, 1, none⟩ = some (.string (strOfNums (textF c1).1)) := (blk_cell hb3 1).trans rfl; have r2 : W3.cell? ⟨w.heap.size, 2, none⟩ = some (.slice none 0 0) := (blk_cell hb3 2).trans rfl; have r3 : W3.cell? ⟨w.heap.size, 3, none⟩ = some (.slice none 0 0) := (blk_cell hb3 3).trans rfl; have HR3 := Aside0.mk hb3; have HK3 := Aside0.mk hk3; have HG3 := Aside0.mk hg3; clear hb3 hk3 hg3))
         refine bodyPost_ret (v := .agg #[.int .i64 4, .string (strOfNums (textF c1).1), .slice none 0 0, .slice none 0 0]) (by simp [results, Tryd.results24, go_sem, r0, r1, r2, r3]) rfl ?_
         refine ⟨.slice none 0 0, .slice none 0 0, ?_⟩
         rw [HN.out]
         exact ⟨rfl, kJ_leaf, HM5.out.above HB.out HG3.out HLT.out, HV5.out.setNew HK3.out HG3.out (Nat.le_refl _) HLT.out⟩
end Go.Proofs.YtekmminmgjoabaaDoor.Js

