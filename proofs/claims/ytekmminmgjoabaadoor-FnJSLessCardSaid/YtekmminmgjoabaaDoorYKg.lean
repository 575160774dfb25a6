/- The maker's values: objects. -/
import Derived.Test.YtekmminmgjoabaaDoorYKd
namespace Go.Proofs.YtekmminmgjoabaaDoor.Js
open Go.RowKit Go.Proofs.YtekmminmgjoabaaDoorW.PrintWords Go.Proofs.YtekmminmgjoabaaDoorW.PrintLast Go.Proofs.YtekmminmgjoabaaDoorW.PrintMore
set_option linter.unusedVariables false
set_option linter.unusedSimpArgs false
set_option maxHeartbeats 8000000 in
set_option maxRecDepth 100000 in
theorem node_objects (f : Nat) (w : World) (B m : Nat) (code : List Int) (left deep : Int) (hB : B ≤ m) (hd : (6 - deep).toNat = f) (hd0 : 0 ≤ deep) (hd1 : deep ≤ 100) (hl1 : left ≤ 1000) (hl0 : cntB f - 1000000 ≤ left) (hm : MadeAt w B m code left) (ih : ∀ g, f = g + 1 → NodeC g) (hsel : kindF f (byteF code).1 left = 8 ∨ kindF f (byteF code).1 left = 9) :
    Calls Tryd.prog 24 #[.pointer (some ⟨m, 0, none⟩), .int .i64 deep] w (NodePost w B m f code left) := by
  have hlt := hm.lt
  obtain ⟨a0, a1, a2⟩ := byteF_in hm.bytes
  have hcb := cntB_pos f
  have hll : -1000000 ≤ left := by omega
  have hmz := hm.below hB (below_alloc (Below.refl w.heap.size w) (.cells #[.int .i64 0, .string ⟨#[]⟩, .slice none 0 0, .slice none 0 0] 29))
  obtain ⟨cv, hm1, hm2, hm3⟩ := hmz
  have HVZ := Aside0.mk ((Mv.refl w m).alloc (Nat.le_of_lt hlt) (.cells #[.int .i64 0, .string ⟨#[]⟩, .slice none 0 0, .slice none 0 0] 29))
  have HRZ := Aside0.mk (blk_new w (.cells #[.int .i64 0, .string ⟨#[]⟩, .slice none 0 0, .slice none 0 0] 29))
  have HM1 := Aside0.mk hm1
  have HM2 := Aside0.mk hm2
  have HM3 := Aside0.mk hm3
  have HB := Aside0.mk hB
  have q1 : (w.alloc (.cells #[.int .i64 0, .string ⟨#[]⟩, .slice none 0 0, .slice none 0 0] 29)).cell? ⟨m, 1, none⟩ = some (.int .i64 left) := (blk_cell hm1 1).trans rfl
  obtain ⟨b, hb⟩ : ∃ b, b = (byteF code).1 := ⟨_, rfl⟩
  obtain ⟨c1, hc1⟩ : ∃ c, c = (byteF code).2 := ⟨_, rfl⟩
  rw [← hb] at a0 a1
  have HE := Aside0.mk (And.intro hb hc1)
  have H1 := Aside0.mk (fun w1 h => byte_calls w1 B m code (left - 1) hB h)
  rw [← hb, ← hc1] at H1
  have HD := Aside0.mk hd
  have HL0 := Aside0.mk hl0
  have HLT := Aside0.mk hlt
  have dcase : (decide (6 ≤ deep) = true ∧ Aside0 (f = 0)) ∨ (decide (6 ≤ deep) = false ∧ Aside0 (f ≠ 0)) := by
    by_cases h : 6 ≤ deep
    · left; exact ⟨by simpa using h, ⟨by omega⟩⟩
    · right; exact ⟨by simpa using h, ⟨by omega⟩⟩
  have lcase : (decide (left - 1 ≤ 0) = true ∧ Aside0 (left - 1 ≤ 0)) ∨ (decide (left - 1 ≤ 0) = false ∧ Aside0 (¬ left - 1 ≤ 0)) := by
    by_cases h : left - 1 ≤ 0
    · left; exact ⟨by simpa using h, ⟨h⟩⟩
    · right; exact ⟨by simpa using h, ⟨h⟩⟩
  have DC := Aside0.mk dcase
  have LC := Aside0.mk lcase
  have HKF := Aside0.mk (fun kk hk h => node_leaf f code left kk hk h)
  rw [← hb, ← hc1] at HKF
  rw [← hb] at hsel
  have HSEL := Aside0.mk hsel
  clear hsel
  clear hm1 hm2 hm3 hB hb hc1 a2 hm hd hl0 hcb hlt dcase lcase
  go_enter Tryd.func24, Tryd.ntmps24
  go_upto_region 3 with (first
    | ((with_reducible refine gate_st rfl ?_); refine store_any _ _ _ rfl rfl rfl HM1.out rfl (by simp) rfl rfl rfl (by kernel_rfl) ?_; intro W1 hb1 hk1 hg1; have HMA := Aside0.mk (show MadeAt W1 B m code (left - 1) from ⟨cv, hb1, HM2.out.below (hg1.mono HB.out), HM3.out⟩); have HVA := Aside0.mk (HVZ.out.trans ⟨hk1, hg1⟩); have HRA := Aside0.mk ((Mv.mk hk1 hg1).blk HRZ.out (by have := HLT.out; omega)); clear hb1 hk1 hg1)
    | (go_at_call 46; (with_reducible refine (H1.out _ HMA.out).mono ?_); rintro e w2 ⟨rfl, hm2, hv2⟩; have HMB := Aside0.mk hm2; have HVB := Aside0.mk (HVA.out.trans hv2); have HRB := Aside0.mk (hv2.blk HRA.out (by have := HLT.out; omega)); have q2 : w2.cell? ⟨m, 1, none⟩ = some (.int .i64 (left - 1)) := by { obtain ⟨cv2, h, -⟩ := hm2; exact (blk_cell h 1).trans rfl }; clear hm2 hv2))
  obtain ⟨tb, htb⟩ : ∃ tb, tb = (decide (6 ≤ deep) || decide (left - 1 ≤ 0)) := ⟨_, rfl⟩
  have HTB := Aside0.mk htb
  clear htb
  go_cut [30] (fun v30 wx => v30 = .bool tb ∧ w2 = wx)
  case first =>
    rcases DC.out with ⟨d1, -⟩ | ⟨d1, -⟩
    · have e : tb = true := by rw [HTB.out, d1]; rfl
      go_wp2_with fail
      go_meet
      exact ⟨by rw [e], rfl⟩
    · have e : tb = decide (left - 1 ≤ 0) := by rw [HTB.out, d1]; rfl
      have HE2 := Aside0.mk e
      clear e
      go_wp2_with fail
      go_meet
      exact ⟨by rw [HE2.out], rfl⟩
  case rest =>
    obtain ⟨rfl, rfl⟩ := hcut
    obtain ⟨kk, hkk⟩ : ∃ kk, kk = if tb then b % 10 % 5 else b % 10 := ⟨_, rfl⟩
    have HKK := Aside0.mk hkk
    have hfk : kk = if f = 0 ∨ left - 1 ≤ 0 then b % 10 % 5 else b % 10 := by
      rw [hkk, HTB.out]
      have e : decide (6 ≤ deep) = decide (f = 0) := by
        rcases DC.out with ⟨a, b⟩ | ⟨a, b⟩
        · rw [a]; simp [b.out]
        · rw [a]; simp [b.out]
      rw [e]
      simp
    have HLF := Aside0.mk (fun h => HKF.out kk hfk h)
    have hsel := HSEL.out
    rw [show kindF f b left = kk from hfk.symm] at hsel
    have HSL := Aside0.mk hsel
    clear hsel
    clear hfk
    have hk0 : 0 ≤ kk := by rw [hkk]; split <;> omega
    have hk1 : kk ≤ 9 := by rw [hkk]; split <;> omega
    clear hkk
    go_upto_if 30 with (fail)
    go_cut [5] (fun v5 wx => v5 = .int .i64 kk ∧ w2 = wx)
    case first =>
      cases tb
      · have e := HKK.out
        simp only [Bool.false_eq_true, if_false] at e
        have HE2 := Aside0.mk e
        clear e
        go_wp2_with fail
        go_meet
        exact ⟨by rw [HE2.out], rfl⟩
      · have e := HKK.out
        simp only [if_true] at e
        have HE2 := Aside0.mk (show kk = b % 5 by omega)
        clear e
        go_wp2_with fail
        go_meet
        exact ⟨by rw [HE2.out], rfl⟩
    case rest =>
      obtain ⟨rfl, rfl⟩ := hcut
      have hk := HSL.out
      have htb : tb = false := by
        cases tb
        · rfl
        · have := HKK.out
          simp at this
          omega
      subst htb
      have hfl : f ≠ 0 ∧ ¬ left - 1 ≤ 0 := by
        have h1 := HTB.out
        have h2 := HD.out
        rw [eq_comm, Bool.or_eq_false_iff] at h1
        obtain ⟨h3, h4⟩ := h1
        simp at h3 h4
        omega
      obtain ⟨g, rfl⟩ : ∃ g, f = g + 1 := ⟨f - 1, by omega⟩
      obtain ⟨x, hx⟩ : ∃ x, x = (byteF c1).1 := ⟨_, rfl⟩
      obtain ⟨c2, hc2⟩ : ∃ c, c = (byteF c1).2 := ⟨_, rfl⟩
      have hxi := byteF_in HMB.out.bytes
      have H2 := Aside0.mk (fun w1 h => byte_calls w1 B m c1 (left - 1) HB.out h)
      have hna := node_arr g code left kk x c1 c2 HE.out.2 hx hc2 (by rw [if_neg hfl.2, ← HE.out.1]; have := HKK.out; simpa using this) (by omega)
      have hob : decide (7 < kk) = true := by simp; omega
      have hki : (if 7 < kk then (6 : Int) else 5) = 6 := by split <;> omega
      rw [hob, hki] at hna
      rw [← hx, ← hc2] at H2
      rw [← hx] at hxi
      obtain ⟨x0, x1, -⟩ := hxi
      obtain ⟨M, hM⟩ : ∃ M, M = manyF kk x := ⟨_, rfl⟩
      have hMx : (1 + x % 5 : Int) = (M : Int) := by rw [hM]; unfold manyF; split <;> omega
      have hM5 : M ≤ 5 := by omega
      rw [← hM] at hna
      obtain ⟨tot, htot⟩ : ∃ tot, tot = itemsG (nodeF g) true M c2 (left - 1) := ⟨_, rfl⟩
      rw [← htot] at hna
      have HNA := Aside0.mk hna
      have HTOT := Aside0.mk htot
      have HMX := Aside0.mk hMx
      have IH := Aside0.mk (ih g rfl)
      have HFL := Aside0.mk hfl
      have cp := cntB_pos g
      have HCP := Aside0.mk (show 5 * cntB g - 1000000 ≤ left - 1 by have := HL0.out; unfold cntB at this; omega)
      have t0 : (kk == 0) = false := by rw [beq_eq_false_iff_ne]; omega
      have t1 : (kk == 1) = false := by rw [beq_eq_false_iff_ne]; omega
      have t2 : (kk == 2) = false := by rw [beq_eq_false_iff_ne]; omega
      have t3 : (kk == 3) = false := by rw [beq_eq_false_iff_ne]; omega
      have t6 : decide (kk < 6) = false := by simp; omega
      have t7 : decide (7 < kk) = true := hob
      clear hx hc2 hna hob hki hM hMx htot hfl hk
      have HNZ := Aside0.mk (blk_new w2 (.cells #[.int .i64 0, .string ⟨#[]⟩, .slice none 0 0, .slice none 0 0] 29))
      have HMZ := Aside0.mk (HMB.out.below HB.out (below_alloc (Below.refl w2.heap.size w2) (.cells #[.int .i64 0, .string ⟨#[]⟩, .slice none 0 0, .slice none 0 0] 29)))
      have HVZ2 := Aside0.mk (HVB.out.alloc (Nat.le_of_lt HMB.out.lt) (.cells #[.int .i64 0, .string ⟨#[]⟩, .slice none 0 0, .slice none 0 0] 29))
      have HRZ2 := Aside0.mk (blk_below HRB.out (below_alloc (Below.refl w2.heap.size w2) (.cells #[.int .i64 0, .string ⟨#[]⟩, .slice none 0 0, .slice none 0 0] 29)))
      have HNE := Aside0.mk (show m < w2.heap.size ∧ w.heap.size < w2.heap.size ∧ w.heap.size ≠ m by have := HMB.out.lt; have := HLT.out; have := blk_lt HRB.out; omega)
      go_upto_region 18 with (first
        | ((with_reducible refine gate_st (p := .tmp 8) rfl ?_); refine store_agg _ _ _ rfl rfl rfl [.int .i64 5, .string ⟨#[]⟩, .slice none 0 0, .slice none 0 0] HNZ.out rfl (by simp) rfl (by kernel_rfl) (by simp [Value.oneCell']) ?_; intro W5 hb5 hk5 hg5; have HN5 := Aside0.mk hb5; have HM5 := Aside0.mk (HMZ.out.above HB.out hg5 HNE.out.1); have HV5 := Aside0.mk (HVZ2.out.setNew hk5 hg5 (by have := HNE.out.2.1; omega) HLT.out); have HR5 := Aside0.mk (hk5.blk HRZ2.out (by have := HNE.out.2.1; omega) (by simp)); clear hb5 hk5 hg5)
        | (go_at_call 46; (with_reducible refine (H2.out _ HM5.out).mono ?_); rintro e w6 ⟨rfl, hm6, hv6⟩; have HN6 := Aside0.mk (hv6.blk HN5.out (by have := HNE.out.1; omega)); have n0 : w6.cell? ⟨w2.heap.size, 0, none⟩ = some (.int .i64 5) := (blk_cell HN6.out 0).trans rfl; have HM6 := Aside0.mk hm6; have HV6 := Aside0.mk (HV5.out.trans hv6); have HR6 := Aside0.mk (hv6.blk HR5.out HNE.out.2.2); clear hm6 hv6)
        | ((with_reducible refine gate_st (p := .tmp 75) rfl ?_); clear n0; refine store_any _ _ _ rfl rfl rfl HN6.out rfl (by simp) rfl rfl rfl (by kernel_rfl) ?_; intro W7 hb7 hk7 hg7; have HN7 := Aside0.mk hb7; have HM7 := Aside0.mk (HM6.out.above HB.out hg7 HNE.out.1); have HV7 := Aside0.mk (HV6.out.setNew hk7 hg7 (by have := HNE.out.2.1; omega) HLT.out); have HR7 := Aside0.mk (hk7.blk HR6.out (by have := HNE.out.2.1; omega) (by simp)); clear hb7 hk7 hg7))
      rw [HMX.out]
      have HRES := HR7
      have HNB := HN7
      have HMB2 := HM7
      have HVB2 := HV7
      obtain ⟨Nb, hNb⟩ : ∃ Nb, Nb = w2.heap.size := ⟨_, rfl⟩
      simp only [← hNb] at HNB HNE ⊢
      clear hNb HN5 HM5 HV5 HR5 HN6 HM6 HV6 HR6 HN7 HM7 HV7 HR7 t0 t1 t2 t3 t6 t7 H1 H2 HMZ HVZ2 HRZ2 HNZ HMA HVA HRA HVZ HRZ HM1 HM2 HM3 q1 q2 HTB HKK HLF HRB HVB HMB HKF DC LC x0 x1
      have d0 : 0 ≤ deep + 1 := by omega
      have d1 : deep + 1 ≤ 100 := by have := HD.out; omega
      have HD1 := Aside0.mk (show (6 - (deep + 1)).toNat = g by have := HD.out; omega)
      go_upto_region 19 with (fail)
      go_loopg [77] M (fun n v77 w' => ∃ (j : Nat) (v2 v3 : Value) (xs : List JN) (ks : List (List Int)) (c : List Int) (l : Int), v77 = .int .i64 (j : Int) ∧ Aside0 (j + n = M ∧ xs.length ≤ j ∧ ks.length ≤ j) ∧ Aside0 (w'.heap[Nb]? = some (.cells #[.int .i64 6, .string ⟨#[]⟩, v2, v3] 29 (0, 0))) ∧ Aside0 (kJ.R 29 w' (w.heap.size + 1) (fun k => k ≠ Nb ∧ some k ≠ v3.ownBlock) v2 xs) ∧ Aside0 (Kd.string.R 9 w' (w.heap.size + 1) (fun _ => True) v3 (ks.map strOfNums)) ∧ Aside0 (MadeAt w' B m c l) ∧ Aside0 (Mv w w' m) ∧ Aside0 (w'.heap[w.heap.size]? = some (.cells #[.int .i64 0, .string ⟨#[]⟩, .slice none 0 0, .slice none 0 0] 29)) ∧ Aside0 (n * cntB g - 1000000 ≤ l ∧ l ≤ 1000) ∧ Aside0 (xs ++ (itemsG (nodeF g) true n c l).1 = tot.1 ∧ ks ++ (itemsG (nodeF g) true n c l).2.1 = tot.2.1 ∧ (itemsG (nodeF g) true n c l).2.2 = tot.2.2))
      case atStart => exact ⟨0, .slice none 0 0, .slice none 0 0, [], [], c2, left - 1, rfl, ⟨by omega, by simp, by simp⟩, HNB, ⟨Kd.R_nil _ _ _ _ _⟩, ⟨Kd.R_nil _ _ _ _ _⟩, HMB2, HVB2, HRES, ⟨by have := HCP.out; have := Int.mul_le_mul_of_nonneg_right (show (M : Int) ≤ 5 by omega) (show 0 ≤ cntB g by omega); omega, by omega⟩, ⟨by rw [HTOT.out]; rfl, by rw [HTOT.out]; rfl, by rw [HTOT.out]⟩⟩
      case round =>
        obtain ⟨j, v2, v3, xs, ks, c, l, rfl, HJ, HN, HI, HK, HM, HV, HR, HL, HT⟩ := hrel
        clear HNB HMB2 HVB2 HRES HCP
        have n0 : wr.cell? ⟨Nb, 0, none⟩ = some (.int .i64 6) := (blk_cell HN.out 0).trans rfl
        cases gk with
        | zero =>
          have d : decide (j < M) = false := by have := HJ.out; simp; omega
          have n1 : wr.cell? ⟨Nb, 1, none⟩ = some (.string ⟨#[]⟩) := (blk_cell HN.out 1).trans rfl
          have n2 : wr.cell? ⟨Nb, 2, none⟩ = some v2 := (blk_cell HN.out 2).trans rfl
          have n3 : wr.cell? ⟨Nb, 3, none⟩ = some v3 := (blk_cell HN.out 3).trans rfl
          obtain ⟨A2, C2, rfl⟩ := Kd.R_slice HI.out
          obtain ⟨A3, C3, h3⟩ := Kd.R_slice HK.out
          rw [List.length_map] at h3
          subst h3
          go_wp2_with ((with_reducible refine gate_st (p := .tmp 4) rfl ?_); refine store_agg _ _ _ rfl rfl rfl [.int .i64 6, .string ⟨#[]⟩, .slice A2 xs.length C2, .slice A3 ks.length C3] HR.out rfl (by simp) rfl (by kernel_rfl) (by simp [Value.oneCell']) ?_; intro W3 hb3 hk3 hg3; have r0 : W3.cell? ⟨w.heap.size, 0, none⟩ = some (.int .i64 6) := (blk_cell hb3 0).trans rfl; have r1 : W3.cell? ⟨w.heap.size, 1, none⟩ = some (.string ⟨#[]⟩) := (blk_cell hb3 1).trans rfl; have r2 : W3.cell? ⟨w.heap.size, 2, none⟩ = some (.slice A2 xs.length C2) := (blk_cell hb3 2).trans rfl; have r3 : W3.cell? ⟨w.heap.size, 3, none⟩ = some (.slice A3 ks.length C3) := (blk_cell hb3 3).trans rfl; have HK3 := Aside0.mk hk3; have HG3 := Aside0.mk hg3; clear hb3 hk3 hg3)
          refine bodyPost_ret (v := .agg #[.int .i64 6, .string ⟨#[]⟩, .slice A2 xs.length C2, .slice A3 ks.length C3]) (by simp [results, Tryd.results24, go_sem, r0, r1, r2, r3]) rfl ?_
          obtain ⟨e1, e2, e3⟩ := HT.out
          simp only [itemsG, List.append_nil] at e1 e2 e3
          have hi : kJ.R 29 W3 w.heap.size (fun _ => True) (.slice A2 xs.length C2) xs := Kd.R_lower (Kd.R_mono (Kd.R_keep (Kd.R_mono (ok' := fun k => k ≠ w.heap.size) (Kd.R_bound HI.out) (fun k hk => by have := hk.2.1; omega)) HK3.out (fun k hk => hk)) (fun k _ => trivial)) (by omega)
          have hk : Kd.string.R 9 W3 w.heap.size (fun _ => True) (.slice A3 ks.length C3) (ks.map strOfNums) := Kd.R_lower (Kd.R_mono (Kd.R_keep (Kd.R_mono (ok' := fun k => k ≠ w.heap.size) (Kd.R_bound HK.out) (fun k hk => by have := hk.2.1; omega)) HK3.out (fun k hk => hk)) (fun k _ => trivial)) (by omega)
          refine ⟨.slice A2 xs.length C2, .slice A3 ks.length C3, ?_⟩
          rw [HNA.out, ← e1, ← e2, ← e3]
          exact ⟨rfl, kJ_make (t := []) hi hk, HM.out.above HB.out HG3.out HLT.out, HV.out.setNew HK3.out HG3.out (Nat.le_refl _) HLT.out⟩
        | succ k1 =>
          have d : decide (j < M) = true := by have := HJ.out; simp; omega
          have hj9 : (j : Int) ≤ 9 := by have := HJ.out; omega
          have HNE2 := Aside0.mk (show m < w.heap.size + 1 ∧ w.heap.size + 1 ≤ Nb ∧ Nb ≠ m ∧ Nb ≠ w.heap.size by have := HNE.out; have := HLT.out; omega)
          obtain ⟨key, hkey⟩ : ∃ key, key = (textF c).1 := ⟨_, rfl⟩
          obtain ⟨cA, hcA⟩ : ∃ c', c' = (textF c).2.2 := ⟨_, rfl⟩
          have HCA := Aside0.mk (show cA = if true then (textF c).2.2 else c by rw [hcA]; rfl)
          have HKEY := Aside0.mk hkey
          have HCAE := Aside0.mk hcA
          have HTX := Aside0.mk (text_calls wr B m c l HB.out HM.out)
          clear hkey hcA
          go_upto_region 22 with (go_at_call 31; (with_reducible refine HTX.out.mono ?_); rintro e w5 ⟨rfl, hm5, hv5⟩; rw [← HCAE.out] at hm5; have HN5 := Aside0.mk (hv5.blk HN.out HNE2.out.2.2.1); obtain ⟨cs5, hcs5⟩ := HM.out.cells; have HI5 := Aside0.mk (kJ_mv HI.out hcs5 hv5); have HK5 := Aside0.mk (kS_mv HK.out hcs5 hv5); have HM5 := Aside0.mk hm5; have HV5 := Aside0.mk (HV.out.trans hv5); have HR5 := Aside0.mk (hv5.blk HR.out HNE.out.2.2); clear hm5 hv5 hcs5)
          rw [← HKEY.out]
          have n3 : w5.cell? ⟨Nb, 3, none⟩ = some v3 := (blk_cell HN5.out 3).trans rfl
          have HKL := Aside0.mk (show ks.length ≤ 100 by have := HJ.out; omega)
          go_upto_region 23 with (first
            | ((with_reducible refine gate_builtin (b := .append) (xs := #[.tmp 88, .tmp 90]) rfl ?_); at_builtin; refine Kd.R_append Kd.string (w0 := w5) (w.heap.size + 1) rfl (.tmp 88) (.tmp 90) 27 9 (.string ⟨#[]⟩) 16 rfl Tryd.underlying27 info9 rfl (by decide) (by decide) v3 (ks.map strOfNums) (strOfNums key) [.string (strOfNums key)] (fun _ => True) (fun _ => False) (by rfl) (by rfl) rfl (fun _ hk => hk.elim) (fun _ _ => trivial) HK5.out (Below.refl _ _) (by have := blk_lt HN5.out; have := HNE2.out; omega) (by have := HKL.out; rw [List.length_map]; omega) ?_; intro v6 w6 ho hb hg hat; obtain ⟨A6, C6, h6⟩ := Kd.R_slice ho; rw [List.length_append, List.length_map, List.length_singleton] at h6; subst h6; have HK6 := Aside0.mk ho; have HI6 := Aside0.mk (Kd.R_after HI5.out hg hat); have HN6 := Aside0.mk (blk_grown HN5.out hg (Kd.R_ne HK5.out HN5.out (by decide))); have HM6 := Aside0.mk (HM5.out.above HB.out hb HNE2.out.1); have HV6 := Aside0.mk (HV5.out.aboveB hb (by omega) (by have := HNE2.out.1; omega)); have HR6 := Aside0.mk ((hb.block w.heap.size (by omega)).trans HR5.out); clear ho hb hg hat)
            | ((with_reducible refine gate_st (p := .tmp 92) rfl ?_); clear n3; refine store_any _ _ _ rfl rfl rfl HN6.out rfl (by simp) rfl rfl rfl (by kernel_rfl) ?_; intro W7 hb7 hk7 hg7; have HN7 := Aside0.mk hb7; have HI7 := Aside0.mk (Kd.R_keep HI6.out hk7 (fun k hk => hk.1)); have HK7 := Aside0.mk (kS_keep HK6.out HN6.out hk7); have HM7 := Aside0.mk (HM6.out.above HB.out hg7 HNE.out.1); have HV7 := Aside0.mk (HV6.out.setNew hk7 hg7 (by have := HNE2.out; omega) HLT.out); have HR7 := Aside0.mk (hk7.blk HR6.out (by have := HNE2.out; omega) (by simp)); clear hb7 hk7 hg7))
          obtain ⟨y, hy⟩ : ∃ y, y = nodeF g cA l := ⟨_, rfl⟩
          have hnl := node_left g cA l
          rw [← hy] at hnl
          have hst := items_step (nodeF g) true k1 c l cA y.1 y.2.1 y.2.2 HCA.out (by rw [← hy])
          have HST := Aside0.mk hst
          have HNL := Aside0.mk hnl
          have hih : ∀ W : World, MadeAt W B m cA l → Calls Tryd.prog 24 #[.pointer (some ⟨m, 0, none⟩), .int .i64 (deep + 1)] W (NodePost W B m g cA l) := fun W h => IH.out W B m cA l (deep + 1) HB.out HD1.out d0 d1 HL.out.2 (by
            have h1 := HL.out.1
            have h2 : (0 : Int) ≤ k1 * cntB g := Int.mul_nonneg (by omega) (by omega)
            rw [Int.natCast_add, Int.add_mul] at h1
            simp at h1
            omega) h
          have HIH := Aside0.mk hih
          have HY := Aside0.mk hy
          clear hst hnl hy hih
          have hna := HN7.out
          have sw : W7.drew.cell? ⟨Nb, 2, none⟩ = some v2 := (blk_cell hna 2).trans rfl
          have HMd := Aside0.mk (show MadeAt W7.drew B m cA l from HM7.out.same rfl)
          obtain ⟨csA, hcsA⟩ := HM7.out.cells
          have HCS := Aside0.mk (show W7.drew.heap[m]? = some (.cells csA 45 (0, 0)) from hcsA)
          have HId := Aside0.mk (Kd.R_drew HI7.out)
          have HKd := Aside0.mk (Kd.R_drew HK7.out)
          have HSZ := Aside0.mk (show w.heap.size + 1 ≤ W7.heap.size ∧ Nb < W7.heap.size by have := blk_lt hna; have := HNE2.out; omega)
          have HJX := Aside0.mk (show xs.length ≤ 100 by have := HJ.out; omega)
          have hdw : IntKind.i64.wrap (deep + 1) = deep + 1 := by rw [IntKind.wrap_i64]; omega
          clear hna hcsA n0
          go_region_law (first
            | (go_simp; go_at_call 24; (with_reducible refine (HIH.out _ HMd.out).mono ?_); rintro e w8 ⟨p2, p3, rfl, hM8, hm8, hv8⟩; rw [← HY.out]; rw [← HY.out] at hM8 hm8; have HM8 := Aside0.mk hm8; have HV8 := Aside0.mk ((HV7.out.trans (Mv.mk (KeepBut.of_below (below_drew (Below.refl _ _)) m none) (below_drew (Below.refl _ _)))).trans hv8); have HN8 := Aside0.mk (hv8.blk (show W7.drew.heap[Nb]? = _ from HN7.out) HNE2.out.2.2.1); have HR8 := Aside0.mk (hv8.blk (show W7.drew.heap[w.heap.size]? = _ from HR7.out) HNE.out.2.2); have HI8 := Aside0.mk (kJ_mv HId.out HCS.out hv8); have HK8 := Aside0.mk (kS_mv HKd.out HCS.out hv8); have HP8 := Aside0.mk (kJ.M_lower HSZ.out.1 (kJ.M_mono (ok' := fun k => W7.heap.size ≤ k) (fun k hk => hk.2.1) (kJ.M_bound hM8))); have HS8 := Aside0.mk (show W7.heap.size ≤ w8.heap.size from hv8.size); have n8 : w8.cell? ⟨Nb, 2, none⟩ = some v2 := (blk_cell HN8.out 2).trans rfl; have m8 : (w8.alloc (.cells #[.int .i64 y.1.kind, .string (strOfNums y.1.text), p2, p3] 29)).cell? ⟨Nb, 2, none⟩ = some v2 := (blk_cell (blk_below HN8.out (below_alloc (Below.refl _ _) _)) 2).trans rfl; clear hM8 hm8 hv8)
            | (refine Kd.R_append_step kJ (w0 := w8) (w.heap.size + 1) (by simp [Region.wanted]) (.tmp 94) (.tmp 99) 26 29 (.agg #[.int .i64 0, .string ⟨#[]⟩, .slice none 0 0, .slice none 0 0]) 72 rfl Tryd.underlying26 info29 rfl (by decide) (by decide) v2 xs y.1 [.int .i64 y.1.kind, .string (strOfNums y.1.text), p2, p3] (fun k => k ≠ Nb ∧ some k ≠ (Value.slice A6 (ks.length + 1) C6).ownBlock) (fun k => W7.heap.size ≤ k) (by rfl) (by rfl) HP8.out (fun k hk => ⟨⟨by have := HSZ.out; omega, fun h => by have := Kd.R_lt HK7.out k h.symm; omega⟩, fun h => by have := Kd.R_lt HI7.out k h.symm; omega⟩) (fun k hk => ⟨by have := HSZ.out; have := HS8.out; omega, fun h => by have := Kd.R_lt HK7.out k h.symm; have := HS8.out; omega⟩) HI8.out (Below.refl _ _) (by have := HSZ.out; have := HS8.out; omega) (by have := HJX.out; omega) ?_; intro v9 w9 ho hb hg hat; obtain ⟨A9, C9, h9⟩ := Kd.R_slice ho; rw [List.length_append, List.length_singleton] at h9; subst h9; have hne9 := Kd.R_away HI8.out (g := Nb) (fun k hk => hk.1); have HK9 := Aside0.mk (Kd.R_over' HK8.out (Kd.R_typed HI8.out) (by decide) hg); have HN9 := Aside0.mk (blk_grown HN8.out hg hne9); have HI9 := Aside0.mk ho; have HM9 := Aside0.mk (HM8.out.above HB.out hb HNE2.out.1); have HV9 := Aside0.mk (HV8.out.aboveB hb (by omega) (by have := HNE2.out.1; omega)); have HR9 := Aside0.mk ((hb.block w.heap.size (by omega)).trans HR8.out); have c9 : w9.cell? ⟨Nb, 2, none⟩ = some v2 := (blk_cell HN9.out 2).trans rfl; have f9 := blk_frozen HN9.out 2; clear ho hb hg hat hne9))
          all_goals
            go_wp2_with fail
            go_roundg k1
            case measure => omega
            case rel =>
              have e := HT.out
              rw [HST.out] at e
              simp only [if_true, Bool.false_eq_true, if_false] at e
              have hs9 := HNL.out
              have hls := HL.out
              have hjj := HJ.out
              have hcc : (((k1 + 1 : Nat) : Int)) * cntB g = k1 * cntB g + cntB g := by rw [Int.natCast_add, Int.add_mul]; simp
              rw [hcc] at hls
              refine ⟨j + 1, _, (Value.slice A6 (ks.length + 1) C6), xs ++ [y.1], ks ++ [key], y.2.1, y.2.2, by go_num, ⟨by omega, by simp; omega, by simp; omega⟩, ⟨blk_set HN9.out 2 _⟩, ⟨Kd.R_far HI9.out (p := ⟨Nb, 2, none⟩) (fun k hk => hk.1) _⟩, ⟨by rw [List.map_append]; exact Kd.R_set HK9.out HN9.out (by decide) 2 _⟩, ⟨HM9.out.above HB.out ((Below.refl Nb w9).setCell (Nat.le_refl _) _) HNE.out.1⟩, ⟨HV9.out.setNew ((KeepBut.refl w9 Nb none).set_ 2 _) ((Below.refl Nb w9).setCell (Nat.le_refl _) _) (by have := HNE2.out; omega) HLT.out⟩, ⟨blk_far HR9.out (p := ⟨Nb, 2, none⟩) (by have := HNE2.out; exact fun h => this.2.2.2 h.symm) _⟩, ⟨by omega, by omega⟩, ⟨by rw [List.append_assoc]; exact e.1, by rw [List.append_assoc, HKEY.out]; exact e.2.1, e.2.2⟩⟩
end Go.Proofs.YtekmminmgjoabaaDoor.Js

