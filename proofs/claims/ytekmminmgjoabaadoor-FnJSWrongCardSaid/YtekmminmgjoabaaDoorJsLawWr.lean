/- Written by laws.py: the law on what stands behind a value. -/
import Derived.Test.YtekmminmgjoabaaDoorJsLawD
import Derived.Test.YtekmminmgjoabaaDoorSe
import Derived.Test.YtekmminmgjoabaaDoorRw
namespace Go.Proofs.YtekmminmgjoabaaDoor.Js
open Go.RowKit Go.Proofs.YtekmminmgjoabaaDoorW.PrintWords Go.Proofs.YtekmminmgjoabaaDoorW.PrintLast Go.Proofs.YtekmminmgjoabaaDoorW.PrintMore Go.Proofs.YtekmminmgjoabaaDoor.PFnJSTokens
set_option linter.unusedVariables false
set_option linter.unusedSimpArgs false
theorem wrun_row (tail : List Int) : ∀ (ts : List Tk) (k j : Nat) (x : S37), ((btoks [] ts k).map toS)[j]? = some x → ∃ b : Int, ((wrun [] tail ts k).map toS)[j]? = some (⟨x.f0, x.f1, x.f2, x.f3, x.f4, b, x.f6⟩ : S37) := by
  intro ts
  induction ts with
  | nil => intro k j x h; simp [btoks] at h
  | cons t ts ih =>
    intro k j x h
    cases j with
    | zero =>
      simp only [btoks, wrun, List.map_cons, List.getElem?_cons_zero, Option.some.injEq] at h ⊢
      subst h
      exact ⟨_, rfl⟩
    | succ j =>
      simp only [btoks, wrun, List.map_cons, List.getElem?_cons_succ] at h ⊢
      exact ih _ _ _ h
theorem numEnd_blank (more : List Int) : NumEnd (32 :: more) := by
  intro x t e
  obtain ⟨rfl, -⟩ : (32 : Int) = x ∧ _ := by simpa using e
  unfold Digit
  omega
set_option maxHeartbeats 4000000 in
set_option maxRecDepth 100000 in
theorem law_wrong_0 (w : World) (v1 : Value) (code : List Int) (h1 : Sl w w.heap.size v1 code) (hb1 : Bytes code) (ht : Tab w) (a : Int) (ha : 0 ≤ a ∧ a ≤ 255) (hk : a % 9 = 0) :
    Calls Tryd.prog 6 #[v1, .int .u8 a] w fun e w' => e = .returned (.bool true) ∧ Below w.heap.size w w' := by
  obtain ⟨A1, c1, rfl, -⟩ := h1.form
  obtain ⟨m1, hm1⟩ : ∃ m1, m1 = code.length := ⟨_, rfl⟩
  rw [← hm1] at h1 ⊢
  have hx1 : m1 ≤ 9223372036854775807 := by rw [hm1]; have := h1.cut.2.2.1.2.1; omega
  by_cases hs1 : 2147483647 < m1
  · clear h1 hb1 hm1 ht ha hk
    go_enter Tryd.func6, Tryd.ntmps6
    go_wp2_with fail
    go_returns
    exact ⟨rfl, Below.refl _ _⟩
  have hn1 : ¬ (2147483647 : Int) < (m1 : Int) := by omega
  have HN := Aside0.mk (jsNode_calls w w.heap.size _ code (Nat.le_refl _) h1 hb1)
  have HC := Aside0.mk hb1
  have HT := Aside0.mk ht
  have HOK := Aside0.mk (made_ok hb1)
  obtain ⟨ys, hys⟩ : ∃ ys, ys = sfx [] ((jsN code).toks 0 0) 0 := ⟨_, rfl⟩
  have HY := Aside0.mk hys
  have HYB := Aside0.mk (show Bytes ys ∧ ys.length ≤ 9000000 by rw [hys]; exact ⟨sfx_bytes HOK.out.1 [], sfx_le hb1 []⟩)
  obtain ⟨ts, hts⟩ : ∃ ts, ts = (jsN code).toks 0 0 := ⟨_, rfl⟩
  have HTS := Aside0.mk hts
  obtain ⟨L, hL⟩ : ∃ L, L = ts.length := ⟨_, rfl⟩
  have hL1 : L ≤ 2900000 := by rw [hL, hts]; exact HOK.out.2.2
  have HLX := Aside0.mk (show ((btoks [] ts 0).map toS).length = L by rw [List.length_map, btoks_length, hL])
  have HLY := Aside0.mk (show ((wrun [] (32 :: [93]) ts 0).map toS).length = L by rw [List.length_map, wrun_length, hL])
  obtain ⟨z1, hz1⟩ : ∃ z1, z1 = ys ++ 32 :: [93] := ⟨_, rfl⟩
  have HRUN := Aside0.mk (show TokRun ⟨[], false⟩ z1 (wrun [] (32 :: [93]) ts 0) ⟨[], false⟩ (32 :: [93]) by
    have := run_more HOK.out.1 (32 :: [93]) (numEnd_blank _)
    rw [← sfx_none _ 0, ← hys, ← hts, ← hz1] at this
    exact this)
  have HZL := Aside0.mk (show Bytes z1 ∧ z1.length ≤ 9000010 by
    refine ⟨by rw [hz1]; exact bytes_append HYB.out.1 (by intro x hx; simp at hx; omega), ?_⟩
    have := HYB.out.2; rw [hz1]; simp only [List.length_append, List.length_cons, List.length_nil]; omega)
  have q1 : ¬ (9223372036854775807 < (strOfNums ys).size + 1) := by rw [strOf_size]; have := HYB.out.2; omega
  have q2 : ¬ (9223372036854775807 < (strOfNums ys).size + 1 + 1) := by rw [strOf_size]; have := HYB.out.2; omega
  have e1 : strOfNums ys ++ (⟨#[32]⟩ : ByteArray) ++ ⟨#[93]⟩ = strOfNums z1 := by rw [hz1, show ys ++ 32 :: [93] = ys ++ [32] ++ [93] by simp, strOf_append, strOf_append]; rfl
  have HE1 := Aside0.mk e1
  have hrem : a.tmod 9 = 0 := by rw [Int.tmod_eq_emod_of_nonneg ha.1]; exact hk
  obtain ⟨ha0, ha1⟩ := ha
  clear h1 hb1 ht hm1 hs1 hys hz1 e1 hts hL hk
  go_enter Tryd.func6, Tryd.ntmps6
  go_upto_region 4 with (first
    | (go_at_call 17; (with_reducible refine HN.out.mono ?_); rintro e w2 ⟨v, rfl, hnd, hb2⟩; have HND := Aside0.mk hnd; have HB2 := Aside0.mk hb2; have HW := Aside0.mk (jsWritten_calls w2 (jsN code) v (.slice none 0 0) [] HOK.out.1 (by have := HOK.out; unfold Room; omega) (hnd.lower (Nat.zero_le _)) (Sl.nil _ _) (fun x hx => by cases hx)); clear hnd hb2)
    | (go_at_call 16; (with_reducible refine HW.out.mono ?_); rintro e w4 ⟨tv, rfl, hr, hb4⟩; rw [← HY.out]; have HR := Aside0.mk hr; have HB4 := Aside0.mk (HB2.out.trans (hb4.mono HB2.out.size)); clear hr hb4))
  rw [← HTS.out] at HR
  obtain ⟨A, c, rfl, -⟩ := row37 HR.out
  rw [HLX.out]
  go_upto_region 5 with (fail)
  have hal := below_alloc (Below.refl w4.heap.size w4) (.cells #[.string ⟨#[93]⟩, .string ⟨#[125]⟩, .string ⟨#[44]⟩, .string ⟨#[110, 117, 108]⟩, .string ⟨#[43, 49]⟩, .string ⟨#[116, 114, 117]⟩, .string ⟨#[39, 97, 39]⟩, .string ⟨#[102, 97, 108, 115]⟩, .string ⟨#[35]⟩] 9)
  obtain ⟨wa, hwa⟩ : ∃ wa, wa = w4.alloc (.cells #[.string ⟨#[93]⟩, .string ⟨#[125]⟩, .string ⟨#[44]⟩, .string ⟨#[110, 117, 108]⟩, .string ⟨#[43, 49]⟩, .string ⟨#[116, 114, 117]⟩, .string ⟨#[39, 97, 39]⟩, .string ⟨#[102, 97, 108, 115]⟩, .string ⟨#[35]⟩] 9) := ⟨_, rfl⟩
  rw [← hwa] at hal ⊢
  have HBA := Aside0.mk (HB4.out.trans (hal.mono HB4.out.size))
  have HRA := Aside0.mk (Kd.R_below HR.out hal)
  clear hwa hal
  obtain ⟨cz, w5, hcv, hsl5, hb5⟩ := text_bytes wa z1 HZL.out.1 (by have := HZL.out.2; omega)
  rw [← HE1.out] at hcv
  have HB5 := Aside0.mk (HBA.out.trans (hb5.mono HBA.out.size))
  have HR5 := Aside0.mk (Kd.R_below HRA.out hb5)
  have HD := Aside0.mk (doorBad w5 _ _ _ z1 (32 :: [93]) _ ⟨[], false⟩ hsl5 HZL.out.1 (by have := HZL.out.2; omega) HRUN.out (by rw [wrun_length]; have := HLX.out; rw [List.length_map, btoks_length] at this; omega) (HT.out.below HB5.out) (fun W' T p q hT hst => next_wrong W' _ T ⟨[], false⟩ [93] p q rfl (by decide) hT hst))
  clear hsl5 hb5
  go_upto_region 9 with (go_at_call 18; (with_reducible refine HD.out.mono ?_); rintro e w6 ⟨gv, rfl, hg, hb6⟩; have HG := Aside0.mk hg; have HB6 := Aside0.mk (HB5.out.trans (hb6.mono HB5.out.size)); have HR6 := Aside0.mk (Kd.R_below HR5.out hb6); obtain ⟨A', c', rfl, -⟩ := row37 hg; rw [HLY.out]; clear hg hb6)
  clear hcv
  go_loopg [46] L (fun gk v46 w' => ∃ j : Nat, v46 = .int .i64 (j : Int) ∧ Aside0 (j + gk = L) ∧ Aside0 (Below w6.heap.size w6 w'))
  case atStart => exact ⟨0, rfl, ⟨by omega⟩, ⟨Below.refl _ _⟩⟩
  case round =>
    obtain ⟨j, rfl, HJ, HB⟩ := hrel
    cases gk with
    | zero =>
      obtain rfl : j = L := by have := HJ.out; omega
      have dlt : decide ((j : Int) < (j : Int)) = false := by simp
      have HBR := Aside0.mk (HB6.out.trans (HB.out.mono HB6.out.size))
      go_wp2_with (go_at_call 19; (with_reducible refine (awake_calls _ (HT.out.below HBR.out)).mono ?_); rintro e wz ⟨rfl, hbz⟩; have HBZ := Aside0.mk (HBR.out.trans (hbz.mono (HBR.out).size)); clear hbz)
      go_returns
      exact ⟨rfl, HBZ.out⟩
    | succ k1 =>
      have hjm : j < L := by have := HJ.out; omega
      have dlt : decide ((j : Int) < (L : Int)) = true := by simpa using hjm
      obtain ⟨x, hx⟩ : ∃ x, ((btoks [] ts 0).map toS)[j]? = some x := ⟨_, List.getElem?_eq_getElem (by rw [HLX.out]; exact hjm)⟩
      obtain ⟨gb, hgx⟩ := wrun_row (32 :: [93]) ts 0 j x hx
      obtain ⟨B1, d1, e1, hc1⟩ := row37 (Kd.R_below HR6.out HB.out)
      obtain ⟨B2, d2, e2, hc2⟩ := row37 (Kd.R_below HG.out HB.out)
      injection e1 with e1 z1 z2
      injection e2 with e2 z3 z4
      clear z1 z2 z3 z4
      subst e1 e2
      obtain ⟨g, rfl, a0, a1, a2, a3, a4, a5, a6⟩ := hc1 j x hx
      obtain ⟨g', rfl, b0, b1, b2, b3, b4, b5, b6⟩ := hc2 j _ hgx
      obtain ⟨f0, f1, f2, f3, f4, f5, f6⟩ := x
      simp only at a0 a1 a2 a3 a4 a5 a6 b0 b1 b2 b3 b4 b5 b6
      have p0 := fun o : Obj => pw_cell_below (below_alloc (Below.refl wr.heap.size wr) o) b0
      have p1 := fun o : Obj => pw_cell_below (below_alloc (Below.refl wr.heap.size wr) o) b1
      have p2 := fun o : Obj => pw_cell_below (below_alloc (Below.refl wr.heap.size wr) o) b2
      have p3 := fun o : Obj => pw_cell_below (below_alloc (Below.refl wr.heap.size wr) o) b3
      have p4 := fun o : Obj => pw_cell_below (below_alloc (Below.refl wr.heap.size wr) o) b4
      have p5 := fun o : Obj => pw_cell_below (below_alloc (Below.refl wr.heap.size wr) o) b5
      have p6 := fun o : Obj => pw_cell_below (below_alloc (Below.refl wr.heap.size wr) o) b6
      clear hc1 hc2 hx hgx b0 b1 b2 b3 b4 b5 b6
      go_wp2_with fail
      go_roundg k1
      case measure => omega
      case rel => exact ⟨j + 1, by go_num, ⟨by have := HJ.out; omega⟩, ⟨HB.out.trans ((below_alloc (below_alloc (Below.refl _ _) _) _).mono HB.out.size)⟩⟩
set_option maxHeartbeats 4000000 in
set_option maxRecDepth 100000 in
theorem law_wrong_1 (w : World) (v1 : Value) (code : List Int) (h1 : Sl w w.heap.size v1 code) (hb1 : Bytes code) (ht : Tab w) (a : Int) (ha : 0 ≤ a ∧ a ≤ 255) (hk : a % 9 = 1) :
    Calls Tryd.prog 6 #[v1, .int .u8 a] w fun e w' => e = .returned (.bool true) ∧ Below w.heap.size w w' := by
  obtain ⟨A1, c1, rfl, -⟩ := h1.form
  obtain ⟨m1, hm1⟩ : ∃ m1, m1 = code.length := ⟨_, rfl⟩
  rw [← hm1] at h1 ⊢
  have hx1 : m1 ≤ 9223372036854775807 := by rw [hm1]; have := h1.cut.2.2.1.2.1; omega
  by_cases hs1 : 2147483647 < m1
  · clear h1 hb1 hm1 ht ha hk
    go_enter Tryd.func6, Tryd.ntmps6
    go_wp2_with fail
    go_returns
    exact ⟨rfl, Below.refl _ _⟩
  have hn1 : ¬ (2147483647 : Int) < (m1 : Int) := by omega
  have HN := Aside0.mk (jsNode_calls w w.heap.size _ code (Nat.le_refl _) h1 hb1)
  have HC := Aside0.mk hb1
  have HT := Aside0.mk ht
  have HOK := Aside0.mk (made_ok hb1)
  obtain ⟨ys, hys⟩ : ∃ ys, ys = sfx [] ((jsN code).toks 0 0) 0 := ⟨_, rfl⟩
  have HY := Aside0.mk hys
  have HYB := Aside0.mk (show Bytes ys ∧ ys.length ≤ 9000000 by rw [hys]; exact ⟨sfx_bytes HOK.out.1 [], sfx_le hb1 []⟩)
  obtain ⟨ts, hts⟩ : ∃ ts, ts = (jsN code).toks 0 0 := ⟨_, rfl⟩
  have HTS := Aside0.mk hts
  obtain ⟨L, hL⟩ : ∃ L, L = ts.length := ⟨_, rfl⟩
  have hL1 : L ≤ 2900000 := by rw [hL, hts]; exact HOK.out.2.2
  have HLX := Aside0.mk (show ((btoks [] ts 0).map toS).length = L by rw [List.length_map, btoks_length, hL])
  have HLY := Aside0.mk (show ((wrun [] (32 :: [125]) ts 0).map toS).length = L by rw [List.length_map, wrun_length, hL])
  obtain ⟨z1, hz1⟩ : ∃ z1, z1 = ys ++ 32 :: [125] := ⟨_, rfl⟩
  have HRUN := Aside0.mk (show TokRun ⟨[], false⟩ z1 (wrun [] (32 :: [125]) ts 0) ⟨[], false⟩ (32 :: [125]) by
    have := run_more HOK.out.1 (32 :: [125]) (numEnd_blank _)
    rw [← sfx_none _ 0, ← hys, ← hts, ← hz1] at this
    exact this)
  have HZL := Aside0.mk (show Bytes z1 ∧ z1.length ≤ 9000010 by
    refine ⟨by rw [hz1]; exact bytes_append HYB.out.1 (by intro x hx; simp at hx; omega), ?_⟩
    have := HYB.out.2; rw [hz1]; simp only [List.length_append, List.length_cons, List.length_nil]; omega)
  have q1 : ¬ (9223372036854775807 < (strOfNums ys).size + 1) := by rw [strOf_size]; have := HYB.out.2; omega
  have q2 : ¬ (9223372036854775807 < (strOfNums ys).size + 1 + 1) := by rw [strOf_size]; have := HYB.out.2; omega
  have e1 : strOfNums ys ++ (⟨#[32]⟩ : ByteArray) ++ ⟨#[125]⟩ = strOfNums z1 := by rw [hz1, show ys ++ 32 :: [125] = ys ++ [32] ++ [125] by simp, strOf_append, strOf_append]; rfl
  have HE1 := Aside0.mk e1
  have hrem : a.tmod 9 = 1 := by rw [Int.tmod_eq_emod_of_nonneg ha.1]; exact hk
  obtain ⟨ha0, ha1⟩ := ha
  clear h1 hb1 ht hm1 hs1 hys hz1 e1 hts hL hk
  go_enter Tryd.func6, Tryd.ntmps6
  go_upto_region 4 with (first
    | (go_at_call 17; (with_reducible refine HN.out.mono ?_); rintro e w2 ⟨v, rfl, hnd, hb2⟩; have HND := Aside0.mk hnd; have HB2 := Aside0.mk hb2; have HW := Aside0.mk (jsWritten_calls w2 (jsN code) v (.slice none 0 0) [] HOK.out.1 (by have := HOK.out; unfold Room; omega) (hnd.lower (Nat.zero_le _)) (Sl.nil _ _) (fun x hx => by cases hx)); clear hnd hb2)
    | (go_at_call 16; (with_reducible refine HW.out.mono ?_); rintro e w4 ⟨tv, rfl, hr, hb4⟩; rw [← HY.out]; have HR := Aside0.mk hr; have HB4 := Aside0.mk (HB2.out.trans (hb4.mono HB2.out.size)); clear hr hb4))
  rw [← HTS.out] at HR
  obtain ⟨A, c, rfl, -⟩ := row37 HR.out
  rw [HLX.out]
  go_upto_region 5 with (fail)
  have hal := below_alloc (Below.refl w4.heap.size w4) (.cells #[.string ⟨#[93]⟩, .string ⟨#[125]⟩, .string ⟨#[44]⟩, .string ⟨#[110, 117, 108]⟩, .string ⟨#[43, 49]⟩, .string ⟨#[116, 114, 117]⟩, .string ⟨#[39, 97, 39]⟩, .string ⟨#[102, 97, 108, 115]⟩, .string ⟨#[35]⟩] 9)
  obtain ⟨wa, hwa⟩ : ∃ wa, wa = w4.alloc (.cells #[.string ⟨#[93]⟩, .string ⟨#[125]⟩, .string ⟨#[44]⟩, .string ⟨#[110, 117, 108]⟩, .string ⟨#[43, 49]⟩, .string ⟨#[116, 114, 117]⟩, .string ⟨#[39, 97, 39]⟩, .string ⟨#[102, 97, 108, 115]⟩, .string ⟨#[35]⟩] 9) := ⟨_, rfl⟩
  rw [← hwa] at hal ⊢
  have HBA := Aside0.mk (HB4.out.trans (hal.mono HB4.out.size))
  have HRA := Aside0.mk (Kd.R_below HR.out hal)
  clear hwa hal
  obtain ⟨cz, w5, hcv, hsl5, hb5⟩ := text_bytes wa z1 HZL.out.1 (by have := HZL.out.2; omega)
  rw [← HE1.out] at hcv
  have HB5 := Aside0.mk (HBA.out.trans (hb5.mono HBA.out.size))
  have HR5 := Aside0.mk (Kd.R_below HRA.out hb5)
  have HD := Aside0.mk (doorBad w5 _ _ _ z1 (32 :: [125]) _ ⟨[], false⟩ hsl5 HZL.out.1 (by have := HZL.out.2; omega) HRUN.out (by rw [wrun_length]; have := HLX.out; rw [List.length_map, btoks_length] at this; omega) (HT.out.below HB5.out) (fun W' T p q hT hst => next_wrong W' _ T ⟨[], false⟩ [125] p q rfl (by decide) hT hst))
  clear hsl5 hb5
  go_upto_region 9 with (go_at_call 18; (with_reducible refine HD.out.mono ?_); rintro e w6 ⟨gv, rfl, hg, hb6⟩; have HG := Aside0.mk hg; have HB6 := Aside0.mk (HB5.out.trans (hb6.mono HB5.out.size)); have HR6 := Aside0.mk (Kd.R_below HR5.out hb6); obtain ⟨A', c', rfl, -⟩ := row37 hg; rw [HLY.out]; clear hg hb6)
  clear hcv
  go_loopg [46] L (fun gk v46 w' => ∃ j : Nat, v46 = .int .i64 (j : Int) ∧ Aside0 (j + gk = L) ∧ Aside0 (Below w6.heap.size w6 w'))
  case atStart => exact ⟨0, rfl, ⟨by omega⟩, ⟨Below.refl _ _⟩⟩
  case round =>
    obtain ⟨j, rfl, HJ, HB⟩ := hrel
    cases gk with
    | zero =>
      obtain rfl : j = L := by have := HJ.out; omega
      have dlt : decide ((j : Int) < (j : Int)) = false := by simp
      have HBR := Aside0.mk (HB6.out.trans (HB.out.mono HB6.out.size))
      go_wp2_with (go_at_call 19; (with_reducible refine (awake_calls _ (HT.out.below HBR.out)).mono ?_); rintro e wz ⟨rfl, hbz⟩; have HBZ := Aside0.mk (HBR.out.trans (hbz.mono (HBR.out).size)); clear hbz)
      go_returns
      exact ⟨rfl, HBZ.out⟩
    | succ k1 =>
      have hjm : j < L := by have := HJ.out; omega
      have dlt : decide ((j : Int) < (L : Int)) = true := by simpa using hjm
      obtain ⟨x, hx⟩ : ∃ x, ((btoks [] ts 0).map toS)[j]? = some x := ⟨_, List.getElem?_eq_getElem (by rw [HLX.out]; exact hjm)⟩
      obtain ⟨gb, hgx⟩ := wrun_row (32 :: [125]) ts 0 j x hx
      obtain ⟨B1, d1, e1, hc1⟩ := row37 (Kd.R_below HR6.out HB.out)
      obtain ⟨B2, d2, e2, hc2⟩ := row37 (Kd.R_below HG.out HB.out)
      injection e1 with e1 z1 z2
      injection e2 with e2 z3 z4
      clear z1 z2 z3 z4
      subst e1 e2
      obtain ⟨g, rfl, a0, a1, a2, a3, a4, a5, a6⟩ := hc1 j x hx
      obtain ⟨g', rfl, b0, b1, b2, b3, b4, b5, b6⟩ := hc2 j _ hgx
      obtain ⟨f0, f1, f2, f3, f4, f5, f6⟩ := x
      simp only at a0 a1 a2 a3 a4 a5 a6 b0 b1 b2 b3 b4 b5 b6
      have p0 := fun o : Obj => pw_cell_below (below_alloc (Below.refl wr.heap.size wr) o) b0
      have p1 := fun o : Obj => pw_cell_below (below_alloc (Below.refl wr.heap.size wr) o) b1
      have p2 := fun o : Obj => pw_cell_below (below_alloc (Below.refl wr.heap.size wr) o) b2
      have p3 := fun o : Obj => pw_cell_below (below_alloc (Below.refl wr.heap.size wr) o) b3
      have p4 := fun o : Obj => pw_cell_below (below_alloc (Below.refl wr.heap.size wr) o) b4
      have p5 := fun o : Obj => pw_cell_below (below_alloc (Below.refl wr.heap.size wr) o) b5
      have p6 := fun o : Obj => pw_cell_below (below_alloc (Below.refl wr.heap.size wr) o) b6
      clear hc1 hc2 hx hgx b0 b1 b2 b3 b4 b5 b6
      go_wp2_with fail
      go_roundg k1
      case measure => omega
      case rel => exact ⟨j + 1, by go_num, ⟨by have := HJ.out; omega⟩, ⟨HB.out.trans ((below_alloc (below_alloc (Below.refl _ _) _) _).mono HB.out.size)⟩⟩
set_option maxHeartbeats 4000000 in
set_option maxRecDepth 100000 in
theorem law_wrong_2 (w : World) (v1 : Value) (code : List Int) (h1 : Sl w w.heap.size v1 code) (hb1 : Bytes code) (ht : Tab w) (a : Int) (ha : 0 ≤ a ∧ a ≤ 255) (hk : a % 9 = 2) :
    Calls Tryd.prog 6 #[v1, .int .u8 a] w fun e w' => e = .returned (.bool true) ∧ Below w.heap.size w w' := by
  obtain ⟨A1, c1, rfl, -⟩ := h1.form
  obtain ⟨m1, hm1⟩ : ∃ m1, m1 = code.length := ⟨_, rfl⟩
  rw [← hm1] at h1 ⊢
  have hx1 : m1 ≤ 9223372036854775807 := by rw [hm1]; have := h1.cut.2.2.1.2.1; omega
  by_cases hs1 : 2147483647 < m1
  · clear h1 hb1 hm1 ht ha hk
    go_enter Tryd.func6, Tryd.ntmps6
    go_wp2_with fail
    go_returns
    exact ⟨rfl, Below.refl _ _⟩
  have hn1 : ¬ (2147483647 : Int) < (m1 : Int) := by omega
  have HN := Aside0.mk (jsNode_calls w w.heap.size _ code (Nat.le_refl _) h1 hb1)
  have HC := Aside0.mk hb1
  have HT := Aside0.mk ht
  have HOK := Aside0.mk (made_ok hb1)
  obtain ⟨ys, hys⟩ : ∃ ys, ys = sfx [] ((jsN code).toks 0 0) 0 := ⟨_, rfl⟩
  have HY := Aside0.mk hys
  have HYB := Aside0.mk (show Bytes ys ∧ ys.length ≤ 9000000 by rw [hys]; exact ⟨sfx_bytes HOK.out.1 [], sfx_le hb1 []⟩)
  obtain ⟨ts, hts⟩ : ∃ ts, ts = (jsN code).toks 0 0 := ⟨_, rfl⟩
  have HTS := Aside0.mk hts
  obtain ⟨L, hL⟩ : ∃ L, L = ts.length := ⟨_, rfl⟩
  have hL1 : L ≤ 2900000 := by rw [hL, hts]; exact HOK.out.2.2
  have HLX := Aside0.mk (show ((btoks [] ts 0).map toS).length = L by rw [List.length_map, btoks_length, hL])
  have HLY := Aside0.mk (show ((wrun [] (32 :: [44]) ts 0).map toS).length = L by rw [List.length_map, wrun_length, hL])
  obtain ⟨z1, hz1⟩ : ∃ z1, z1 = ys ++ 32 :: [44] := ⟨_, rfl⟩
  have HRUN := Aside0.mk (show TokRun ⟨[], false⟩ z1 (wrun [] (32 :: [44]) ts 0) ⟨[], false⟩ (32 :: [44]) by
    have := run_more HOK.out.1 (32 :: [44]) (numEnd_blank _)
    rw [← sfx_none _ 0, ← hys, ← hts, ← hz1] at this
    exact this)
  have HZL := Aside0.mk (show Bytes z1 ∧ z1.length ≤ 9000010 by
    refine ⟨by rw [hz1]; exact bytes_append HYB.out.1 (by intro x hx; simp at hx; omega), ?_⟩
    have := HYB.out.2; rw [hz1]; simp only [List.length_append, List.length_cons, List.length_nil]; omega)
  have q1 : ¬ (9223372036854775807 < (strOfNums ys).size + 1) := by rw [strOf_size]; have := HYB.out.2; omega
  have q2 : ¬ (9223372036854775807 < (strOfNums ys).size + 1 + 1) := by rw [strOf_size]; have := HYB.out.2; omega
  have e1 : strOfNums ys ++ (⟨#[32]⟩ : ByteArray) ++ ⟨#[44]⟩ = strOfNums z1 := by rw [hz1, show ys ++ 32 :: [44] = ys ++ [32] ++ [44] by simp, strOf_append, strOf_append]; rfl
  have HE1 := Aside0.mk e1
  have hrem : a.tmod 9 = 2 := by rw [Int.tmod_eq_emod_of_nonneg ha.1]; exact hk
  obtain ⟨ha0, ha1⟩ := ha
  clear h1 hb1 ht hm1 hs1 hys hz1 e1 hts hL hk
  go_enter Tryd.func6, Tryd.ntmps6
  go_upto_region 4 with (first
    | (go_at_call 17; (with_reducible refine HN.out.mono ?_); rintro e w2 ⟨v, rfl, hnd, hb2⟩; have HND := Aside0.mk hnd; have HB2 := Aside0.mk hb2; have HW := Aside0.mk (jsWritten_calls w2 (jsN code) v (.slice none 0 0) [] HOK.out.1 (by have := HOK.out; unfold Room; omega) (hnd.lower (Nat.zero_le _)) (Sl.nil _ _) (fun x hx => by cases hx)); clear hnd hb2)
    | (go_at_call 16; (with_reducible refine HW.out.mono ?_); rintro e w4 ⟨tv, rfl, hr, hb4⟩; rw [← HY.out]; have HR := Aside0.mk hr; have HB4 := Aside0.mk (HB2.out.trans (hb4.mono HB2.out.size)); clear hr hb4))
  rw [← HTS.out] at HR
  obtain ⟨A, c, rfl, -⟩ := row37 HR.out
  rw [HLX.out]
  go_upto_region 5 with (fail)
  have hal := below_alloc (Below.refl w4.heap.size w4) (.cells #[.string ⟨#[93]⟩, .string ⟨#[125]⟩, .string ⟨#[44]⟩, .string ⟨#[110, 117, 108]⟩, .string ⟨#[43, 49]⟩, .string ⟨#[116, 114, 117]⟩, .string ⟨#[39, 97, 39]⟩, .string ⟨#[102, 97, 108, 115]⟩, .string ⟨#[35]⟩] 9)
  obtain ⟨wa, hwa⟩ : ∃ wa, wa = w4.alloc (.cells #[.string ⟨#[93]⟩, .string ⟨#[125]⟩, .string ⟨#[44]⟩, .string ⟨#[110, 117, 108]⟩, .string ⟨#[43, 49]⟩, .string ⟨#[116, 114, 117]⟩, .string ⟨#[39, 97, 39]⟩, .string ⟨#[102, 97, 108, 115]⟩, .string ⟨#[35]⟩] 9) := ⟨_, rfl⟩
  rw [← hwa] at hal ⊢
  have HBA := Aside0.mk (HB4.out.trans (hal.mono HB4.out.size))
  have HRA := Aside0.mk (Kd.R_below HR.out hal)
  clear hwa hal
  obtain ⟨cz, w5, hcv, hsl5, hb5⟩ := text_bytes wa z1 HZL.out.1 (by have := HZL.out.2; omega)
  rw [← HE1.out] at hcv
  have HB5 := Aside0.mk (HBA.out.trans (hb5.mono HBA.out.size))
  have HR5 := Aside0.mk (Kd.R_below HRA.out hb5)
  have HD := Aside0.mk (doorBad w5 _ _ _ z1 (32 :: [44]) _ ⟨[], false⟩ hsl5 HZL.out.1 (by have := HZL.out.2; omega) HRUN.out (by rw [wrun_length]; have := HLX.out; rw [List.length_map, btoks_length] at this; omega) (HT.out.below HB5.out) (fun W' T p q hT hst => next_wrong W' _ T ⟨[], false⟩ [44] p q rfl (by decide) hT hst))
  clear hsl5 hb5
  go_upto_region 9 with (go_at_call 18; (with_reducible refine HD.out.mono ?_); rintro e w6 ⟨gv, rfl, hg, hb6⟩; have HG := Aside0.mk hg; have HB6 := Aside0.mk (HB5.out.trans (hb6.mono HB5.out.size)); have HR6 := Aside0.mk (Kd.R_below HR5.out hb6); obtain ⟨A', c', rfl, -⟩ := row37 hg; rw [HLY.out]; clear hg hb6)
  clear hcv
  go_loopg [46] L (fun gk v46 w' => ∃ j : Nat, v46 = .int .i64 (j : Int) ∧ Aside0 (j + gk = L) ∧ Aside0 (Below w6.heap.size w6 w'))
  case atStart => exact ⟨0, rfl, ⟨by omega⟩, ⟨Below.refl _ _⟩⟩
  case round =>
    obtain ⟨j, rfl, HJ, HB⟩ := hrel
    cases gk with
    | zero =>
      obtain rfl : j = L := by have := HJ.out; omega
      have dlt : decide ((j : Int) < (j : Int)) = false := by simp
      have HBR := Aside0.mk (HB6.out.trans (HB.out.mono HB6.out.size))
      go_wp2_with (go_at_call 19; (with_reducible refine (awake_calls _ (HT.out.below HBR.out)).mono ?_); rintro e wz ⟨rfl, hbz⟩; have HBZ := Aside0.mk (HBR.out.trans (hbz.mono (HBR.out).size)); clear hbz)
      go_returns
      exact ⟨rfl, HBZ.out⟩
    | succ k1 =>
      have hjm : j < L := by have := HJ.out; omega
      have dlt : decide ((j : Int) < (L : Int)) = true := by simpa using hjm
      obtain ⟨x, hx⟩ : ∃ x, ((btoks [] ts 0).map toS)[j]? = some x := ⟨_, List.getElem?_eq_getElem (by rw [HLX.out]; exact hjm)⟩
      obtain ⟨gb, hgx⟩ := wrun_row (32 :: [44]) ts 0 j x hx
      obtain ⟨B1, d1, e1, hc1⟩ := row37 (Kd.R_below HR6.out HB.out)
      obtain ⟨B2, d2, e2, hc2⟩ := row37 (Kd.R_below HG.out HB.out)
      injection e1 with e1 z1 z2
      injection e2 with e2 z3 z4
      clear z1 z2 z3 z4
      subst e1 e2
      obtain ⟨g, rfl, a0, a1, a2, a3, a4, a5, a6⟩ := hc1 j x hx
      obtain ⟨g', rfl, b0, b1, b2, b3, b4, b5, b6⟩ := hc2 j _ hgx
      obtain ⟨f0, f1, f2, f3, f4, f5, f6⟩ := x
      simp only at a0 a1 a2 a3 a4 a5 a6 b0 b1 b2 b3 b4 b5 b6
      have p0 := fun o : Obj => pw_cell_below (below_alloc (Below.refl wr.heap.size wr) o) b0
      have p1 := fun o : Obj => pw_cell_below (below_alloc (Below.refl wr.heap.size wr) o) b1
      have p2 := fun o : Obj => pw_cell_below (below_alloc (Below.refl wr.heap.size wr) o) b2
      have p3 := fun o : Obj => pw_cell_below (below_alloc (Below.refl wr.heap.size wr) o) b3
      have p4 := fun o : Obj => pw_cell_below (below_alloc (Below.refl wr.heap.size wr) o) b4
      have p5 := fun o : Obj => pw_cell_below (below_alloc (Below.refl wr.heap.size wr) o) b5
      have p6 := fun o : Obj => pw_cell_below (below_alloc (Below.refl wr.heap.size wr) o) b6
      clear hc1 hc2 hx hgx b0 b1 b2 b3 b4 b5 b6
      go_wp2_with fail
      go_roundg k1
      case measure => omega
      case rel => exact ⟨j + 1, by go_num, ⟨by have := HJ.out; omega⟩, ⟨HB.out.trans ((below_alloc (below_alloc (Below.refl _ _) _) _).mono HB.out.size)⟩⟩
set_option maxHeartbeats 4000000 in
set_option maxRecDepth 100000 in
theorem law_wrong_3 (w : World) (v1 : Value) (code : List Int) (h1 : Sl w w.heap.size v1 code) (hb1 : Bytes code) (ht : Tab w) (a : Int) (ha : 0 ≤ a ∧ a ≤ 255) (hk : a % 9 = 3) :
    Calls Tryd.prog 6 #[v1, .int .u8 a] w fun e w' => e = .returned (.bool true) ∧ Below w.heap.size w w' := by
  obtain ⟨A1, c1, rfl, -⟩ := h1.form
  obtain ⟨m1, hm1⟩ : ∃ m1, m1 = code.length := ⟨_, rfl⟩
  rw [← hm1] at h1 ⊢
  have hx1 : m1 ≤ 9223372036854775807 := by rw [hm1]; have := h1.cut.2.2.1.2.1; omega
  by_cases hs1 : 2147483647 < m1
  · clear h1 hb1 hm1 ht ha hk
    go_enter Tryd.func6, Tryd.ntmps6
    go_wp2_with fail
    go_returns
    exact ⟨rfl, Below.refl _ _⟩
  have hn1 : ¬ (2147483647 : Int) < (m1 : Int) := by omega
  have HN := Aside0.mk (jsNode_calls w w.heap.size _ code (Nat.le_refl _) h1 hb1)
  have HC := Aside0.mk hb1
  have HT := Aside0.mk ht
  have HOK := Aside0.mk (made_ok hb1)
  obtain ⟨ys, hys⟩ : ∃ ys, ys = sfx [] ((jsN code).toks 0 0) 0 := ⟨_, rfl⟩
  have HY := Aside0.mk hys
  have HYB := Aside0.mk (show Bytes ys ∧ ys.length ≤ 9000000 by rw [hys]; exact ⟨sfx_bytes HOK.out.1 [], sfx_le hb1 []⟩)
  obtain ⟨ts, hts⟩ : ∃ ts, ts = (jsN code).toks 0 0 := ⟨_, rfl⟩
  have HTS := Aside0.mk hts
  obtain ⟨L, hL⟩ : ∃ L, L = ts.length := ⟨_, rfl⟩
  have hL1 : L ≤ 2900000 := by rw [hL, hts]; exact HOK.out.2.2
  have HLX := Aside0.mk (show ((btoks [] ts 0).map toS).length = L by rw [List.length_map, btoks_length, hL])
  have HLY := Aside0.mk (show ((wrun [] (32 :: [110, 117, 108]) ts 0).map toS).length = L by rw [List.length_map, wrun_length, hL])
  obtain ⟨z1, hz1⟩ : ∃ z1, z1 = ys ++ 32 :: [110, 117, 108] := ⟨_, rfl⟩
  have HRUN := Aside0.mk (show TokRun ⟨[], false⟩ z1 (wrun [] (32 :: [110, 117, 108]) ts 0) ⟨[], false⟩ (32 :: [110, 117, 108]) by
    have := run_more HOK.out.1 (32 :: [110, 117, 108]) (numEnd_blank _)
    rw [← sfx_none _ 0, ← hys, ← hts, ← hz1] at this
    exact this)
  have HZL := Aside0.mk (show Bytes z1 ∧ z1.length ≤ 9000010 by
    refine ⟨by rw [hz1]; exact bytes_append HYB.out.1 (by intro x hx; simp at hx; omega), ?_⟩
    have := HYB.out.2; rw [hz1]; simp only [List.length_append, List.length_cons, List.length_nil]; omega)
  have q1 : ¬ (9223372036854775807 < (strOfNums ys).size + 1) := by rw [strOf_size]; have := HYB.out.2; omega
  have q2 : ¬ (9223372036854775807 < (strOfNums ys).size + 1 + 3) := by rw [strOf_size]; have := HYB.out.2; omega
  have e1 : strOfNums ys ++ (⟨#[32]⟩ : ByteArray) ++ ⟨#[110, 117, 108]⟩ = strOfNums z1 := by rw [hz1, show ys ++ 32 :: [110, 117, 108] = ys ++ [32] ++ [110, 117, 108] by simp, strOf_append, strOf_append]; rfl
  have HE1 := Aside0.mk e1
  have hrem : a.tmod 9 = 3 := by rw [Int.tmod_eq_emod_of_nonneg ha.1]; exact hk
  obtain ⟨ha0, ha1⟩ := ha
  clear h1 hb1 ht hm1 hs1 hys hz1 e1 hts hL hk
  go_enter Tryd.func6, Tryd.ntmps6
  go_upto_region 4 with (first
    | (go_at_call 17; (with_reducible refine HN.out.mono ?_); rintro e w2 ⟨v, rfl, hnd, hb2⟩; have HND := Aside0.mk hnd; have HB2 := Aside0.mk hb2; have HW := Aside0.mk (jsWritten_calls w2 (jsN code) v (.slice none 0 0) [] HOK.out.1 (by have := HOK.out; unfold Room; omega) (hnd.lower (Nat.zero_le _)) (Sl.nil _ _) (fun x hx => by cases hx)); clear hnd hb2)
    | (go_at_call 16; (with_reducible refine HW.out.mono ?_); rintro e w4 ⟨tv, rfl, hr, hb4⟩; rw [← HY.out]; have HR := Aside0.mk hr; have HB4 := Aside0.mk (HB2.out.trans (hb4.mono HB2.out.size)); clear hr hb4))
  rw [← HTS.out] at HR
  obtain ⟨A, c, rfl, -⟩ := row37 HR.out
  rw [HLX.out]
  go_upto_region 5 with (fail)
  have hal := below_alloc (Below.refl w4.heap.size w4) (.cells #[.string ⟨#[93]⟩, .string ⟨#[125]⟩, .string ⟨#[44]⟩, .string ⟨#[110, 117, 108]⟩, .string ⟨#[43, 49]⟩, .string ⟨#[116, 114, 117]⟩, .string ⟨#[39, 97, 39]⟩, .string ⟨#[102, 97, 108, 115]⟩, .string ⟨#[35]⟩] 9)
  obtain ⟨wa, hwa⟩ : ∃ wa, wa = w4.alloc (.cells #[.string ⟨#[93]⟩, .string ⟨#[125]⟩, .string ⟨#[44]⟩, .string ⟨#[110, 117, 108]⟩, .string ⟨#[43, 49]⟩, .string ⟨#[116, 114, 117]⟩, .string ⟨#[39, 97, 39]⟩, .string ⟨#[102, 97, 108, 115]⟩, .string ⟨#[35]⟩] 9) := ⟨_, rfl⟩
  rw [← hwa] at hal ⊢
  have HBA := Aside0.mk (HB4.out.trans (hal.mono HB4.out.size))
  have HRA := Aside0.mk (Kd.R_below HR.out hal)
  clear hwa hal
  obtain ⟨cz, w5, hcv, hsl5, hb5⟩ := text_bytes wa z1 HZL.out.1 (by have := HZL.out.2; omega)
  rw [← HE1.out] at hcv
  have HB5 := Aside0.mk (HBA.out.trans (hb5.mono HBA.out.size))
  have HR5 := Aside0.mk (Kd.R_below HRA.out hb5)
  have HD := Aside0.mk (doorBad w5 _ _ _ z1 (32 :: [110, 117, 108]) _ ⟨[], false⟩ hsl5 HZL.out.1 (by have := HZL.out.2; omega) HRUN.out (by rw [wrun_length]; have := HLX.out; rw [List.length_map, btoks_length] at this; omega) (HT.out.below HB5.out) (fun W' T p q hT hst => next_wrong W' _ T ⟨[], false⟩ [110, 117, 108] p q rfl (by decide) hT hst))
  clear hsl5 hb5
  go_upto_region 9 with (go_at_call 18; (with_reducible refine HD.out.mono ?_); rintro e w6 ⟨gv, rfl, hg, hb6⟩; have HG := Aside0.mk hg; have HB6 := Aside0.mk (HB5.out.trans (hb6.mono HB5.out.size)); have HR6 := Aside0.mk (Kd.R_below HR5.out hb6); obtain ⟨A', c', rfl, -⟩ := row37 hg; rw [HLY.out]; clear hg hb6)
  clear hcv
  go_loopg [46] L (fun gk v46 w' => ∃ j : Nat, v46 = .int .i64 (j : Int) ∧ Aside0 (j + gk = L) ∧ Aside0 (Below w6.heap.size w6 w'))
  case atStart => exact ⟨0, rfl, ⟨by omega⟩, ⟨Below.refl _ _⟩⟩
  case round =>
    obtain ⟨j, rfl, HJ, HB⟩ := hrel
    cases gk with
    | zero =>
      obtain rfl : j = L := by have := HJ.out; omega
      have dlt : decide ((j : Int) < (j : Int)) = false := by simp
      have HBR := Aside0.mk (HB6.out.trans (HB.out.mono HB6.out.size))
      go_wp2_with (go_at_call 19; (with_reducible refine (awake_calls _ (HT.out.below HBR.out)).mono ?_); rintro e wz ⟨rfl, hbz⟩; have HBZ := Aside0.mk (HBR.out.trans (hbz.mono (HBR.out).size)); clear hbz)
      go_returns
      exact ⟨rfl, HBZ.out⟩
    | succ k1 =>
      have hjm : j < L := by have := HJ.out; omega
      have dlt : decide ((j : Int) < (L : Int)) = true := by simpa using hjm
      obtain ⟨x, hx⟩ : ∃ x, ((btoks [] ts 0).map toS)[j]? = some x := ⟨_, List.getElem?_eq_getElem (by rw [HLX.out]; exact hjm)⟩
      obtain ⟨gb, hgx⟩ := wrun_row (32 :: [110, 117, 108]) ts 0 j x hx
      obtain ⟨B1, d1, e1, hc1⟩ := row37 (Kd.R_below HR6.out HB.out)
      obtain ⟨B2, d2, e2, hc2⟩ := row37 (Kd.R_below HG.out HB.out)
      injection e1 with e1 z1 z2
      injection e2 with e2 z3 z4
      clear z1 z2 z3 z4
      subst e1 e2
      obtain ⟨g, rfl, a0, a1, a2, a3, a4, a5, a6⟩ := hc1 j x hx
      obtain ⟨g', rfl, b0, b1, b2, b3, b4, b5, b6⟩ := hc2 j _ hgx
      obtain ⟨f0, f1, f2, f3, f4, f5, f6⟩ := x
      simp only at a0 a1 a2 a3 a4 a5 a6 b0 b1 b2 b3 b4 b5 b6
      have p0 := fun o : Obj => pw_cell_below (below_alloc (Below.refl wr.heap.size wr) o) b0
      have p1 := fun o : Obj => pw_cell_below (below_alloc (Below.refl wr.heap.size wr) o) b1
      have p2 := fun o : Obj => pw_cell_below (below_alloc (Below.refl wr.heap.size wr) o) b2
      have p3 := fun o : Obj => pw_cell_below (below_alloc (Below.refl wr.heap.size wr) o) b3
      have p4 := fun o : Obj => pw_cell_below (below_alloc (Below.refl wr.heap.size wr) o) b4
      have p5 := fun o : Obj => pw_cell_below (below_alloc (Below.refl wr.heap.size wr) o) b5
      have p6 := fun o : Obj => pw_cell_below (below_alloc (Below.refl wr.heap.size wr) o) b6
      clear hc1 hc2 hx hgx b0 b1 b2 b3 b4 b5 b6
      go_wp2_with fail
      go_roundg k1
      case measure => omega
      case rel => exact ⟨j + 1, by go_num, ⟨by have := HJ.out; omega⟩, ⟨HB.out.trans ((below_alloc (below_alloc (Below.refl _ _) _) _).mono HB.out.size)⟩⟩
set_option maxHeartbeats 4000000 in
set_option maxRecDepth 100000 in
theorem law_wrong_4 (w : World) (v1 : Value) (code : List Int) (h1 : Sl w w.heap.size v1 code) (hb1 : Bytes code) (ht : Tab w) (a : Int) (ha : 0 ≤ a ∧ a ≤ 255) (hk : a % 9 = 4) :
    Calls Tryd.prog 6 #[v1, .int .u8 a] w fun e w' => e = .returned (.bool true) ∧ Below w.heap.size w w' := by
  obtain ⟨A1, c1, rfl, -⟩ := h1.form
  obtain ⟨m1, hm1⟩ : ∃ m1, m1 = code.length := ⟨_, rfl⟩
  rw [← hm1] at h1 ⊢
  have hx1 : m1 ≤ 9223372036854775807 := by rw [hm1]; have := h1.cut.2.2.1.2.1; omega
  by_cases hs1 : 2147483647 < m1
  · clear h1 hb1 hm1 ht ha hk
    go_enter Tryd.func6, Tryd.ntmps6
    go_wp2_with fail
    go_returns
    exact ⟨rfl, Below.refl _ _⟩
  have hn1 : ¬ (2147483647 : Int) < (m1 : Int) := by omega
  have HN := Aside0.mk (jsNode_calls w w.heap.size _ code (Nat.le_refl _) h1 hb1)
  have HC := Aside0.mk hb1
  have HT := Aside0.mk ht
  have HOK := Aside0.mk (made_ok hb1)
  obtain ⟨ys, hys⟩ : ∃ ys, ys = sfx [] ((jsN code).toks 0 0) 0 := ⟨_, rfl⟩
  have HY := Aside0.mk hys
  have HYB := Aside0.mk (show Bytes ys ∧ ys.length ≤ 9000000 by rw [hys]; exact ⟨sfx_bytes HOK.out.1 [], sfx_le hb1 []⟩)
  obtain ⟨ts, hts⟩ : ∃ ts, ts = (jsN code).toks 0 0 := ⟨_, rfl⟩
  have HTS := Aside0.mk hts
  obtain ⟨L, hL⟩ : ∃ L, L = ts.length := ⟨_, rfl⟩
  have hL1 : L ≤ 2900000 := by rw [hL, hts]; exact HOK.out.2.2
  have HLX := Aside0.mk (show ((btoks [] ts 0).map toS).length = L by rw [List.length_map, btoks_length, hL])
  have HLY := Aside0.mk (show ((wrun [] (32 :: [43, 49]) ts 0).map toS).length = L by rw [List.length_map, wrun_length, hL])
  obtain ⟨z1, hz1⟩ : ∃ z1, z1 = ys ++ 32 :: [43, 49] := ⟨_, rfl⟩
  have HRUN := Aside0.mk (show TokRun ⟨[], false⟩ z1 (wrun [] (32 :: [43, 49]) ts 0) ⟨[], false⟩ (32 :: [43, 49]) by
    have := run_more HOK.out.1 (32 :: [43, 49]) (numEnd_blank _)
    rw [← sfx_none _ 0, ← hys, ← hts, ← hz1] at this
    exact this)
  have HZL := Aside0.mk (show Bytes z1 ∧ z1.length ≤ 9000010 by
    refine ⟨by rw [hz1]; exact bytes_append HYB.out.1 (by intro x hx; simp at hx; omega), ?_⟩
    have := HYB.out.2; rw [hz1]; simp only [List.length_append, List.length_cons, List.length_nil]; omega)
  have q1 : ¬ (9223372036854775807 < (strOfNums ys).size + 1) := by rw [strOf_size]; have := HYB.out.2; omega
  have q2 : ¬ (9223372036854775807 < (strOfNums ys).size + 1 + 2) := by rw [strOf_size]; have := HYB.out.2; omega
  have e1 : strOfNums ys ++ (⟨#[32]⟩ : ByteArray) ++ ⟨#[43, 49]⟩ = strOfNums z1 := by rw [hz1, show ys ++ 32 :: [43, 49] = ys ++ [32] ++ [43, 49] by simp, strOf_append, strOf_append]; rfl
  have HE1 := Aside0.mk e1
  have hrem : a.tmod 9 = 4 := by rw [Int.tmod_eq_emod_of_nonneg ha.1]; exact hk
  obtain ⟨ha0, ha1⟩ := ha
  clear h1 hb1 ht hm1 hs1 hys hz1 e1 hts hL hk
  go_enter Tryd.func6, Tryd.ntmps6
  go_upto_region 4 with (first
    | (go_at_call 17; (with_reducible refine HN.out.mono ?_); rintro e w2 ⟨v, rfl, hnd, hb2⟩; have HND := Aside0.mk hnd; have HB2 := Aside0.mk hb2; have HW := Aside0.mk (jsWritten_calls w2 (jsN code) v (.slice none 0 0) [] HOK.out.1 (by have := HOK.out; unfold Room; omega) (hnd.lower (Nat.zero_le _)) (Sl.nil _ _) (fun x hx => by cases hx)); clear hnd hb2)
    | (go_at_call 16; (with_reducible refine HW.out.mono ?_); rintro e w4 ⟨tv, rfl, hr, hb4⟩; rw [← HY.out]; have HR := Aside0.mk hr; have HB4 := Aside0.mk (HB2.out.trans (hb4.mono HB2.out.size)); clear hr hb4))
  rw [← HTS.out] at HR
  obtain ⟨A, c, rfl, -⟩ := row37 HR.out
  rw [HLX.out]
  go_upto_region 5 with (fail)
  have hal := below_alloc (Below.refl w4.heap.size w4) (.cells #[.string ⟨#[93]⟩, .string ⟨#[125]⟩, .string ⟨#[44]⟩, .string ⟨#[110, 117, 108]⟩, .string ⟨#[43, 49]⟩, .string ⟨#[116, 114, 117]⟩, .string ⟨#[39, 97, 39]⟩, .string ⟨#[102, 97, 108, 115]⟩, .string ⟨#[35]⟩] 9)
  obtain ⟨wa, hwa⟩ : ∃ wa, wa = w4.alloc (.cells #[.string ⟨#[93]⟩, .string ⟨#[125]⟩, .string ⟨#[44]⟩, .string ⟨#[110, 117, 108]⟩, .string ⟨#[43, 49]⟩, .string ⟨#[116, 114, 117]⟩, .string ⟨#[39, 97, 39]⟩, .string ⟨#[102, 97, 108, 115]⟩, .string ⟨#[35]⟩] 9) := ⟨_, rfl⟩
  rw [← hwa] at hal ⊢
  have HBA := Aside0.mk (HB4.out.trans (hal.mono HB4.out.size))
  have HRA := Aside0.mk (Kd.R_below HR.out hal)
  clear hwa hal
  obtain ⟨cz, w5, hcv, hsl5, hb5⟩ := text_bytes wa z1 HZL.out.1 (by have := HZL.out.2; omega)
  rw [← HE1.out] at hcv
  have HB5 := Aside0.mk (HBA.out.trans (hb5.mono HBA.out.size))
  have HR5 := Aside0.mk (Kd.R_below HRA.out hb5)
  have HD := Aside0.mk (doorBad w5 _ _ _ z1 (32 :: [43, 49]) _ ⟨[], false⟩ hsl5 HZL.out.1 (by have := HZL.out.2; omega) HRUN.out (by rw [wrun_length]; have := HLX.out; rw [List.length_map, btoks_length] at this; omega) (HT.out.below HB5.out) (fun W' T p q hT hst => next_wrong W' _ T ⟨[], false⟩ [43, 49] p q rfl (by decide) hT hst))
  clear hsl5 hb5
  go_upto_region 9 with (go_at_call 18; (with_reducible refine HD.out.mono ?_); rintro e w6 ⟨gv, rfl, hg, hb6⟩; have HG := Aside0.mk hg; have HB6 := Aside0.mk (HB5.out.trans (hb6.mono HB5.out.size)); have HR6 := Aside0.mk (Kd.R_below HR5.out hb6); obtain ⟨A', c', rfl, -⟩ := row37 hg; rw [HLY.out]; clear hg hb6)
  clear hcv
  go_loopg [46] L (fun gk v46 w' => ∃ j : Nat, v46 = .int .i64 (j : Int) ∧ Aside0 (j + gk = L) ∧ Aside0 (Below w6.heap.size w6 w'))
  case atStart => exact ⟨0, rfl, ⟨by omega⟩, ⟨Below.refl _ _⟩⟩
  case round =>
    obtain ⟨j, rfl, HJ, HB⟩ := hrel
    cases gk with
    | zero =>
      obtain rfl : j = L := by have := HJ.out; omega
      have dlt : decide ((j : Int) < (j : Int)) = false := by simp
      have HBR := Aside0.mk (HB6.out.trans (HB.out.mono HB6.out.size))
      go_wp2_with (go_at_call 19; (with_reducible refine (awake_calls _ (HT.out.below HBR.out)).mono ?_); rintro e wz ⟨rfl, hbz⟩; have HBZ := Aside0.mk (HBR.out.trans (hbz.mono (HBR.out).size)); clear hbz)
      go_returns
      exact ⟨rfl, HBZ.out⟩
    | succ k1 =>
      have hjm : j < L := by have := HJ.out; omega
      have dlt : decide ((j : Int) < (L : Int)) = true := by simpa using hjm
      obtain ⟨x, hx⟩ : ∃ x, ((btoks [] ts 0).map toS)[j]? = some x := ⟨_, List.getElem?_eq_getElem (by rw [HLX.out]; exact hjm)⟩
      obtain ⟨gb, hgx⟩ := wrun_row (32 :: [43, 49]) ts 0 j x hx
      obtain ⟨B1, d1, e1, hc1⟩ := row37 (Kd.R_below HR6.out HB.out)
      obtain ⟨B2, d2, e2, hc2⟩ := row37 (Kd.R_below HG.out HB.out)
      injection e1 with e1 z1 z2
      injection e2 with e2 z3 z4
      clear z1 z2 z3 z4
      subst e1 e2
      obtain ⟨g, rfl, a0, a1, a2, a3, a4, a5, a6⟩ := hc1 j x hx
      obtain ⟨g', rfl, b0, b1, b2, b3, b4, b5, b6⟩ := hc2 j _ hgx
      obtain ⟨f0, f1, f2, f3, f4, f5, f6⟩ := x
      simp only at a0 a1 a2 a3 a4 a5 a6 b0 b1 b2 b3 b4 b5 b6
      have p0 := fun o : Obj => pw_cell_below (below_alloc (Below.refl wr.heap.size wr) o) b0
      have p1 := fun o : Obj => pw_cell_below (below_alloc (Below.refl wr.heap.size wr) o) b1
      have p2 := fun o : Obj => pw_cell_below (below_alloc (Below.refl wr.heap.size wr) o) b2
      have p3 := fun o : Obj => pw_cell_below (below_alloc (Below.refl wr.heap.size wr) o) b3
      have p4 := fun o : Obj => pw_cell_below (below_alloc (Below.refl wr.heap.size wr) o) b4
      have p5 := fun o : Obj => pw_cell_below (below_alloc (Below.refl wr.heap.size wr) o) b5
      have p6 := fun o : Obj => pw_cell_below (below_alloc (Below.refl wr.heap.size wr) o) b6
      clear hc1 hc2 hx hgx b0 b1 b2 b3 b4 b5 b6
      go_wp2_with fail
      go_roundg k1
      case measure => omega
      case rel => exact ⟨j + 1, by go_num, ⟨by have := HJ.out; omega⟩, ⟨HB.out.trans ((below_alloc (below_alloc (Below.refl _ _) _) _).mono HB.out.size)⟩⟩
set_option maxHeartbeats 4000000 in
set_option maxRecDepth 100000 in
theorem law_wrong_5 (w : World) (v1 : Value) (code : List Int) (h1 : Sl w w.heap.size v1 code) (hb1 : Bytes code) (ht : Tab w) (a : Int) (ha : 0 ≤ a ∧ a ≤ 255) (hk : a % 9 = 5) :
    Calls Tryd.prog 6 #[v1, .int .u8 a] w fun e w' => e = .returned (.bool true) ∧ Below w.heap.size w w' := by
  obtain ⟨A1, c1, rfl, -⟩ := h1.form
  obtain ⟨m1, hm1⟩ : ∃ m1, m1 = code.length := ⟨_, rfl⟩
  rw [← hm1] at h1 ⊢
  have hx1 : m1 ≤ 9223372036854775807 := by rw [hm1]; have := h1.cut.2.2.1.2.1; omega
  by_cases hs1 : 2147483647 < m1
  · clear h1 hb1 hm1 ht ha hk
    go_enter Tryd.func6, Tryd.ntmps6
    go_wp2_with fail
    go_returns
    exact ⟨rfl, Below.refl _ _⟩
  have hn1 : ¬ (2147483647 : Int) < (m1 : Int) := by omega
  have HN := Aside0.mk (jsNode_calls w w.heap.size _ code (Nat.le_refl _) h1 hb1)
  have HC := Aside0.mk hb1
  have HT := Aside0.mk ht
  have HOK := Aside0.mk (made_ok hb1)
  obtain ⟨ys, hys⟩ : ∃ ys, ys = sfx [] ((jsN code).toks 0 0) 0 := ⟨_, rfl⟩
  have HY := Aside0.mk hys
  have HYB := Aside0.mk (show Bytes ys ∧ ys.length ≤ 9000000 by rw [hys]; exact ⟨sfx_bytes HOK.out.1 [], sfx_le hb1 []⟩)
  obtain ⟨ts, hts⟩ : ∃ ts, ts = (jsN code).toks 0 0 := ⟨_, rfl⟩
  have HTS := Aside0.mk hts
  obtain ⟨L, hL⟩ : ∃ L, L = ts.length := ⟨_, rfl⟩
  have hL1 : L ≤ 2900000 := by rw [hL, hts]; exact HOK.out.2.2
  have HLX := Aside0.mk (show ((btoks [] ts 0).map toS).length = L by rw [List.length_map, btoks_length, hL])
  have HLY := Aside0.mk (show ((wrun [] (32 :: [116, 114, 117]) ts 0).map toS).length = L by rw [List.length_map, wrun_length, hL])
  obtain ⟨z1, hz1⟩ : ∃ z1, z1 = ys ++ 32 :: [116, 114, 117] := ⟨_, rfl⟩
  have HRUN := Aside0.mk (show TokRun ⟨[], false⟩ z1 (wrun [] (32 :: [116, 114, 117]) ts 0) ⟨[], false⟩ (32 :: [116, 114, 117]) by
    have := run_more HOK.out.1 (32 :: [116, 114, 117]) (numEnd_blank _)
    rw [← sfx_none _ 0, ← hys, ← hts, ← hz1] at this
    exact this)
  have HZL := Aside0.mk (show Bytes z1 ∧ z1.length ≤ 9000010 by
    refine ⟨by rw [hz1]; exact bytes_append HYB.out.1 (by intro x hx; simp at hx; omega), ?_⟩
    have := HYB.out.2; rw [hz1]; simp only [List.length_append, List.length_cons, List.length_nil]; omega)
  have q1 : ¬ (9223372036854775807 < (strOfNums ys).size + 1) := by rw [strOf_size]; have := HYB.out.2; omega
  have q2 : ¬ (9223372036854775807 < (strOfNums ys).size + 1 + 3) := by rw [strOf_size]; have := HYB.out.2; omega
  have e1 : strOfNums ys ++ (⟨#[32]⟩ : ByteArray) ++ ⟨#[116, 114, 117]⟩ = strOfNums z1 := by rw [hz1, show ys ++ 32 :: [116, 114, 117] = ys ++ [32] ++ [116, 114, 117] by simp, strOf_append, strOf_append]; rfl
  have HE1 := Aside0.mk e1
  have hrem : a.tmod 9 = 5 := by rw [Int.tmod_eq_emod_of_nonneg ha.1]; exact hk
  obtain ⟨ha0, ha1⟩ := ha
  clear h1 hb1 ht hm1 hs1 hys hz1 e1 hts hL hk
  go_enter Tryd.func6, Tryd.ntmps6
  go_upto_region 4 with (first
    | (go_at_call 17; (with_reducible refine HN.out.mono ?_); rintro e w2 ⟨v, rfl, hnd, hb2⟩; have HND := Aside0.mk hnd; have HB2 := Aside0.mk hb2; have HW := Aside0.mk (jsWritten_calls w2 (jsN code) v (.slice none 0 0) [] HOK.out.1 (by have := HOK.out; unfold Room; omega) (hnd.lower (Nat.zero_le _)) (Sl.nil _ _) (fun x hx => by cases hx)); clear hnd hb2)
    | (go_at_call 16; (with_reducible refine HW.out.mono ?_); rintro e w4 ⟨tv, rfl, hr, hb4⟩; rw [← HY.out]; have HR := Aside0.mk hr; have HB4 := Aside0.mk (HB2.out.trans (hb4.mono HB2.out.size)); clear hr hb4))
  rw [← HTS.out] at HR
  obtain ⟨A, c, rfl, -⟩ := row37 HR.out
  rw [HLX.out]
  go_upto_region 5 with (fail)
  have hal := below_alloc (Below.refl w4.heap.size w4) (.cells #[.string ⟨#[93]⟩, .string ⟨#[125]⟩, .string ⟨#[44]⟩, .string ⟨#[110, 117, 108]⟩, .string ⟨#[43, 49]⟩, .string ⟨#[116, 114, 117]⟩, .string ⟨#[39, 97, 39]⟩, .string ⟨#[102, 97, 108, 115]⟩, .string ⟨#[35]⟩] 9)
  obtain ⟨wa, hwa⟩ : ∃ wa, wa = w4.alloc (.cells #[.string ⟨#[93]⟩, .string ⟨#[125]⟩, .string ⟨#[44]⟩, .string ⟨#[110, 117, 108]⟩, .string ⟨#[43, 49]⟩, .string ⟨#[116, 114, 117]⟩, .string ⟨#[39, 97, 39]⟩, .string ⟨#[102, 97, 108, 115]⟩, .string ⟨#[35]⟩] 9) := ⟨_, rfl⟩
  rw [← hwa] at hal ⊢
  have HBA := Aside0.mk (HB4.out.trans (hal.mono HB4.out.size))
  have HRA := Aside0.mk (Kd.R_below HR.out hal)
  clear hwa hal
  obtain ⟨cz, w5, hcv, hsl5, hb5⟩ := text_bytes wa z1 HZL.out.1 (by have := HZL.out.2; omega)
  rw [← HE1.out] at hcv
  have HB5 := Aside0.mk (HBA.out.trans (hb5.mono HBA.out.size))
  have HR5 := Aside0.mk (Kd.R_below HRA.out hb5)
  have HD := Aside0.mk (doorBad w5 _ _ _ z1 (32 :: [116, 114, 117]) _ ⟨[], false⟩ hsl5 HZL.out.1 (by have := HZL.out.2; omega) HRUN.out (by rw [wrun_length]; have := HLX.out; rw [List.length_map, btoks_length] at this; omega) (HT.out.below HB5.out) (fun W' T p q hT hst => next_wrong W' _ T ⟨[], false⟩ [116, 114, 117] p q rfl (by decide) hT hst))
  clear hsl5 hb5
  go_upto_region 9 with (go_at_call 18; (with_reducible refine HD.out.mono ?_); rintro e w6 ⟨gv, rfl, hg, hb6⟩; have HG := Aside0.mk hg; have HB6 := Aside0.mk (HB5.out.trans (hb6.mono HB5.out.size)); have HR6 := Aside0.mk (Kd.R_below HR5.out hb6); obtain ⟨A', c', rfl, -⟩ := row37 hg; rw [HLY.out]; clear hg hb6)
  clear hcv
  go_loopg [46] L (fun gk v46 w' => ∃ j : Nat, v46 = .int .i64 (j : Int) ∧ Aside0 (j + gk = L) ∧ Aside0 (Below w6.heap.size w6 w'))
  case atStart => exact ⟨0, rfl, ⟨by omega⟩, ⟨Below.refl _ _⟩⟩
  case round =>
    obtain ⟨j, rfl, HJ, HB⟩ := hrel
    cases gk with
    | zero =>
      obtain rfl : j = L := by have := HJ.out; omega
      have dlt : decide ((j : Int) < (j : Int)) = false := by simp
      have HBR := Aside0.mk (HB6.out.trans (HB.out.mono HB6.out.size))
      go_wp2_with (go_at_call 19; (with_reducible refine (awake_calls _ (HT.out.below HBR.out)).mono ?_); rintro e wz ⟨rfl, hbz⟩; have HBZ := Aside0.mk (HBR.out.trans (hbz.mono (HBR.out).size)); clear hbz)
      go_returns
      exact ⟨rfl, HBZ.out⟩
    | succ k1 =>
      have hjm : j < L := by have := HJ.out; omega
      have dlt : decide ((j : Int) < (L : Int)) = true := by simpa using hjm
      obtain ⟨x, hx⟩ : ∃ x, ((btoks [] ts 0).map toS)[j]? = some x := ⟨_, List.getElem?_eq_getElem (by rw [HLX.out]; exact hjm)⟩
      obtain ⟨gb, hgx⟩ := wrun_row (32 :: [116, 114, 117]) ts 0 j x hx
      obtain ⟨B1, d1, e1, hc1⟩ := row37 (Kd.R_below HR6.out HB.out)
      obtain ⟨B2, d2, e2, hc2⟩ := row37 (Kd.R_below HG.out HB.out)
      injection e1 with e1 z1 z2
      injection e2 with e2 z3 z4
      clear z1 z2 z3 z4
      subst e1 e2
      obtain ⟨g, rfl, a0, a1, a2, a3, a4, a5, a6⟩ := hc1 j x hx
      obtain ⟨g', rfl, b0, b1, b2, b3, b4, b5, b6⟩ := hc2 j _ hgx
      obtain ⟨f0, f1, f2, f3, f4, f5, f6⟩ := x
      simp only at a0 a1 a2 a3 a4 a5 a6 b0 b1 b2 b3 b4 b5 b6
      have p0 := fun o : Obj => pw_cell_below (below_alloc (Below.refl wr.heap.size wr) o) b0
      have p1 := fun o : Obj => pw_cell_below (below_alloc (Below.refl wr.heap.size wr) o) b1
      have p2 := fun o : Obj => pw_cell_below (below_alloc (Below.refl wr.heap.size wr) o) b2
      have p3 := fun o : Obj => pw_cell_below (below_alloc (Below.refl wr.heap.size wr) o) b3
      have p4 := fun o : Obj => pw_cell_below (below_alloc (Below.refl wr.heap.size wr) o) b4
      have p5 := fun o : Obj => pw_cell_below (below_alloc (Below.refl wr.heap.size wr) o) b5
      have p6 := fun o : Obj => pw_cell_below (below_alloc (Below.refl wr.heap.size wr) o) b6
      clear hc1 hc2 hx hgx b0 b1 b2 b3 b4 b5 b6
      go_wp2_with fail
      go_roundg k1
      case measure => omega
      case rel => exact ⟨j + 1, by go_num, ⟨by have := HJ.out; omega⟩, ⟨HB.out.trans ((below_alloc (below_alloc (Below.refl _ _) _) _).mono HB.out.size)⟩⟩
set_option maxHeartbeats 4000000 in
set_option maxRecDepth 100000 in
theorem law_wrong_6 (w : World) (v1 : Value) (code : List Int) (h1 : Sl w w.heap.size v1 code) (hb1 : Bytes code) (ht : Tab w) (a : Int) (ha : 0 ≤ a ∧ a ≤ 255) (hk : a % 9 = 6) :
    Calls Tryd.prog 6 #[v1, .int .u8 a] w fun e w' => e = .returned (.bool true) ∧ Below w.heap.size w w' := by
  obtain ⟨A1, c1, rfl, -⟩ := h1.form
  obtain ⟨m1, hm1⟩ : ∃ m1, m1 = code.length := ⟨_, rfl⟩
  rw [← hm1] at h1 ⊢
  have hx1 : m1 ≤ 9223372036854775807 := by rw [hm1]; have := h1.cut.2.2.1.2.1; omega
  by_cases hs1 : 2147483647 < m1
  · clear h1 hb1 hm1 ht ha hk
    go_enter Tryd.func6, Tryd.ntmps6
    go_wp2_with fail
    go_returns
    exact ⟨rfl, Below.refl _ _⟩
  have hn1 : ¬ (2147483647 : Int) < (m1 : Int) := by omega
  have HN := Aside0.mk (jsNode_calls w w.heap.size _ code (Nat.le_refl _) h1 hb1)
  have HC := Aside0.mk hb1
  have HT := Aside0.mk ht
  have HOK := Aside0.mk (made_ok hb1)
  obtain ⟨ys, hys⟩ : ∃ ys, ys = sfx [] ((jsN code).toks 0 0) 0 := ⟨_, rfl⟩
  have HY := Aside0.mk hys
  have HYB := Aside0.mk (show Bytes ys ∧ ys.length ≤ 9000000 by rw [hys]; exact ⟨sfx_bytes HOK.out.1 [], sfx_le hb1 []⟩)
  obtain ⟨ts, hts⟩ : ∃ ts, ts = (jsN code).toks 0 0 := ⟨_, rfl⟩
  have HTS := Aside0.mk hts
  obtain ⟨L, hL⟩ : ∃ L, L = ts.length := ⟨_, rfl⟩
  have hL1 : L ≤ 2900000 := by rw [hL, hts]; exact HOK.out.2.2
  have HLX := Aside0.mk (show ((btoks [] ts 0).map toS).length = L by rw [List.length_map, btoks_length, hL])
  have HLY := Aside0.mk (show ((wrun [] (32 :: [39, 97, 39]) ts 0).map toS).length = L by rw [List.length_map, wrun_length, hL])
  obtain ⟨z1, hz1⟩ : ∃ z1, z1 = ys ++ 32 :: [39, 97, 39] := ⟨_, rfl⟩
  have HRUN := Aside0.mk (show TokRun ⟨[], false⟩ z1 (wrun [] (32 :: [39, 97, 39]) ts 0) ⟨[], false⟩ (32 :: [39, 97, 39]) by
    have := run_more HOK.out.1 (32 :: [39, 97, 39]) (numEnd_blank _)
    rw [← sfx_none _ 0, ← hys, ← hts, ← hz1] at this
    exact this)
  have HZL := Aside0.mk (show Bytes z1 ∧ z1.length ≤ 9000010 by
    refine ⟨by rw [hz1]; exact bytes_append HYB.out.1 (by intro x hx; simp at hx; omega), ?_⟩
    have := HYB.out.2; rw [hz1]; simp only [List.length_append, List.length_cons, List.length_nil]; omega)
  have q1 : ¬ (9223372036854775807 < (strOfNums ys).size + 1) := by rw [strOf_size]; have := HYB.out.2; omega
  have q2 : ¬ (9223372036854775807 < (strOfNums ys).size + 1 + 3) := by rw [strOf_size]; have := HYB.out.2; omega
  have e1 : strOfNums ys ++ (⟨#[32]⟩ : ByteArray) ++ ⟨#[39, 97, 39]⟩ = strOfNums z1 := by rw [hz1, show ys ++ 32 :: [39, 97, 39] = ys ++ [32] ++ [39, 97, 39] by simp, strOf_append, strOf_append]; rfl
  have HE1 := Aside0.mk e1
  have hrem : a.tmod 9 = 6 := by rw [Int.tmod_eq_emod_of_nonneg ha.1]; exact hk
  obtain ⟨ha0, ha1⟩ := ha
  clear h1 hb1 ht hm1 hs1 hys hz1 e1 hts hL hk
  go_enter Tryd.func6, Tryd.ntmps6
  go_upto_region 4 with (first
    | (go_at_call 17; (with_reducible refine HN.out.mono ?_); rintro e w2 ⟨v, rfl, hnd, hb2⟩; have HND := Aside0.mk hnd; have HB2 := Aside0.mk hb2; have HW := Aside0.mk (jsWritten_calls w2 (jsN code) v (.slice none 0 0) [] HOK.out.1 (by have := HOK.out; unfold Room; omega) (hnd.lower (Nat.zero_le _)) (Sl.nil _ _) (fun x hx => by cases hx)); clear hnd hb2)
    | (go_at_call 16; (with_reducible refine HW.out.mono ?_); rintro e w4 ⟨tv, rfl, hr, hb4⟩; rw [← HY.out]; have HR := Aside0.mk hr; have HB4 := Aside0.mk (HB2.out.trans (hb4.mono HB2.out.size)); clear hr hb4))
  rw [← HTS.out] at HR
  obtain ⟨A, c, rfl, -⟩ := row37 HR.out
  rw [HLX.out]
  go_upto_region 5 with (fail)
  have hal := below_alloc (Below.refl w4.heap.size w4) (.cells #[.string ⟨#[93]⟩, .string ⟨#[125]⟩, .string ⟨#[44]⟩, .string ⟨#[110, 117, 108]⟩, .string ⟨#[43, 49]⟩, .string ⟨#[116, 114, 117]⟩, .string ⟨#[39, 97, 39]⟩, .string ⟨#[102, 97, 108, 115]⟩, .string ⟨#[35]⟩] 9)
  obtain ⟨wa, hwa⟩ : ∃ wa, wa = w4.alloc (.cells #[.string ⟨#[93]⟩, .string ⟨#[125]⟩, .string ⟨#[44]⟩, .string ⟨#[110, 117, 108]⟩, .string ⟨#[43, 49]⟩, .string ⟨#[116, 114, 117]⟩, .string ⟨#[39, 97, 39]⟩, .string ⟨#[102, 97, 108, 115]⟩, .string ⟨#[35]⟩] 9) := ⟨_, rfl⟩
  rw [← hwa] at hal ⊢
  have HBA := Aside0.mk (HB4.out.trans (hal.mono HB4.out.size))
  have HRA := Aside0.mk (Kd.R_below HR.out hal)
  clear hwa hal
  obtain ⟨cz, w5, hcv, hsl5, hb5⟩ := text_bytes wa z1 HZL.out.1 (by have := HZL.out.2; omega)
  rw [← HE1.out] at hcv
  have HB5 := Aside0.mk (HBA.out.trans (hb5.mono HBA.out.size))
  have HR5 := Aside0.mk (Kd.R_below HRA.out hb5)
  have HD := Aside0.mk (doorBad w5 _ _ _ z1 (32 :: [39, 97, 39]) _ ⟨[], false⟩ hsl5 HZL.out.1 (by have := HZL.out.2; omega) HRUN.out (by rw [wrun_length]; have := HLX.out; rw [List.length_map, btoks_length] at this; omega) (HT.out.below HB5.out) (fun W' T p q hT hst => next_wrong W' _ T ⟨[], false⟩ [39, 97, 39] p q rfl (by decide) hT hst))
  clear hsl5 hb5
  go_upto_region 9 with (go_at_call 18; (with_reducible refine HD.out.mono ?_); rintro e w6 ⟨gv, rfl, hg, hb6⟩; have HG := Aside0.mk hg; have HB6 := Aside0.mk (HB5.out.trans (hb6.mono HB5.out.size)); have HR6 := Aside0.mk (Kd.R_below HR5.out hb6); obtain ⟨A', c', rfl, -⟩ := row37 hg; rw [HLY.out]; clear hg hb6)
  clear hcv
  go_loopg [46] L (fun gk v46 w' => ∃ j : Nat, v46 = .int .i64 (j : Int) ∧ Aside0 (j + gk = L) ∧ Aside0 (Below w6.heap.size w6 w'))
  case atStart => exact ⟨0, rfl, ⟨by omega⟩, ⟨Below.refl _ _⟩⟩
  case round =>
    obtain ⟨j, rfl, HJ, HB⟩ := hrel
    cases gk with
    | zero =>
      obtain rfl : j = L := by have := HJ.out; omega
      have dlt : decide ((j : Int) < (j : Int)) = false := by simp
      have HBR := Aside0.mk (HB6.out.trans (HB.out.mono HB6.out.size))
      go_wp2_with (go_at_call 19; (with_reducible refine (awake_calls _ (HT.out.below HBR.out)).mono ?_); rintro e wz ⟨rfl, hbz⟩; have HBZ := Aside0.mk (HBR.out.trans (hbz.mono (HBR.out).size)); clear hbz)
      go_returns
      exact ⟨rfl, HBZ.out⟩
    | succ k1 =>
      have hjm : j < L := by have := HJ.out; omega
      have dlt : decide ((j : Int) < (L : Int)) = true := by simpa using hjm
      obtain ⟨x, hx⟩ : ∃ x, ((btoks [] ts 0).map toS)[j]? = some x := ⟨_, List.getElem?_eq_getElem (by rw [HLX.out]; exact hjm)⟩
      obtain ⟨gb, hgx⟩ := wrun_row (32 :: [39, 97, 39]) ts 0 j x hx
      obtain ⟨B1, d1, e1, hc1⟩ := row37 (Kd.R_below HR6.out HB.out)
      obtain ⟨B2, d2, e2, hc2⟩ := row37 (Kd.R_below HG.out HB.out)
      injection e1 with e1 z1 z2
      injection e2 with e2 z3 z4
      clear z1 z2 z3 z4
      subst e1 e2
      obtain ⟨g, rfl, a0, a1, a2, a3, a4, a5, a6⟩ := hc1 j x hx
      obtain ⟨g', rfl, b0, b1, b2, b3, b4, b5, b6⟩ := hc2 j _ hgx
      obtain ⟨f0, f1, f2, f3, f4, f5, f6⟩ := x
      simp only at a0 a1 a2 a3 a4 a5 a6 b0 b1 b2 b3 b4 b5 b6
      have p0 := fun o : Obj => pw_cell_below (below_alloc (Below.refl wr.heap.size wr) o) b0
      have p1 := fun o : Obj => pw_cell_below (below_alloc (Below.refl wr.heap.size wr) o) b1
      have p2 := fun o : Obj => pw_cell_below (below_alloc (Below.refl wr.heap.size wr) o) b2
      have p3 := fun o : Obj => pw_cell_below (below_alloc (Below.refl wr.heap.size wr) o) b3
      have p4 := fun o : Obj => pw_cell_below (below_alloc (Below.refl wr.heap.size wr) o) b4
      have p5 := fun o : Obj => pw_cell_below (below_alloc (Below.refl wr.heap.size wr) o) b5
      have p6 := fun o : Obj => pw_cell_below (below_alloc (Below.refl wr.heap.size wr) o) b6
      clear hc1 hc2 hx hgx b0 b1 b2 b3 b4 b5 b6
      go_wp2_with fail
      go_roundg k1
      case measure => omega
      case rel => exact ⟨j + 1, by go_num, ⟨by have := HJ.out; omega⟩, ⟨HB.out.trans ((below_alloc (below_alloc (Below.refl _ _) _) _).mono HB.out.size)⟩⟩
set_option maxHeartbeats 4000000 in
set_option maxRecDepth 100000 in
theorem law_wrong_7 (w : World) (v1 : Value) (code : List Int) (h1 : Sl w w.heap.size v1 code) (hb1 : Bytes code) (ht : Tab w) (a : Int) (ha : 0 ≤ a ∧ a ≤ 255) (hk : a % 9 = 7) :
    Calls Tryd.prog 6 #[v1, .int .u8 a] w fun e w' => e = .returned (.bool true) ∧ Below w.heap.size w w' := by
  obtain ⟨A1, c1, rfl, -⟩ := h1.form
  obtain ⟨m1, hm1⟩ : ∃ m1, m1 = code.length := ⟨_, rfl⟩
  rw [← hm1] at h1 ⊢
  have hx1 : m1 ≤ 9223372036854775807 := by rw [hm1]; have := h1.cut.2.2.1.2.1; omega
  by_cases hs1 : 2147483647 < m1
  · clear h1 hb1 hm1 ht ha hk
    go_enter Tryd.func6, Tryd.ntmps6
    go_wp2_with fail
    go_returns
    exact ⟨rfl, Below.refl _ _⟩
  have hn1 : ¬ (2147483647 : Int) < (m1 : Int) := by omega
  have HN := Aside0.mk (jsNode_calls w w.heap.size _ code (Nat.le_refl _) h1 hb1)
  have HC := Aside0.mk hb1
  have HT := Aside0.mk ht
  have HOK := Aside0.mk (made_ok hb1)
  obtain ⟨ys, hys⟩ : ∃ ys, ys = sfx [] ((jsN code).toks 0 0) 0 := ⟨_, rfl⟩
  have HY := Aside0.mk hys
  have HYB := Aside0.mk (show Bytes ys ∧ ys.length ≤ 9000000 by rw [hys]; exact ⟨sfx_bytes HOK.out.1 [], sfx_le hb1 []⟩)
  obtain ⟨ts, hts⟩ : ∃ ts, ts = (jsN code).toks 0 0 := ⟨_, rfl⟩
  have HTS := Aside0.mk hts
  obtain ⟨L, hL⟩ : ∃ L, L = ts.length := ⟨_, rfl⟩
  have hL1 : L ≤ 2900000 := by rw [hL, hts]; exact HOK.out.2.2
  have HLX := Aside0.mk (show ((btoks [] ts 0).map toS).length = L by rw [List.length_map, btoks_length, hL])
  have HLY := Aside0.mk (show ((wrun [] (32 :: [102, 97, 108, 115]) ts 0).map toS).length = L by rw [List.length_map, wrun_length, hL])
  obtain ⟨z1, hz1⟩ : ∃ z1, z1 = ys ++ 32 :: [102, 97, 108, 115] := ⟨_, rfl⟩
  have HRUN := Aside0.mk (show TokRun ⟨[], false⟩ z1 (wrun [] (32 :: [102, 97, 108, 115]) ts 0) ⟨[], false⟩ (32 :: [102, 97, 108, 115]) by
    have := run_more HOK.out.1 (32 :: [102, 97, 108, 115]) (numEnd_blank _)
    rw [← sfx_none _ 0, ← hys, ← hts, ← hz1] at this
    exact this)
  have HZL := Aside0.mk (show Bytes z1 ∧ z1.length ≤ 9000010 by
    refine ⟨by rw [hz1]; exact bytes_append HYB.out.1 (by intro x hx; simp at hx; omega), ?_⟩
    have := HYB.out.2; rw [hz1]; simp only [List.length_append, List.length_cons, List.length_nil]; omega)
  have q1 : ¬ (9223372036854775807 < (strOfNums ys).size + 1) := by rw [strOf_size]; have := HYB.out.2; omega
  have q2 : ¬ (9223372036854775807 < (strOfNums ys).size + 1 + 4) := by rw [strOf_size]; have := HYB.out.2; omega
  have e1 : strOfNums ys ++ (⟨#[32]⟩ : ByteArray) ++ ⟨#[102, 97, 108, 115]⟩ = strOfNums z1 := by rw [hz1, show ys ++ 32 :: [102, 97, 108, 115] = ys ++ [32] ++ [102, 97, 108, 115] by simp, strOf_append, strOf_append]; rfl
  have HE1 := Aside0.mk e1
  have hrem : a.tmod 9 = 7 := by rw [Int.tmod_eq_emod_of_nonneg ha.1]; exact hk
  obtain ⟨ha0, ha1⟩ := ha
  clear h1 hb1 ht hm1 hs1 hys hz1 e1 hts hL hk
  go_enter Tryd.func6, Tryd.ntmps6
  go_upto_region 4 with (first
    | (go_at_call 17; (with_reducible refine HN.out.mono ?_); rintro e w2 ⟨v, rfl, hnd, hb2⟩; have HND := Aside0.mk hnd; have HB2 := Aside0.mk hb2; have HW := Aside0.mk (jsWritten_calls w2 (jsN code) v (.slice none 0 0) [] HOK.out.1 (by have := HOK.out; unfold Room; omega) (hnd.lower (Nat.zero_le _)) (Sl.nil _ _) (fun x hx => by cases hx)); clear hnd hb2)
    | (go_at_call 16; (with_reducible refine HW.out.mono ?_); rintro e w4 ⟨tv, rfl, hr, hb4⟩; rw [← HY.out]; have HR := Aside0.mk hr; have HB4 := Aside0.mk (HB2.out.trans (hb4.mono HB2.out.size)); clear hr hb4))
  rw [← HTS.out] at HR
  obtain ⟨A, c, rfl, -⟩ := row37 HR.out
  rw [HLX.out]
  go_upto_region 5 with (fail)
  have hal := below_alloc (Below.refl w4.heap.size w4) (.cells #[.string ⟨#[93]⟩, .string ⟨#[125]⟩, .string ⟨#[44]⟩, .string ⟨#[110, 117, 108]⟩, .string ⟨#[43, 49]⟩, .string ⟨#[116, 114, 117]⟩, .string ⟨#[39, 97, 39]⟩, .string ⟨#[102, 97, 108, 115]⟩, .string ⟨#[35]⟩] 9)
  obtain ⟨wa, hwa⟩ : ∃ wa, wa = w4.alloc (.cells #[.string ⟨#[93]⟩, .string ⟨#[125]⟩, .string ⟨#[44]⟩, .string ⟨#[110, 117, 108]⟩, .string ⟨#[43, 49]⟩, .string ⟨#[116, 114, 117]⟩, .string ⟨#[39, 97, 39]⟩, .string ⟨#[102, 97, 108, 115]⟩, .string ⟨#[35]⟩] 9) := ⟨_, rfl⟩
  rw [← hwa] at hal ⊢
  have HBA := Aside0.mk (HB4.out.trans (hal.mono HB4.out.size))
  have HRA := Aside0.mk (Kd.R_below HR.out hal)
  clear hwa hal
  obtain ⟨cz, w5, hcv, hsl5, hb5⟩ := text_bytes wa z1 HZL.out.1 (by have := HZL.out.2; omega)
  rw [← HE1.out] at hcv
  have HB5 := Aside0.mk (HBA.out.trans (hb5.mono HBA.out.size))
  have HR5 := Aside0.mk (Kd.R_below HRA.out hb5)
  have HD := Aside0.mk (doorBad w5 _ _ _ z1 (32 :: [102, 97, 108, 115]) _ ⟨[], false⟩ hsl5 HZL.out.1 (by have := HZL.out.2; omega) HRUN.out (by rw [wrun_length]; have := HLX.out; rw [List.length_map, btoks_length] at this; omega) (HT.out.below HB5.out) (fun W' T p q hT hst => next_wrong W' _ T ⟨[], false⟩ [102, 97, 108, 115] p q rfl (by decide) hT hst))
  clear hsl5 hb5
  go_upto_region 9 with (go_at_call 18; (with_reducible refine HD.out.mono ?_); rintro e w6 ⟨gv, rfl, hg, hb6⟩; have HG := Aside0.mk hg; have HB6 := Aside0.mk (HB5.out.trans (hb6.mono HB5.out.size)); have HR6 := Aside0.mk (Kd.R_below HR5.out hb6); obtain ⟨A', c', rfl, -⟩ := row37 hg; rw [HLY.out]; clear hg hb6)
  clear hcv
  go_loopg [46] L (fun gk v46 w' => ∃ j : Nat, v46 = .int .i64 (j : Int) ∧ Aside0 (j + gk = L) ∧ Aside0 (Below w6.heap.size w6 w'))
  case atStart => exact ⟨0, rfl, ⟨by omega⟩, ⟨Below.refl _ _⟩⟩
  case round =>
    obtain ⟨j, rfl, HJ, HB⟩ := hrel
    cases gk with
    | zero =>
      obtain rfl : j = L := by have := HJ.out; omega
      have dlt : decide ((j : Int) < (j : Int)) = false := by simp
      have HBR := Aside0.mk (HB6.out.trans (HB.out.mono HB6.out.size))
      go_wp2_with (go_at_call 19; (with_reducible refine (awake_calls _ (HT.out.below HBR.out)).mono ?_); rintro e wz ⟨rfl, hbz⟩; have HBZ := Aside0.mk (HBR.out.trans (hbz.mono (HBR.out).size)); clear hbz)
      go_returns
      exact ⟨rfl, HBZ.out⟩
    | succ k1 =>
      have hjm : j < L := by have := HJ.out; omega
      have dlt : decide ((j : Int) < (L : Int)) = true := by simpa using hjm
      obtain ⟨x, hx⟩ : ∃ x, ((btoks [] ts 0).map toS)[j]? = some x := ⟨_, List.getElem?_eq_getElem (by rw [HLX.out]; exact hjm)⟩
      obtain ⟨gb, hgx⟩ := wrun_row (32 :: [102, 97, 108, 115]) ts 0 j x hx
      obtain ⟨B1, d1, e1, hc1⟩ := row37 (Kd.R_below HR6.out HB.out)
      obtain ⟨B2, d2, e2, hc2⟩ := row37 (Kd.R_below HG.out HB.out)
      injection e1 with e1 z1 z2
      injection e2 with e2 z3 z4
      clear z1 z2 z3 z4
      subst e1 e2
      obtain ⟨g, rfl, a0, a1, a2, a3, a4, a5, a6⟩ := hc1 j x hx
      obtain ⟨g', rfl, b0, b1, b2, b3, b4, b5, b6⟩ := hc2 j _ hgx
      obtain ⟨f0, f1, f2, f3, f4, f5, f6⟩ := x
      simp only at a0 a1 a2 a3 a4 a5 a6 b0 b1 b2 b3 b4 b5 b6
      have p0 := fun o : Obj => pw_cell_below (below_alloc (Below.refl wr.heap.size wr) o) b0
      have p1 := fun o : Obj => pw_cell_below (below_alloc (Below.refl wr.heap.size wr) o) b1
      have p2 := fun o : Obj => pw_cell_below (below_alloc (Below.refl wr.heap.size wr) o) b2
      have p3 := fun o : Obj => pw_cell_below (below_alloc (Below.refl wr.heap.size wr) o) b3
      have p4 := fun o : Obj => pw_cell_below (below_alloc (Below.refl wr.heap.size wr) o) b4
      have p5 := fun o : Obj => pw_cell_below (below_alloc (Below.refl wr.heap.size wr) o) b5
      have p6 := fun o : Obj => pw_cell_below (below_alloc (Below.refl wr.heap.size wr) o) b6
      clear hc1 hc2 hx hgx b0 b1 b2 b3 b4 b5 b6
      go_wp2_with fail
      go_roundg k1
      case measure => omega
      case rel => exact ⟨j + 1, by go_num, ⟨by have := HJ.out; omega⟩, ⟨HB.out.trans ((below_alloc (below_alloc (Below.refl _ _) _) _).mono HB.out.size)⟩⟩
set_option maxHeartbeats 4000000 in
set_option maxRecDepth 100000 in
theorem law_wrong_8 (w : World) (v1 : Value) (code : List Int) (h1 : Sl w w.heap.size v1 code) (hb1 : Bytes code) (ht : Tab w) (a : Int) (ha : 0 ≤ a ∧ a ≤ 255) (hk : a % 9 = 8) :
    Calls Tryd.prog 6 #[v1, .int .u8 a] w fun e w' => e = .returned (.bool true) ∧ Below w.heap.size w w' := by
  obtain ⟨A1, c1, rfl, -⟩ := h1.form
  obtain ⟨m1, hm1⟩ : ∃ m1, m1 = code.length := ⟨_, rfl⟩
  rw [← hm1] at h1 ⊢
  have hx1 : m1 ≤ 9223372036854775807 := by rw [hm1]; have := h1.cut.2.2.1.2.1; omega
  by_cases hs1 : 2147483647 < m1
  · clear h1 hb1 hm1 ht ha hk
    go_enter Tryd.func6, Tryd.ntmps6
    go_wp2_with fail
    go_returns
    exact ⟨rfl, Below.refl _ _⟩
  have hn1 : ¬ (2147483647 : Int) < (m1 : Int) := by omega
  have HN := Aside0.mk (jsNode_calls w w.heap.size _ code (Nat.le_refl _) h1 hb1)
  have HC := Aside0.mk hb1
  have HT := Aside0.mk ht
  have HOK := Aside0.mk (made_ok hb1)
  obtain ⟨ys, hys⟩ : ∃ ys, ys = sfx [] ((jsN code).toks 0 0) 0 := ⟨_, rfl⟩
  have HY := Aside0.mk hys
  have HYB := Aside0.mk (show Bytes ys ∧ ys.length ≤ 9000000 by rw [hys]; exact ⟨sfx_bytes HOK.out.1 [], sfx_le hb1 []⟩)
  obtain ⟨ts, hts⟩ : ∃ ts, ts = (jsN code).toks 0 0 := ⟨_, rfl⟩
  have HTS := Aside0.mk hts
  obtain ⟨L, hL⟩ : ∃ L, L = ts.length := ⟨_, rfl⟩
  have hL1 : L ≤ 2900000 := by rw [hL, hts]; exact HOK.out.2.2
  have HLX := Aside0.mk (show ((btoks [] ts 0).map toS).length = L by rw [List.length_map, btoks_length, hL])
  have HLY := Aside0.mk (show ((wrun [] (32 :: [35]) ts 0).map toS).length = L by rw [List.length_map, wrun_length, hL])
  obtain ⟨z1, hz1⟩ : ∃ z1, z1 = ys ++ 32 :: [35] := ⟨_, rfl⟩
  have HRUN := Aside0.mk (show TokRun ⟨[], false⟩ z1 (wrun [] (32 :: [35]) ts 0) ⟨[], false⟩ (32 :: [35]) by
    have := run_more HOK.out.1 (32 :: [35]) (numEnd_blank _)
    rw [← sfx_none _ 0, ← hys, ← hts, ← hz1] at this
    exact this)
  have HZL := Aside0.mk (show Bytes z1 ∧ z1.length ≤ 9000010 by
    refine ⟨by rw [hz1]; exact bytes_append HYB.out.1 (by intro x hx; simp at hx; omega), ?_⟩
    have := HYB.out.2; rw [hz1]; simp only [List.length_append, List.length_cons, List.length_nil]; omega)
  have q1 : ¬ (9223372036854775807 < (strOfNums ys).size + 1) := by rw [strOf_size]; have := HYB.out.2; omega
  have q2 : ¬ (9223372036854775807 < (strOfNums ys).size + 1 + 1) := by rw [strOf_size]; have := HYB.out.2; omega
  have e1 : strOfNums ys ++ (⟨#[32]⟩ : ByteArray) ++ ⟨#[35]⟩ = strOfNums z1 := by rw [hz1, show ys ++ 32 :: [35] = ys ++ [32] ++ [35] by simp, strOf_append, strOf_append]; rfl
  have HE1 := Aside0.mk e1
  have hrem : a.tmod 9 = 8 := by rw [Int.tmod_eq_emod_of_nonneg ha.1]; exact hk
  obtain ⟨ha0, ha1⟩ := ha
  clear h1 hb1 ht hm1 hs1 hys hz1 e1 hts hL hk
  go_enter Tryd.func6, Tryd.ntmps6
  go_upto_region 4 with (first
    | (go_at_call 17; (with_reducible refine HN.out.mono ?_); rintro e w2 ⟨v, rfl, hnd, hb2⟩; have HND := Aside0.mk hnd; have HB2 := Aside0.mk hb2; have HW := Aside0.mk (jsWritten_calls w2 (jsN code) v (.slice none 0 0) [] HOK.out.1 (by have := HOK.out; unfold Room; omega) (hnd.lower (Nat.zero_le _)) (Sl.nil _ _) (fun x hx => by cases hx)); clear hnd hb2)
    | (go_at_call 16; (with_reducible refine HW.out.mono ?_); rintro e w4 ⟨tv, rfl, hr, hb4⟩; rw [← HY.out]; have HR := Aside0.mk hr; have HB4 := Aside0.mk (HB2.out.trans (hb4.mono HB2.out.size)); clear hr hb4))
  rw [← HTS.out] at HR
  obtain ⟨A, c, rfl, -⟩ := row37 HR.out
  rw [HLX.out]
  go_upto_region 5 with (fail)
  have hal := below_alloc (Below.refl w4.heap.size w4) (.cells #[.string ⟨#[93]⟩, .string ⟨#[125]⟩, .string ⟨#[44]⟩, .string ⟨#[110, 117, 108]⟩, .string ⟨#[43, 49]⟩, .string ⟨#[116, 114, 117]⟩, .string ⟨#[39, 97, 39]⟩, .string ⟨#[102, 97, 108, 115]⟩, .string ⟨#[35]⟩] 9)
  obtain ⟨wa, hwa⟩ : ∃ wa, wa = w4.alloc (.cells #[.string ⟨#[93]⟩, .string ⟨#[125]⟩, .string ⟨#[44]⟩, .string ⟨#[110, 117, 108]⟩, .string ⟨#[43, 49]⟩, .string ⟨#[116, 114, 117]⟩, .string ⟨#[39, 97, 39]⟩, .string ⟨#[102, 97, 108, 115]⟩, .string ⟨#[35]⟩] 9) := ⟨_, rfl⟩
  rw [← hwa] at hal ⊢
  have HBA := Aside0.mk (HB4.out.trans (hal.mono HB4.out.size))
  have HRA := Aside0.mk (Kd.R_below HR.out hal)
  clear hwa hal
  obtain ⟨cz, w5, hcv, hsl5, hb5⟩ := text_bytes wa z1 HZL.out.1 (by have := HZL.out.2; omega)
  rw [← HE1.out] at hcv
  have HB5 := Aside0.mk (HBA.out.trans (hb5.mono HBA.out.size))
  have HR5 := Aside0.mk (Kd.R_below HRA.out hb5)
  have HD := Aside0.mk (doorBad w5 _ _ _ z1 (32 :: [35]) _ ⟨[], false⟩ hsl5 HZL.out.1 (by have := HZL.out.2; omega) HRUN.out (by rw [wrun_length]; have := HLX.out; rw [List.length_map, btoks_length] at this; omega) (HT.out.below HB5.out) (fun W' T p q hT hst => next_wrong W' _ T ⟨[], false⟩ [35] p q rfl (by decide) hT hst))
  clear hsl5 hb5
  go_upto_region 9 with (go_at_call 18; (with_reducible refine HD.out.mono ?_); rintro e w6 ⟨gv, rfl, hg, hb6⟩; have HG := Aside0.mk hg; have HB6 := Aside0.mk (HB5.out.trans (hb6.mono HB5.out.size)); have HR6 := Aside0.mk (Kd.R_below HR5.out hb6); obtain ⟨A', c', rfl, -⟩ := row37 hg; rw [HLY.out]; clear hg hb6)
  clear hcv
  go_loopg [46] L (fun gk v46 w' => ∃ j : Nat, v46 = .int .i64 (j : Int) ∧ Aside0 (j + gk = L) ∧ Aside0 (Below w6.heap.size w6 w'))
  case atStart => exact ⟨0, rfl, ⟨by omega⟩, ⟨Below.refl _ _⟩⟩
  case round =>
    obtain ⟨j, rfl, HJ, HB⟩ := hrel
    cases gk with
    | zero =>
      obtain rfl : j = L := by have := HJ.out; omega
      have dlt : decide ((j : Int) < (j : Int)) = false := by simp
      have HBR := Aside0.mk (HB6.out.trans (HB.out.mono HB6.out.size))
      go_wp2_with (go_at_call 19; (with_reducible refine (awake_calls _ (HT.out.below HBR.out)).mono ?_); rintro e wz ⟨rfl, hbz⟩; have HBZ := Aside0.mk (HBR.out.trans (hbz.mono (HBR.out).size)); clear hbz)
      go_returns
      exact ⟨rfl, HBZ.out⟩
    | succ k1 =>
      have hjm : j < L := by have := HJ.out; omega
      have dlt : decide ((j : Int) < (L : Int)) = true := by simpa using hjm
      obtain ⟨x, hx⟩ : ∃ x, ((btoks [] ts 0).map toS)[j]? = some x := ⟨_, List.getElem?_eq_getElem (by rw [HLX.out]; exact hjm)⟩
      obtain ⟨gb, hgx⟩ := wrun_row (32 :: [35]) ts 0 j x hx
      obtain ⟨B1, d1, e1, hc1⟩ := row37 (Kd.R_below HR6.out HB.out)
      obtain ⟨B2, d2, e2, hc2⟩ := row37 (Kd.R_below HG.out HB.out)
      injection e1 with e1 z1 z2
      injection e2 with e2 z3 z4
      clear z1 z2 z3 z4
      subst e1 e2
      obtain ⟨g, rfl, a0, a1, a2, a3, a4, a5, a6⟩ := hc1 j x hx
      obtain ⟨g', rfl, b0, b1, b2, b3, b4, b5, b6⟩ := hc2 j _ hgx
      obtain ⟨f0, f1, f2, f3, f4, f5, f6⟩ := x
      simp only at a0 a1 a2 a3 a4 a5 a6 b0 b1 b2 b3 b4 b5 b6
      have p0 := fun o : Obj => pw_cell_below (below_alloc (Below.refl wr.heap.size wr) o) b0
      have p1 := fun o : Obj => pw_cell_below (below_alloc (Below.refl wr.heap.size wr) o) b1
      have p2 := fun o : Obj => pw_cell_below (below_alloc (Below.refl wr.heap.size wr) o) b2
      have p3 := fun o : Obj => pw_cell_below (below_alloc (Below.refl wr.heap.size wr) o) b3
      have p4 := fun o : Obj => pw_cell_below (below_alloc (Below.refl wr.heap.size wr) o) b4
      have p5 := fun o : Obj => pw_cell_below (below_alloc (Below.refl wr.heap.size wr) o) b5
      have p6 := fun o : Obj => pw_cell_below (below_alloc (Below.refl wr.heap.size wr) o) b6
      clear hc1 hc2 hx hgx b0 b1 b2 b3 b4 b5 b6
      go_wp2_with fail
      go_roundg k1
      case measure => omega
      case rel => exact ⟨j + 1, by go_num, ⟨by have := HJ.out; omega⟩, ⟨HB.out.trans ((below_alloc (below_alloc (Below.refl _ _) _) _).mono HB.out.size)⟩⟩
theorem law_wrong (w : World) (v1 : Value) (code : List Int) (h1 : Sl w w.heap.size v1 code) (hb1 : Bytes code) (ht : Tab w) (a : Int) (ha : 0 ≤ a ∧ a ≤ 255) :
    Calls Tryd.prog 6 #[v1, .int .u8 a] w fun e w' => e = .returned (.bool true) ∧ Below w.heap.size w w' := by
  have hk : a % 9 = 0 ∨ a % 9 = 1 ∨ a % 9 = 2 ∨ a % 9 = 3 ∨ a % 9 = 4 ∨ a % 9 = 5 ∨ a % 9 = 6 ∨ a % 9 = 7 ∨ a % 9 = 8 := by omega
  rcases hk with h | h | h | h | h | h | h | h | h
  · exact law_wrong_0 w v1 code h1 hb1 ht a ha h
  · exact law_wrong_1 w v1 code h1 hb1 ht a ha h
  · exact law_wrong_2 w v1 code h1 hb1 ht a ha h
  · exact law_wrong_3 w v1 code h1 hb1 ht a ha h
  · exact law_wrong_4 w v1 code h1 hb1 ht a ha h
  · exact law_wrong_5 w v1 code h1 hb1 ht a ha h
  · exact law_wrong_6 w v1 code h1 hb1 ht a ha h
  · exact law_wrong_7 w v1 code h1 hb1 ht a ha h
  · exact law_wrong_8 w v1 code h1 hb1 ht a ha h
end Go.Proofs.YtekmminmgjoabaaDoor.Js
