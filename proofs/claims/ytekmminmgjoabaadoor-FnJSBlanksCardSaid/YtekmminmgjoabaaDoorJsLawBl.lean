/- Written by laws.py: the law on blanks. -/
import Derived.Test.YtekmminmgjoabaaDoorJsLawB
import Derived.Test.YtekmminmgjoabaaDoorJsEq2
namespace Go.Proofs.YtekmminmgjoabaaDoor.Js
open Go.RowKit Go.Proofs.YtekmminmgjoabaaDoorW.PrintWords Go.Proofs.YtekmminmgjoabaaDoorW.PrintLast Go.Proofs.YtekmminmgjoabaaDoorW.PrintMore Go.Proofs.YtekmminmgjoabaaDoor.PFnJSTokens
set_option linter.unusedVariables false
set_option linter.unusedSimpArgs false
theorem btoks_same (bl bl' : List Int) : ∀ (ts : List Tk) (k j : Nat) (x : S37), ((btoks bl ts k).map toS)[j]? = some x → ∃ b : Int, ((btoks bl' ts k).map toS)[j]? = some (⟨x.f0, x.f1, x.f2, x.f3, x.f4, b, x.f6⟩ : S37) := by
  intro ts
  induction ts with
  | nil => intro k j x h; simp [btoks] at h
  | cons t ts ih =>
    intro k j x h
    cases j with
    | zero =>
      simp only [btoks, List.map_cons, List.getElem?_cons_zero, Option.some.injEq] at h ⊢
      subst h
      exact ⟨_, rfl⟩
    | succ j =>
      simp only [btoks, List.map_cons, List.getElem?_cons_succ] at h ⊢
      exact ih _ _ _ h
set_option maxHeartbeats 4000000 in
set_option maxRecDepth 100000 in
theorem law_blanks (w : World) (v1 v2 : Value) (code bs : List Int) (h1 : Sl w w.heap.size v1 code) (h2 : Sl w w.heap.size v2 bs) (hb1 : Bytes code) (hb2 : Bytes bs) (ht : Tab w) :
    Calls Tryd.prog 7 #[v1, v2] w fun e w' => e = .returned (.bool true) ∧ Below w.heap.size w w' := by
  obtain ⟨A1, c1, rfl, -⟩ := h1.form
  obtain ⟨A2, c2, rfl, -⟩ := h2.form
  obtain ⟨m1, hm1⟩ : ∃ m1, m1 = code.length := ⟨_, rfl⟩
  rw [← hm1] at h1 ⊢
  have hx1 : m1 ≤ 9223372036854775807 := by rw [hm1]; have := h1.cut.2.2.1.2.1; omega
  obtain ⟨m2, hm2⟩ : ∃ m2, m2 = bs.length := ⟨_, rfl⟩
  rw [← hm2] at h2 ⊢
  have hx2 : m2 ≤ 9223372036854775807 := by rw [hm2]; have := h2.cut.2.2.1.2.1; omega
  by_cases hs1 : 2147483647 < m1
  · clear h1 hb1 hm1 h2 hb2 hm2 ht 
    go_enter Tryd.func7, Tryd.ntmps7
    go_wp2_with fail
    go_returns
    exact ⟨rfl, Below.refl _ _⟩
  by_cases hs2 : 2147483647 < m2
  · have hn1 : ¬ (2147483647 : Int) < (m1 : Int) := by omega
    clear h1 hb1 hm1 h2 hb2 hm2 ht 
    go_enter Tryd.func7, Tryd.ntmps7
    go_wp2_with fail
    go_returns
    exact ⟨rfl, Below.refl _ _⟩
  have hn1 : ¬ (2147483647 : Int) < (m1 : Int) := by omega
  have hn2 : ¬ (2147483647 : Int) < (m2 : Int) := by omega
  have HN := Aside0.mk (jsNode_calls w w.heap.size _ code (Nat.le_refl _) h1 hb1)
  have HC := Aside0.mk hb1
  have HT := Aside0.mk ht
  have HOK := Aside0.mk (made_ok hb1)
  have H2 := Aside0.mk h2
  have HBB := Aside0.mk (bytes_take hb2 20)
  obtain ⟨bl, hbl⟩ : ∃ bl, bl = bs.take 20 := ⟨_, rfl⟩
  rw [← hbl] at HBB
  have HBL := Aside0.mk hbl
  have HBK := Aside0.mk (fun (W : World) (hW : Below w.heap.size w W) => (show Calls Tryd.prog 20 #[.slice A2 m2 c2] W fun e w' => ∃ v', e = .returned v' ∧ Sl W w.heap.size v' bl ∧ W = w' by rw [hbl]; exact jsBlanks_calls W w.heap.size _ bs (h2.below hW)))
  obtain ⟨zs, hzs⟩ : ∃ zs, zs = sfx bl ((jsN code).toks 0 0) 0 := ⟨_, rfl⟩
  have HZ := Aside0.mk hzs
  have HZB := Aside0.mk (show Bytes zs ∧ zs.length ≤ 9000000 by rw [hzs]; exact ⟨sfx_bytes HOK.out.1 bl, sfx_le hb1 bl⟩)
  obtain ⟨ys, hys⟩ : ∃ ys, ys = sfx [] ((jsN code).toks 0 0) 0 := ⟨_, rfl⟩
  have HY := Aside0.mk hys
  have HYB := Aside0.mk (show Bytes ys ∧ ys.length ≤ 9000000 by rw [hys]; exact ⟨sfx_bytes HOK.out.1 [], sfx_le hb1 []⟩)
  have HSZ := Aside0.mk (fun bl' : List Int => show ((btoks bl' ((jsN code).toks 0 0) 0).map toS).length ≤ 2200000000 by rw [List.length_map, btoks_length]; have := HOK.out; omega)
  clear h1 h2 hb1 hb2 ht hm1 hm2 hs1 hs2 hbl hzs hys
  go_enter Tryd.func7, Tryd.ntmps7
  go_upto_region 5 with (first
    | (go_at_call 17; (with_reducible refine HN.out.mono ?_); rintro e w2 ⟨v, rfl, hnd, hb2⟩; obtain ⟨v2, v3, rfl, hm2⟩ := hnd; have HONE := Aside0.mk (kJ.K_one (kJ.K_of_M hm2)); have HND := Aside0.mk (show Nd w2 w.heap.size (.agg #[.int .i64 (jsN code).kind, .string (strOfNums (jsN code).text), v2, v3]) (jsN code) from ⟨v2, v3, rfl, hm2⟩); have HB2 := Aside0.mk hb2; have HR2 := Aside0.mk (blk_new w2 (.cells #[.int .i64 0, .string ⟨#[]⟩, .slice none 0 0, .slice none 0 0] 29)); clear hb2 hm2)
    | ((with_reducible refine gate_st (p := .tmp 5) rfl ?_); refine store_agg _ _ _ rfl rfl rfl [.int .i64 (jsN code).kind, .string (strOfNums (jsN code).text), v2, v3] HR2.out rfl (by simp) rfl (by kernel_rfl) HONE.out ?_; intro W4 hb4 hk4 hg4; have r0 : W4.cell? ⟨w2.heap.size, 0, none⟩ = some (.int .i64 (jsN code).kind) := (blk_cell hb4 0).trans rfl; have r1 : W4.cell? ⟨w2.heap.size, 1, none⟩ = some (.string (strOfNums (jsN code).text)) := (blk_cell hb4 1).trans rfl; have r2 : W4.cell? ⟨w2.heap.size, 2, none⟩ = some v2 := (blk_cell hb4 2).trans rfl; have r3 : W4.cell? ⟨w2.heap.size, 3, none⟩ = some v3 := (blk_cell hb4 3).trans rfl; have HR4 := Aside0.mk hb4; have HB24 := Aside0.mk ((below_alloc (Below.refl w2.heap.size w2) (.cells #[.int .i64 0, .string ⟨#[]⟩, .slice none 0 0, .slice none 0 0] 29)).trans hg4); have HB4 := Aside0.mk (HB2.out.trans (HB24.out.mono HB2.out.size)); have HND4 := Aside0.mk (HND.out.below HB24.out); have HW1 := Aside0.mk (jsWritten_calls W4 (jsN code) _ (.slice none 0 0) [] HOK.out.1 (by have := HOK.out; unfold Room; omega) (HND4.out.lower (Nat.zero_le _)) (Sl.nil _ _) (fun x hx => by cases hx)); clear hb4 hk4 hg4)
    | (go_at_call 16; (with_reducible refine HW1.out.mono ?_); rintro e w5 ⟨tv, rfl, -, hb5⟩; rw [← HY.out]; have HR5 := Aside0.mk (blk_below HR4.out hb5); have HB45 := Aside0.mk hb5; have HB5 := Aside0.mk (HB4.out.trans (hb5.mono HB4.out.size)); have HND5 := Aside0.mk (HND4.out.below hb5); clear hb5))
  have r0 : w5.cell? ⟨w2.heap.size, 0, none⟩ = some (.int .i64 (jsN code).kind) := (blk_cell HR5.out 0).trans rfl
  have r1 : w5.cell? ⟨w2.heap.size, 1, none⟩ = some (.string (strOfNums (jsN code).text)) := (blk_cell HR5.out 1).trans rfl
  have r2 : w5.cell? ⟨w2.heap.size, 2, none⟩ = some v2 := (blk_cell HR5.out 2).trans rfl
  have r3 : w5.cell? ⟨w2.heap.size, 3, none⟩ = some v3 := (blk_cell HR5.out 3).trans rfl
  have HWR := Aside0.mk (fun (W : World) (v' : Value) (hW : Below w5.heap.size w5 W) (hv : Sl W w.heap.size v' bl) => jsWritten_calls W (jsN code) (.agg #[.int .i64 (jsN code).kind, .string (strOfNums (jsN code).text), v2, v3]) v' bl HOK.out.1 (by have := HOK.out; unfold Room; omega) ((HND5.out.below hW).lower (Nat.zero_le _)) (hv.grow (Nat.le_trans HB5.out.size hW.size)) HBB.out)
  go_region_with (first
    | (go_at_call 20; (with_reducible refine (HBK.out _ ?_).mono ?_); (first | exact HB5.out | exact below_drew HB5.out); rintro e w6 ⟨v', rfl, hsl, rfl⟩; have HSL := Aside0.mk hsl; clear hsl)
    | (go_at_call 16; (with_reducible refine (HWR.out _ _ ?_ HSL.out).mono ?_); (first | exact Below.refl _ _ | exact below_drew (Below.refl _ _)); rintro e w7 ⟨tv2, rfl, -, hb7⟩; rw [← HZ.out]; have HB57 := Aside0.mk (show Below w5.heap.size w5 w7 from (below_drew (Below.refl _ _)).trans hb7); clear hb7))
  all_goals
    have HB7 := Aside0.mk (HB5.out.trans (HB57.out.mono HB5.out.size))
    clear r0 r1 r2 r3
    obtain ⟨cz, w8, hcv, hsl8, hb8⟩ := text_bytes w7 ys HYB.out.1 (by have := HYB.out.2; omega)
    have HB8 := Aside0.mk (HB7.out.trans (hb8.mono HB7.out.size))
    have HD := Aside0.mk (doorTok w8 _ _ _ code [] ys HC.out HY.out hsl8 (HT.out.below HB8.out))
    clear hsl8 hb8
    go_upto_region 7 with (go_at_call 18; (with_reducible refine HD.out.mono ?_); rintro e w9 ⟨gv, rfl, hg, hb9⟩; have HG := Aside0.mk hg; have HB9 := Aside0.mk (HB8.out.trans (hb9.mono HB8.out.size)); clear hg hb9)
    clear hcv
    obtain ⟨cz2, w10, hcv, hsl10, hb10⟩ := text_bytes w9 zs HZB.out.1 (by have := HZB.out.2; omega)
    have HG10 := Aside0.mk (Kd.R_below HG.out hb10)
    have HB10 := Aside0.mk (HB9.out.trans (hb10.mono HB9.out.size))
    have HD2 := Aside0.mk (doorTok w10 _ _ _ code bl zs HC.out HZ.out hsl10 (HT.out.below HB10.out))
    clear hsl10 hb10
    go_upto_region 8 with (go_at_call 18; (with_reducible refine HD2.out.mono ?_); rintro e w11 ⟨gv2, rfl, hg, hb11⟩; have HB11 := Aside0.mk (HB10.out.trans (hb11.mono HB10.out.size)); have HE := Aside0.mk (eqz_calls w11 _ _ _ _ _ _ (Kd.R_below HG10.out hb11) hg (by simp [btoks_length]) (btoks_same [] bl _ 0) (HSZ.out [])); clear hg hb11)
    clear hcv
    go_wp2_with (first
      | (go_at_call 22; (with_reducible refine HE.out.mono ?_); rintro e w12 ⟨rfl, hb12⟩; have HB12 := Aside0.mk (HB11.out.trans (hb12.mono HB11.out.size)); clear hb12)
      | (go_at_call 19; (with_reducible refine (awake_calls _ (HT.out.below HB12.out)).mono ?_); rintro e wz ⟨rfl, hbz⟩; have HBZ := Aside0.mk (HB12.out.trans (hbz.mono (HB12.out).size)); clear hbz))
    go_returns
    exact ⟨rfl, HBZ.out⟩
end Go.Proofs.YtekmminmgjoabaaDoor.Js
