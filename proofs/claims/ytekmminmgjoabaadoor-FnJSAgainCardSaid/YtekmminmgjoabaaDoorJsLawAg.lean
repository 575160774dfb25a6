/- Written by laws.py: the law on a tokenizer that is begun anew. -/
import Derived.Test.YtekmminmgjoabaaDoorJsAgain
import Derived.Test.YtekmminmgjoabaaDoorJsEq2
namespace Go.Proofs.YtekmminmgjoabaaDoor.Js
open Go.RowKit Go.Proofs.YtekmminmgjoabaaDoorW.PrintWords Go.Proofs.YtekmminmgjoabaaDoorW.PrintLast Go.Proofs.YtekmminmgjoabaaDoorW.PrintMore Go.Proofs.YtekmminmgjoabaaDoor.PFnJSTokens
set_option linter.unusedVariables false
set_option linter.unusedSimpArgs false
set_option maxHeartbeats 4000000 in
set_option maxRecDepth 100000 in
theorem law_again (w : World) (v1 v2 : Value) (code bs : List Int) (h1 : Sl w w.heap.size v1 code) (h2 : Sl w w.heap.size v2 bs) (hb1 : Bytes code) (hb2 : Bytes bs) (ht : Tab w) (a : Int) (ha : 0 ≤ a ∧ a ≤ 255) :
    Calls Tryd.prog 10 #[v1, v2, .int .u8 a] w fun e w' => e = .returned (.bool true) ∧ Below w.heap.size w w' := by
  obtain ⟨A1, c1, rfl, -⟩ := h1.form
  obtain ⟨A2, c2, rfl, -⟩ := h2.form
  obtain ⟨m1, hm1⟩ : ∃ m1, m1 = code.length := ⟨_, rfl⟩
  rw [← hm1] at h1 ⊢
  have hx1 : m1 ≤ 9223372036854775807 := by rw [hm1]; have := h1.cut.2.2.1.2.1; omega
  obtain ⟨m2, hm2⟩ : ∃ m2, m2 = bs.length := ⟨_, rfl⟩
  rw [← hm2] at h2 ⊢
  have hx2 : m2 ≤ 9223372036854775807 := by rw [hm2]; have := h2.cut.2.2.1.2.1; omega
  by_cases hs1 : 2147483647 < m1
  · clear h1 hb1 hm1 h2 hb2 hm2 ht ha
    go_enter Tryd.func10, Tryd.ntmps10
    go_wp2_with fail
    go_returns
    exact ⟨rfl, Below.refl _ _⟩
  by_cases hs2 : 2147483647 < m2
  · have hn1 : ¬ (2147483647 : Int) < (m1 : Int) := by omega
    clear h1 hb1 hm1 h2 hb2 hm2 ht ha
    go_enter Tryd.func10, Tryd.ntmps10
    go_wp2_with fail
    go_returns
    exact ⟨rfl, Below.refl _ _⟩
  have hn1 : ¬ (2147483647 : Int) < (m1 : Int) := by omega
  have hn2 : ¬ (2147483647 : Int) < (m2 : Int) := by omega
  have HN := Aside0.mk (jsNode_calls w w.heap.size _ code (Nat.le_refl _) h1 hb1)
  have HC := Aside0.mk hb1
  have HT := Aside0.mk ht
  have HOK := Aside0.mk (made_ok hb1)
  have HN2 := Aside0.mk (fun (W : World) (hW : Below w.heap.size w W) => jsNode_calls W w.heap.size _ bs hW.size (h2.below hW) hb2)
  have HC2 := Aside0.mk hb2
  have HOK2 := Aside0.mk (made_ok hb2)
  obtain ⟨ys, hys⟩ : ∃ ys, ys = sfx [] ((jsN code).toks 0 0) 0 := ⟨_, rfl⟩
  have HY := Aside0.mk hys
  have HYB := Aside0.mk (show Bytes ys ∧ ys.length ≤ 9000000 by rw [hys]; exact ⟨sfx_bytes HOK.out.1 [], sfx_le hb1 []⟩)
  obtain ⟨zs, hzs⟩ : ∃ zs, zs = sfx [] ((jsN bs).toks 0 0) 0 := ⟨_, rfl⟩
  have HZ := Aside0.mk hzs
  have HZB := Aside0.mk (show Bytes zs ∧ zs.length ≤ 9000000 by rw [hzs]; exact ⟨sfx_bytes HOK2.out.1 [], sfx_le hb2 []⟩)
  have HSZ := Aside0.mk (show ((btoks [] ((jsN bs).toks 0 0) 0).map toS).length ≤ 2200000000 by rw [List.length_map, btoks_length]; have := HOK2.out; omega)
  obtain ⟨k, hk⟩ : ∃ k, k = a.toNat % 11 := ⟨_, rfl⟩
  have hk10 : k ≤ 10 := by omega
  have hrem : a.tmod 11 = (k : Int) := by rw [hk, Int.tmod_eq_emod_of_nonneg ha.1]; omega
  clear h1 h2 hb1 hb2 ht hm1 hm2 hs1 hs2 hys hzs hk
  obtain ⟨ha0, ha1⟩ := ha
  go_enter Tryd.func10, Tryd.ntmps10
  go_upto_region 4 with (first
    | (go_at_call 17; (with_reducible refine HN.out.mono ?_); rintro e w2 ⟨v, rfl, hnd, hb2⟩; have HND := Aside0.mk hnd; have HB2 := Aside0.mk hb2; have HW := Aside0.mk (jsWritten_calls w2 (jsN code) v (.slice none 0 0) [] HOK.out.1 (by have := HOK.out; unfold Room; omega) (hnd.lower (Nat.zero_le _)) (Sl.nil _ _) (fun x hx => by cases hx)); clear hnd hb2)
    | (go_at_call 16; (with_reducible refine HW.out.mono ?_); rintro e w4 ⟨tv, rfl, -, hb4⟩; rw [← HY.out]; have HB4 := Aside0.mk (HB2.out.trans (hb4.mono HB2.out.size)); clear hb4))
  go_upto_region 5 with (first
    | (go_at_call 17; (with_reducible refine (HN2.out _ HB4.out).mono ?_); rintro e w5 ⟨v5, rfl, hnd, hb5⟩; have HND5 := Aside0.mk hnd; have HB5 := Aside0.mk (HB4.out.trans (hb5.mono HB4.out.size)); have HW5 := Aside0.mk (jsWritten_calls w5 (jsN bs) v5 (.slice none 0 0) [] HOK2.out.1 (by have := HOK2.out; unfold Room; omega) (hnd.lower (Nat.zero_le _)) (Sl.nil _ _) (fun x hx => by cases hx)); clear hnd hb5)
    | (go_at_call 16; (with_reducible refine HW5.out.mono ?_); rintro e w6 ⟨tv6, rfl, -, hb6⟩; rw [← HZ.out]; have HB6 := Aside0.mk (HB5.out.trans (hb6.mono HB5.out.size)); clear hb6))
  obtain ⟨cz, w7, hcv, hsl7, hb7⟩ := text_bytes w6 ys HYB.out.1 (by have := HYB.out.2; omega)
  obtain ⟨cz2, w8, hcv2, hsl8, hb8⟩ := text_bytes w7 zs HZB.out.1 (by have := HZB.out.2; omega)
  have HB7 := Aside0.mk (HB6.out.trans (hb7.mono HB6.out.size))
  have HB8 := Aside0.mk (HB7.out.trans (hb8.mono HB7.out.size))
  have hrun1 := run_node HOK.out.1 []
  have hrun2 := run_node HOK2.out.1 []
  rw [← HY.out] at hrun1
  rw [← HZ.out] at hrun2
  have HAG := Aside0.mk (again_calls w8 _ _ _ _ _ _ ys zs _ _ ⟨[], false⟩ ⟨[], false⟩ _ _ k hk10 ((hsl7.below hb8).grow hb8.size) hsl8 HYB.out.1 HZB.out.1 (by have := HYB.out.2; omega) (by have := HZB.out.2; omega) hrun1 (fun c hc => blank_sp (blk_blank [] _ c hc)) hrun2 (fun c hc => blank_sp (blk_blank [] _ c hc)) (by rw [btoks_length]; have := HOK2.out; omega) (HT.out.below HB8.out))
  clear hsl7 hb7 hsl8 hb8 hrun1 hrun2
  go_upto_region 6 with (go_at_call 26; (with_reducible refine HAG.out.mono ?_); rintro e w9 ⟨gv, rfl, hg, hb9⟩; have HG := Aside0.mk hg; have HB9 := Aside0.mk (HB8.out.trans (hb9.mono HB8.out.size)); clear hg hb9)
  clear hcv hcv2
  obtain ⟨cz3, w10, hcv, hsl10, hb10⟩ := text_bytes w9 zs HZB.out.1 (by have := HZB.out.2; omega)
  have HG10 := Aside0.mk (Kd.R_below HG.out hb10)
  have HB10 := Aside0.mk (HB9.out.trans (hb10.mono HB9.out.size))
  have HD2 := Aside0.mk (doorTok w10 _ _ _ bs [] zs HC2.out HZ.out hsl10 (HT.out.below HB10.out))
  clear hsl10 hb10
  go_upto_region 7 with (go_at_call 18; (with_reducible refine HD2.out.mono ?_); rintro e w11 ⟨gv2, rfl, hg, hb11⟩; have HB11 := Aside0.mk (HB10.out.trans (hb11.mono HB10.out.size)); have HE := Aside0.mk (eqs_calls w11 _ _ _ _ _ (Kd.R_below HG10.out hb11) hg HSZ.out); clear hg hb11)
  clear hcv
  go_wp2_with (first
    | (go_at_call 27; (with_reducible refine HE.out.mono ?_); rintro e w12 ⟨rfl, hb12⟩; have HB12 := Aside0.mk (HB11.out.trans (hb12.mono HB11.out.size)); clear hb12)
    | (go_at_call 19; (with_reducible refine (awake_calls _ (HT.out.below HB12.out)).mono ?_); rintro e wz ⟨rfl, hbz⟩; have HBZ := Aside0.mk (HB12.out.trans (hbz.mono (HB12.out).size)); clear hbz))
  go_returns
  exact ⟨rfl, HBZ.out⟩
end Go.Proofs.YtekmminmgjoabaaDoor.Js
