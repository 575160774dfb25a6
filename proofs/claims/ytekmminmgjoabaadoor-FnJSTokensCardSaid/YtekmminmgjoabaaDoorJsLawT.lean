/- The law on tokens. -/
import Derived.Test.YtekmminmgjoabaaDoorJsLawB
namespace Go.Proofs.YtekmminmgjoabaaDoor.Js
open Go.RowKit Go.Proofs.YtekmminmgjoabaaDoorW.PrintWords Go.Proofs.YtekmminmgjoabaaDoorW.PrintLast Go.Proofs.YtekmminmgjoabaaDoorW.PrintMore Go.Proofs.YtekmminmgjoabaaDoor.PFnJSTokens
set_option linter.unusedVariables false
set_option linter.unusedSimpArgs false
set_option maxHeartbeats 4000000 in
set_option maxRecDepth 100000 in
theorem law_tokens (w : World) (v1 v2 : Value) (code bs : List Int) (h1 : Sl w w.heap.size v1 code) (h2 : Sl w w.heap.size v2 bs) (hc : Bytes code) (hb : Bytes bs) (ht : Tab w) :
    Calls Tryd.prog 8 #[v1, v2] w fun e w' => e = .returned (.bool true) ∧ Below w.heap.size w w' := by
  obtain ⟨A1, c1, rfl, -⟩ := h1.form
  obtain ⟨A2, c2, rfl, -⟩ := h2.form
  obtain ⟨m1, hm1⟩ : ∃ m1, m1 = code.length := ⟨_, rfl⟩
  obtain ⟨m2, hm2⟩ : ∃ m2, m2 = bs.length := ⟨_, rfl⟩
  rw [← hm1] at h1
  rw [← hm2] at h2
  rw [← hm1, ← hm2]
  have hx1 : m1 ≤ 9223372036854775807 := by rw [hm1]; have := h1.cut.2.2.1.2.1; omega
  have hx2 : m2 ≤ 9223372036854775807 := by rw [hm2]; have := h2.cut.2.2.1.2.1; omega
  by_cases hs1 : 2147483647 < m1
  · clear h1 h2 hc hb ht hm1 hm2
    go_enter Tryd.func8, Tryd.ntmps8
    go_wp2_with fail
    go_returns
    exact ⟨rfl, Below.refl _ _⟩
  by_cases hs2 : 2147483647 < m2
  · have hn1 : ¬ (2147483647 : Int) < (m1 : Int) := by omega
    clear h1 h2 hc hb ht hm1 hm2
    go_enter Tryd.func8, Tryd.ntmps8
    go_wp2_with fail
    go_returns
    exact ⟨rfl, Below.refl _ _⟩
  have hn1 : ¬ (2147483647 : Int) < (m1 : Int) := by omega
  have hn2 : ¬ (2147483647 : Int) < (m2 : Int) := by omega
  have HN := Aside0.mk (jsNode_calls w w.heap.size _ code (Nat.le_refl _) h1 hc)
  have H2 := Aside0.mk h2
  have HC := Aside0.mk hc
  have HBB := Aside0.mk (bytes_take hb 20)
  have HT := Aside0.mk ht
  have HOK := Aside0.mk (made_ok hc)
  obtain ⟨bl, hbl⟩ : ∃ bl, bl = bs.take 20 := ⟨_, rfl⟩
  rw [← hbl] at HBB
  have HBL := Aside0.mk hbl
  obtain ⟨zs, hzs⟩ : ∃ zs, zs = sfx bl ((jsN code).toks 0 0) 0 := ⟨_, rfl⟩
  have HZ := Aside0.mk hzs
  have HZB := Aside0.mk (show Bytes zs ∧ zs.length ≤ 9000000 by rw [hzs]; exact ⟨sfx_bytes HOK.out.1 bl, sfx_le hc bl⟩)
  clear h1 h2 hc hb ht hm1 hm2 hs1 hs2 hbl hzs
  go_enter Tryd.func8, Tryd.ntmps8
  go_upto_region 4 with (first
    | (go_at_call 17; (with_reducible refine HN.out.mono ?_); rintro e w2 ⟨v, rfl, hnd, hb2⟩; have HND := Aside0.mk hnd; have HB2 := Aside0.mk hb2; have HBK := Aside0.mk (jsBlanks_calls w2 w.heap.size _ bs (H2.out.below hb2)); rw [← HBL.out] at HBK; clear hnd hb2)
    | (go_at_call 20; (with_reducible refine HBK.out.mono ?_); rintro e w3 ⟨v', rfl, hsl, rfl⟩; have HSL := Aside0.mk hsl; have HW := Aside0.mk (jsWritten_calls w2 (jsN code) v v' bl HOK.out.1 (by have := HOK.out; unfold Room; omega) (HND.out.lower (Nat.zero_le _)) (hsl.grow HB2.out.size) HBB.out); clear hsl)
    | (go_at_call 16; (with_reducible refine HW.out.mono ?_); rintro e w4 ⟨tv, rfl, hr, hb4⟩; rw [← HZ.out]; have HR := Aside0.mk hr; have HB4 := Aside0.mk (HB2.out.trans (hb4.mono HB2.out.size)); have HB44 := Aside0.mk hb4; clear hr hb4))
  obtain ⟨cz, w5, hcv, hsl5, hb5⟩ := text_bytes w4 zs HZB.out.1 (by have := HZB.out.2; omega)
  have HR5 := Aside0.mk (Kd.R_below HR.out hb5)
  have HB5 := Aside0.mk (HB4.out.trans (hb5.mono HB4.out.size))
  have HD := Aside0.mk (doorTok w5 _ _ _ code bl zs HC.out HZ.out hsl5 (HT.out.below HB5.out))
  have HSZ := Aside0.mk (show ((btoks bl ((jsN code).toks 0 0) 0).map toS).length ≤ 2200000000 by rw [List.length_map, btoks_length]; have := HOK.out; omega)
  clear hsl5 hb5
  go_wp2_with (first
    | (go_at_call 18; (with_reducible refine HD.out.mono ?_); rintro e w6 ⟨gv, rfl, hg, hb6⟩; have HG := Aside0.mk hg; have HB6 := Aside0.mk (HB5.out.trans (hb6.mono HB5.out.size)); have HE := Aside0.mk (eqf_calls w6 _ _ _ _ _ hg (Kd.R_below HR5.out hb6) HSZ.out); clear hg hb6)
    | (go_at_call 22; (with_reducible refine HE.out.mono ?_); rintro e w7 ⟨rfl, hb7⟩; have HB7 := Aside0.mk (HB6.out.trans (hb7.mono HB6.out.size)); have HAW := Aside0.mk (awake_calls w7 (HT.out.below HB7.out)); clear hb7)
    | (go_at_call 19; (with_reducible refine HAW.out.mono ?_); rintro e w8 ⟨rfl, hb8⟩; have HB8 := Aside0.mk (HB7.out.trans (hb8.mono HB7.out.size)); clear hb8))
  go_returns
  exact ⟨rfl, HB8.out⟩
end Go.Proofs.YtekmminmgjoabaaDoor.Js
