/- Written by laws.py: the law on tokens one behind the other. -/
import Derived.Test.YtekmminmgjoabaaDoorJsLawB
import Derived.Test.YtekmminmgjoabaaDoorJsCut
import Derived.Test.YtekmminmgjoabaaDoorRw
namespace Go.Proofs.YtekmminmgjoabaaDoor.Js
open Go.RowKit Go.Proofs.YtekmminmgjoabaaDoorW.PrintWords Go.Proofs.YtekmminmgjoabaaDoorW.PrintLast Go.Proofs.YtekmminmgjoabaaDoorW.PrintMore Go.Proofs.YtekmminmgjoabaaDoor.PFnJSTokens
set_option linter.unusedVariables false
set_option linter.unusedSimpArgs false
theorem btoks_row (bl bl' : List Int) : ∀ (ts : List Tk) (k j : Nat) (x : S37), ((btoks bl ts k).map toS)[j]? = some x → ∃ b : Int, ((btoks bl' ts k).map toS)[j]? = some (⟨x.f0, x.f1, x.f2, x.f3, x.f4, b, x.f6⟩ : S37) := by
  intro ts
  induction ts with
  | nil => intro k j x h; simp [btoks] at h
  | cons t ts ih =>
    intro k j x h
    cases j with
    | zero =>
      simp only [btoks, List.map_cons, List.getElem?_cons_zero, Option.some.injEq] at h ⊢
      subst h
      exact ⟨_, rfl⟩
    | succ j =>
      simp only [btoks, List.map_cons, List.getElem?_cons_succ] at h ⊢
      exact ih _ _ _ h
/-- The text of the first j tokens, and what is left. -/
theorem small_pure (bl : List Int) (ts : List Tk) (j : Nat) (hj : j < ts.length) : ∃ (x : S37) (v : List Int), ((btoks bl ts 0).map toS)[j]? = some x ∧ x.f1 = strOfNums v ∧ wtext [] (ts.take (j + 1)) 0 = wtext [] (ts.take j) 0 ++ v ∧
    ((btoks [] ts 0).map toS)[j]? = some (⟨x.f0, x.f1, x.f2, x.f3, x.f4, (((wtext [] (ts.drop (j + 1)) 0).length : Nat) : Int), x.f6⟩ : S37) ∧ (wtext [] (ts.drop j) 0).length = v.length + (wtext [] (ts.drop (j + 1)) 0).length ∧ (wtext [] (ts.take (j + 1)) 0).length ≤ (wtext [] ts 0).length := by
  obtain ⟨a, t, b, e, hl⟩ := split_at ts j hj
  have h1 := btoks_at bl a t b 0
  have h2 := btoks_at [] a t b 0
  rw [← e, hl, Nat.zero_add] at h1 h2
  have e3 : ts.take j = a := by rw [e]; exact List.take_left' hl
  have e4 : ts.take (j + 1) = a ++ [t] := by rw [e, show a ++ t :: b = (a ++ [t]) ++ b by simp]; exact List.take_left' (by simp [hl])
  have e5 : ts.drop (j + 1) = b := by rw [e, show a ++ t :: b = (a ++ [t]) ++ b by simp]; exact List.drop_left' (by simp [hl])
  have e6 : ts.drop j = t :: b := by rw [e]; exact List.drop_left' hl
  refine ⟨toS (t, ((sfx bl b (j + 1)).length : Int)), t.val, by rw [List.getElem?_map, h1]; rfl, rfl, ?_, ?_, ?_, ?_⟩
  · rw [e3, e4, wtext_append]; simp [wtext, blk_none]
  · rw [e5, List.getElem?_map, h2, sfx_none, wtext_none b (j + 1) 0]; rfl
  · rw [e5, e6, wtext, blk_none, wtext_none b (0 + 1) 0]; simp
  · rw [e4, e, show a ++ t :: b = (a ++ [t]) ++ b by simp, wtext_append [] (a ++ [t]) b, List.length_append]; omega
set_option maxHeartbeats 4000000 in
set_option maxRecDepth 100000 in
theorem law_small (w : World) (v1 v2 : Value) (code bs : List Int) (h1 : Sl w w.heap.size v1 code) (h2 : Sl w w.heap.size v2 bs) (hb1 : Bytes code) (hb2 : Bytes bs) (ht : Tab w) :
    Calls Tryd.prog 4 #[v1, v2] w fun e w' => e = .returned (.bool true) ∧ Below w.heap.size w w' := by
  obtain ⟨A1, c1, rfl, -⟩ := h1.form
  obtain ⟨A2, c2, rfl, -⟩ := h2.form
  obtain ⟨m1, hm1⟩ : ∃ m1, m1 = code.length := ⟨_, rfl⟩
  rw [← hm1] at h1 ⊢
  have hx1 : m1 ≤ 9223372036854775807 := by rw [hm1]; have := h1.cut.2.2.1.2.1; omega
  obtain ⟨m2, hm2⟩ : ∃ m2, m2 = bs.length := ⟨_, rfl⟩
  rw [← hm2] at h2 ⊢
  have hx2 : m2 ≤ 9223372036854775807 := by rw [hm2]; have := h2.cut.2.2.1.2.1; omega
  by_cases hs1 : 2147483647 < m1
  · clear h1 hb1 hm1 h2 hb2 hm2 ht 
    go_enter Tryd.func4, Tryd.ntmps4
    go_wp2_with fail
    go_returns
    exact ⟨rfl, Below.refl _ _⟩
  by_cases hs2 : 2147483647 < m2
  · have hn1 : ¬ (2147483647 : Int) < (m1 : Int) := by omega
    clear h1 hb1 hm1 h2 hb2 hm2 ht 
    go_enter Tryd.func4, Tryd.ntmps4
    go_wp2_with fail
    go_returns
    exact ⟨rfl, Below.refl _ _⟩
  have hn1 : ¬ (2147483647 : Int) < (m1 : Int) := by omega
  have hn2 : ¬ (2147483647 : Int) < (m2 : Int) := by omega
  have HN := Aside0.mk (jsNode_calls w w.heap.size _ code (Nat.le_refl _) h1 hb1)
  have HC := Aside0.mk hb1
  have HT := Aside0.mk ht
  have HOK := Aside0.mk (made_ok hb1)
  have H2 := Aside0.mk h2
  have HBB := Aside0.mk (bytes_take hb2 20)
  obtain ⟨bl, hbl⟩ : ∃ bl, bl = bs.take 20 := ⟨_, rfl⟩
  rw [← hbl] at HBB
  have HBL := Aside0.mk hbl
  have HBK := Aside0.mk (fun (W : World) (hW : Below w.heap.size w W) => (show Calls Tryd.prog 20 #[.slice A2 m2 c2] W fun e w' => ∃ v', e = .returned v' ∧ Sl W w.heap.size v' bl ∧ W = w' by rw [hbl]; exact jsBlanks_calls W w.heap.size _ bs (h2.below hW)))
  obtain ⟨zs, hzs⟩ : ∃ zs, zs = sfx bl ((jsN code).toks 0 0) 0 := ⟨_, rfl⟩
  have HZ := Aside0.mk hzs
  have HZB := Aside0.mk (show Bytes zs ∧ zs.length ≤ 9000000 by rw [hzs]; exact ⟨sfx_bytes HOK.out.1 bl, sfx_le hb1 bl⟩)
  obtain ⟨ys, hys⟩ : ∃ ys, ys = sfx [] ((jsN code).toks 0 0) 0 := ⟨_, rfl⟩
  have HY := Aside0.mk hys
  have HYB := Aside0.mk (show Bytes ys ∧ ys.length ≤ 9000000 by rw [hys]; exact ⟨sfx_bytes HOK.out.1 [], sfx_le hb1 []⟩)
  have HSZ := Aside0.mk (fun bl' : List Int => show ((btoks bl' ((jsN code).toks 0 0) 0).map toS).length ≤ 2200000000 by rw [List.length_map, btoks_length]; have := HOK.out; omega)
  obtain ⟨ts, hts⟩ : ∃ ts, ts = (jsN code).toks 0 0 := ⟨_, rfl⟩
  have HTS := Aside0.mk hts
  have HYW := Aside0.mk (show ys = wtext [] ts 0 by rw [hys, hts, sfx_none])
  obtain ⟨L, hL⟩ : ∃ L, L = ts.length := ⟨_, rfl⟩
  have HLS := Aside0.mk hL
  have hL1 : L ≤ 2900000 := by rw [hL, hts]; exact HOK.out.2.2
  have HLX := Aside0.mk (fun bl' : List Int => show ((btoks bl' ts 0).map toS).length = L by rw [List.length_map, btoks_length, hL])
  clear h1 h2 hb1 hb2 ht hm1 hm2 hs1 hs2 hbl hzs hys hts hL
  go_enter Tryd.func4, Tryd.ntmps4
  go_upto_region 4 with (first
    | (go_at_call 17; (with_reducible refine HN.out.mono ?_); rintro e w2 ⟨v, rfl, hnd, hb2⟩; have HND := Aside0.mk hnd; have HB2 := Aside0.mk hb2; clear hnd hb2)
    | (go_at_call 20; (with_reducible refine (HBK.out _ HB2.out).mono ?_); rintro e w3 ⟨v', rfl, hsl, rfl⟩; have HW := Aside0.mk (jsWritten_calls w2 (jsN code) v v' bl HOK.out.1 (by have := HOK.out; unfold Room; omega) (HND.out.lower (Nat.zero_le _)) (hsl.grow HB2.out.size) HBB.out); clear hsl)
    | (go_at_call 16; (with_reducible refine HW.out.mono ?_); rintro e w4 ⟨tv, rfl, hr, hb4⟩; rw [← HZ.out]; have HR := Aside0.mk hr; have HB4 := Aside0.mk (HB2.out.trans (hb4.mono HB2.out.size)); clear hr hb4))
  obtain ⟨cz, w5, hcv, hsl5, hb5⟩ := text_bytes w4 zs HZB.out.1 (by have := HZB.out.2; omega)
  have HB5 := Aside0.mk (HB4.out.trans (hb5.mono HB4.out.size))
  have HD := Aside0.mk (doorTok w5 _ _ _ code bl zs HC.out HZ.out hsl5 (HT.out.below HB5.out))
  clear hsl5 hb5
  go_upto_region 7 with (go_at_call 18; (with_reducible refine HD.out.mono ?_); rintro e w6 ⟨gv, rfl, hg, hb6⟩; rw [← HTS.out] at hg; have HG := Aside0.mk hg; have HB6 := Aside0.mk (HB5.out.trans (hb6.mono HB5.out.size)); obtain ⟨A', c', rfl, hrow'⟩ := row37 hg; rw [HLX.out]; clear hg hb6 hrow')
  clear hcv
  go_loopg [40, 9] L (fun gk v40 v9 w' => ∃ j : Nat, v40 = .int .i64 (j : Int) ∧ v9 = .string (strOfNums (wtext [] (ts.take j) 0)) ∧ Aside0 (j + gk = L) ∧ Aside0 (Below w6.heap.size w6 w'))
  case atStart => exact ⟨0, rfl, rfl, ⟨by omega⟩, ⟨Below.refl _ _⟩⟩
  case round =>
    obtain ⟨j, rfl, rfl, HJ, HB⟩ := hrel
    cases gk with
    | zero =>
      obtain rfl : j = L := by have := HJ.out; omega
      have dlt : decide ((j : Int) < (j : Int)) = false := by simp
      have HBR := Aside0.mk (HB6.out.trans (HB.out.mono HB6.out.size))
      have hfull : wtext [] (ts.take j) 0 = ys := by rw [List.take_of_length_le (by rw [← HLS.out]; exact Nat.le_refl _)]; exact HYW.out.symm
      rw [hfull]
      obtain ⟨cz2, w7, hcv, hsl7, hb7⟩ := text_bytes wr ys HYB.out.1 (by have := HYB.out.2; omega)
      have HB7 := Aside0.mk (HBR.out.trans (hb7.mono HBR.out.size))
      have HG7 := Aside0.mk (Kd.R_below (Kd.R_below HG.out HB.out) hb7)
      have HD2 := Aside0.mk (doorTok w7 _ _ _ code [] ys HC.out HY.out hsl7 (HT.out.below HB7.out))
      clear hsl7 hb7 hfull
      go_upto_region 14 with (go_at_call 18; (with_reducible refine HD2.out.mono ?_); rintro e w8 ⟨gv2, rfl, hg2, hb8⟩; rw [← HTS.out] at hg2; have HG2 := Aside0.mk hg2; have HG8 := Aside0.mk (Kd.R_below HG7.out hb8); have HB8 := Aside0.mk (HB7.out.trans (hb8.mono HB7.out.size)); obtain ⟨A2', c2', rfl, hrow2⟩ := row37 hg2; rw [HLX.out]; clear hg2 hb8 hrow2)
      clear hcv
      go_loopg [59, 14] j (fun gk v59 v14 w' => ∃ i : Nat, v59 = .int .i64 (i : Int) ∧ v14 = .int .i64 (((wtext [] (ts.drop i) 0).length : Nat) : Int) ∧ Aside0 (i + gk = j) ∧ Aside0 (Below w8.heap.size w8 w'))
      case atStart => exact ⟨0, rfl, by rw [strOf_size, HYW.out, List.drop_zero], ⟨by omega⟩, ⟨Below.refl _ _⟩⟩
      case round =>
        obtain ⟨i, rfl, rfl, HJ2, HBi⟩ := hrel
        cases gk with
        | zero =>
          obtain rfl : i = j := by have := HJ2.out; omega
          have HBR2 := Aside0.mk (HB8.out.trans (HBi.out.mono HB8.out.size))
          go_wp2_with (go_at_call 19; (with_reducible refine (awake_calls _ (HT.out.below HBR2.out)).mono ?_); rintro e wz ⟨rfl, hbz⟩; have HBZ := Aside0.mk (HBR2.out.trans (hbz.mono (HBR2.out).size)); clear hbz)
          go_returns
          exact ⟨rfl, HBZ.out⟩
        | succ k1 =>
          have hij : i < j := by have := HJ2.out; omega
          have dlt2 : decide ((i : Int) < (j : Int)) = true := by simpa using hij
          obtain ⟨x, v, hx, hv, -, hy, hdr, -⟩ := small_pure bl ts i (by rw [← HLS.out]; exact hij)
          obtain ⟨B1, d1, e1, hc1⟩ := row37 (Kd.R_below HG8.out HBi.out)
          obtain ⟨B2, d2, e2, hc2⟩ := row37 (Kd.R_below HG2.out HBi.out)
          injection e1 with e1 z1 z2
          injection e2 with e2 z3 z4
          clear z1 z2 z3 z4
          subst e1 e2
          obtain ⟨g, rfl, a0, a1, a2, a3, a4, a5, a6⟩ := hc1 i x hx
          obtain ⟨g', rfl, b0, b1, b2, b3, b4, b5, b6⟩ := hc2 i _ hy
          obtain ⟨f0, f1, f2, f3, f4, f5, f6⟩ := x
          simp only at hv a0 a1 a2 a3 a4 a5 a6 b0 b1 b2 b3 b4 b5 b6
          subst hv
          obtain ⟨sv, hsv⟩ : ∃ sv, sv = strOfNums v := ⟨_, rfl⟩
          obtain ⟨lf, hlf⟩ : ∃ lf, lf = (wtext [] (ts.drop (i + 1)) 0).length := ⟨_, rfl⟩
          obtain ⟨ln, hln⟩ : ∃ ln, ln = (wtext [] (ts.drop i) 0).length := ⟨_, rfl⟩
          have hsum : (sv.size : Int) + (lf : Int) = (ln : Int) := by rw [hsv, strOf_size, hlf, hln, hdr]; omega
          have hln2 : ln ≤ 9000000 := by
            have h1 : (wtext [] ts 0).length = (wtext [] (ts.take i) 0).length + ln := by
              conv => lhs; rw [← List.take_append_drop i ts, wtext_append, List.length_append, wtext_none (ts.drop i) _ 0]
              rw [hln]
            have h2 := HYB.out.2
            rw [HYW.out] at h2
            omega
          have sw : IntKind.i64.wrap ((ln : Int) - (sv.size : Int)) = (lf : Int) := by rw [IntKind.wrap_i64]; omega
          have HLF := Aside0.mk hlf
          rw [← hsv] at a1 b1
          rw [← hlf] at b5
          rw [← hln]
          have hij2 : ¬ (j : Int) ≤ (i : Int) := by omega
          clear hc1 hc2 hx hy hsv hlf hln hdr hsum
          go_upto_region 17 with (fail)
          go_region
          all_goals
            go_wp2_with fail
            go_roundg k1
            case measure => omega
            case rel => exact ⟨i + 1, by go_num, by rw [HLF.out], ⟨by have := HJ2.out; omega⟩, ⟨by first | exact HBi.out | exact below_drew HBi.out⟩⟩
    | succ k1 =>
      have hjL : j < L := by have := HJ.out; omega
      have dlt : decide ((j : Int) < (L : Int)) = true := by simpa using hjL
      obtain ⟨x, v, hx, hv, htk, -, -, hle⟩ := small_pure bl ts j (by rw [← HLS.out]; exact hjL)
      obtain ⟨B1, d1, e1, hc1⟩ := row37 (Kd.R_below HG.out HB.out)
      injection e1 with e1 z1 z2
      clear z1 z2
      subst e1
      obtain ⟨g, rfl, a0, a1, a2, a3, a4, a5, a6⟩ := hc1 j x hx
      obtain ⟨f0, f1, f2, f3, f4, f5, f6⟩ := x
      simp only at hv a0 a1 a2 a3 a4 a5 a6
      subst hv
      obtain ⟨acc, hacc⟩ : ∃ acc, acc = wtext [] (ts.take j) 0 := ⟨_, rfl⟩
      rw [← hacc] at htk ⊢
      have zc : ¬ (9223372036854775807 < (strOfNums acc).size + (strOfNums v).size) := by
        rw [strOf_size, strOf_size]
        rw [htk, List.length_append] at hle
        have h2 := HYB.out.2
        rw [HYW.out] at h2
        omega
      have HTK := Aside0.mk htk
      clear hc1 hx htk hle hacc
      go_wp2_with fail
      go_roundg k1
      case measure => omega
      case rel => exact ⟨j + 1, by go_num, by rw [HTK.out, strOf_append], ⟨by have := HJ.out; omega⟩, ⟨HB.out.trans ((below_alloc (Below.refl _ _) _).mono HB.out.size)⟩⟩
end Go.Proofs.YtekmminmgjoabaaDoor.Js
