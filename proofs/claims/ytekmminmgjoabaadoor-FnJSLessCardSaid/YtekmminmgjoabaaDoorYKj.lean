/- A bracket of values is written. -/
import Derived.Test.YtekmminmgjoabaaDoorYKh
import Derived.Deep.RegionHeld3
namespace Go.Proofs.YtekmminmgjoabaaDoor.Js
open Go.RowKit Go.Proofs.YtekmminmgjoabaaDoorW.PrintWords Go.Proofs.YtekmminmgjoabaaDoorW.PrintLast Go.Proofs.YtekmminmgjoabaaDoorW.PrintMore Go.Proofs.YtekmminmgjoabaaDoor.PFnJSTokens
set_option linter.unusedVariables false
set_option linter.unusedSimpArgs false
set_option maxHeartbeats 4000000 in
set_option maxRecDepth 100000 in
theorem obj_w (t : List Int) (items : List JN) (keys : List (List Int)) (hk : keys.length = items.length) (ih : ∀ x ∈ items, NodeW x) : NodeW (JN.mk 6 t items keys) := by
  intro w B base g bl P d i cs hB hb hr hd hd2 hf hw
  obtain ⟨A, c, A', c', rfl, h1, h2, hi, hs⟩ := FK_open hf
  have htk : (JN.mk 6 t items keys).toks d i = tkDelim 123 d i 6 :: (JN.itoks items keys true d 0 ++ [tkDelim 125 d i 0]) := by rw [JN.toks, if_neg (by omega)]; first | rw [if_pos rfl] | rw [if_neg (by omega)]
  rw [htk] at hr hd2 ⊢
  have hg : g < w.heap.size := by obtain ⟨_, _, h, -⟩ := hw; exact blk_lt h
  obtain ⟨w1, hw1⟩ : ∃ w1, w1 = w.alloc (.cells #[.int .i64 (JN.mk 6 t items keys).kind, .string (strOfNums (JN.mk 6 t items keys).text), .slice A (JN.mk 6 t items keys).items.length c, .slice A' (JN.mk 6 t items keys).keys.length c'] 29) := ⟨_, rfl⟩
  have hbl := below_alloc (Below.refl w.heap.size w) (.cells #[.int .i64 (JN.mk 6 t items keys).kind, .string (strOfNums (JN.mk 6 t items keys).text), .slice A (JN.mk 6 t items keys).items.length c, .slice A' (JN.mk 6 t items keys).keys.length c'] 29)
  have hbn := blk_new w (.cells #[.int .i64 (JN.mk 6 t items keys).kind, .string (strOfNums (JN.mk 6 t items keys).text), .slice A (JN.mk 6 t items keys).items.length c, .slice A' (JN.mk 6 t items keys).keys.length c'] 29)
  rw [← hw1] at hbl hbn
  have hws : WS w1 B base g bl P := by
    obtain ⟨tv, bv, a1, a2, a3, a4⟩ := hw
    exact ⟨tv, bv, blk_below a1 hbl, a2.below (hbl.mono (by omega)), a3, Kd.R_step a4 (fun k _ hk => hbl.block k hk)⟩
  have hr1 : Room (P ++ [tkDelim 123 d i 6]) := Room.left (Q := JN.itoks items keys true d 0 ++ [tkDelim 125 d i 0]) (by rw [List.append_assoc]; exact hr)
  have HT := Aside0.mk (delim_ws w1 B base g bl P 123 d i 6 ⟨#[123]⟩ (by decide) (by decide) hB hb hr1 hws)
  have q0 : w1.cell? ⟨w.heap.size, 0, none⟩ = some (.int .i64 6) := (blk_cell hbn 0).trans rfl
  have HB := Aside0.mk (show Below base w w1 ∧ Tf w w1 g from ⟨hbl.mono (by omega), Tf.of_mv ((Mv.refl w g).aboveB hbl (Nat.le_refl _) (by omega))⟩)
  have HI := Aside0.mk (show Kd.F kJ w1 (fun k => k < base) A items.length items from Kd.F_step hi (fun k hk hl => hbl.block k hl))
  have HS := Aside0.mk (show Kd.F Kd.string w1 (fun k => k < base) A' keys.length (keys.map strOfNums) from Kd.F_step hs (fun k hk hl => hbl.block k hl))
  have HBN := Aside0.mk (show w1.heap[w.heap.size]? = some (.cells #[.int .i64 6, .string (strOfNums t), .slice A items.length c, .slice A' keys.length c'] 29 (0, 0)) from hbn)
  have HG := Aside0.mk hg
  have HR := Aside0.mk (And.intro hr (And.intro hd hd2))
  have HBB := Aside0.mk (And.intro hB hb)
  have HW1 := Aside0.mk hw1
  have hl0 : items.length < 1000000000 := by
    have h := itoks_long true d items keys 0 (fun x _ d i => toks_pos x d i)
    simp only [List.length_cons, List.length_append, List.length_nil] at hd2
    omega
  have HL0 := Aside0.mk (And.intro h1 h2)
  clear hw1 hB hb hr hr1 hd hd2 hf hw hi hs h1 h2 hbl hbn hws hg htk
  go_enter Tryd.func42, Tryd.ntmps42
  go_upto_region 1 with (fail)
  rw [← HW1.out]
  clear HW1
  go_upto_region 7 with (go_at_call 76; (with_reducible refine HT.out.mono ?_); rintro e w2 ⟨rfl, hw2, hb2, ht2⟩; have HW2 := Aside0.mk hw2; have HB2 := Aside0.mk hb2; have HT2 := Aside0.mk ht2; have HBN2 := Aside0.mk (ht2.blk HBN.out (by have := HG.out; omega) (by decide)); clear hw2 hb2 ht2)
  clear q0 HT
  have q2 : w2.cell? ⟨w.heap.size, 2, none⟩ = some (.slice A items.length c) := (blk_cell HBN2.out 2).trans rfl
  go_upto_region 8 with (fail)
  go_loopg [36] items.length (fun n v36 w' => ∃ (j : Nat) (P' : List Tk), v36 = .int .i64 (j : Int) ∧ Aside0 (j + n = items.length) ∧ Aside0 (P' ++ JN.itoks (items.drop j) (keys.drop j) true d (j : Int) = P ++ (tkDelim 123 d i 6 :: JN.itoks items keys true d 0)) ∧ Aside0 (P.length + 1 ≤ P'.length) ∧ Aside0 (WS w' B base g bl P') ∧ Aside0 (Below base w1 w') ∧ Aside0 (Tf w1 w' g))
  case atStart => exact ⟨0, P ++ [tkDelim 123 d i 6], rfl, ⟨by omega⟩, ⟨by simp⟩, ⟨by simp⟩, HW2, HB2, HT2⟩
  case round =>
    obtain ⟨j, P', rfl, HJ, HP, HPL, HW, HBL, HTF⟩ := hrel
    clear HW2 HB2 HT2 HBN2 q2
    cases gk with
    | zero =>
      have d0 : decide (j < items.length) = false := by have := HJ.out; simp; omega
      have hr2 : Room (P' ++ [tkDelim 125 d i 0]) := by
        have e := HP.out
        rw [show items.drop j = [] from List.drop_eq_nil_of_le (by have := HJ.out; omega)] at e
        rw [JN.itoks, List.append_nil] at e
        rw [e]
        have h := HR.out.1
        simpa using h
      have HE := Aside0.mk (delim_ws wr B base g bl P' 125 d i 0 ⟨#[125]⟩ (by decide) (by decide) HBB.out.1 HBB.out.2 hr2 HW.out)
      clear hr2
      go_wp2_with (go_at_call 76; (with_reducible refine HE.out.mono ?_); rintro e w3 ⟨rfl, hw3, hb3, ht3⟩; have HW3 := Aside0.mk hw3; have HB3 := Aside0.mk hb3; have HT3 := Aside0.mk ht3; clear hw3 hb3 ht3)
      go_returns
      refine ⟨rfl, ?_, HB.out.1.trans (HBL.out.trans HB3.out), HB.out.2.trans (HTF.out.trans HT3.out)⟩
      have e := HP.out
      rw [show items.drop j = [] from List.drop_eq_nil_of_le (by have := HJ.out; omega)] at e
      rw [JN.itoks, List.append_nil] at e
      have hw3 := HW3.out
      rw [e] at hw3
      simpa using hw3
    | succ k1 =>
      have d0 : decide (j < items.length) = true := by have := HJ.out; simp; omega
      have hjl : j < items.length := by have := HJ.out; omega
      obtain ⟨x, hx⟩ : ∃ x, items[j]? = some x := ⟨_, List.getElem?_eq_getElem hjl⟩
      have HX := Aside0.mk hx
      have HIr := Aside0.mk (Kd.F_step HI.out (fun k hk hl => HBL.out.block k hk))
      have HSr := Aside0.mk (Kd.F_step HS.out (fun k hk hl => HBL.out.block k hk))
      have HBNr := Aside0.mk (HTF.out.blk HBN.out (by have := HG.out; omega) (by decide))
      obtain ⟨ad, A1, c1, A2, c2, hA, hFK, x0, x1, x2, x3⟩ := item_at HIr.out hx
      subst hA
      have HFK := Aside0.mk hFK
      have HXB := Aside0.mk (blk_new wr (.cells #[.int .i64 0, .string ⟨#[]⟩, .slice none 0 0, .slice none 0 0] 29))
      have hal := below_alloc (Below.refl wr.heap.size wr) (.cells #[.int .i64 0, .string ⟨#[]⟩, .slice none 0 0, .slice none 0 0] 29)
      have HAL := Aside0.mk hal
      have hgr : g < wr.heap.size := by obtain ⟨_, _, h, -⟩ := HW.out; exact blk_lt h
      have HGR := Aside0.mk (And.intro hgr (show w.heap.size < wr.heap.size from blk_lt HBNr.out))
      clear hFK hx hal hgr
      go_upto_region 10 with ((with_reducible refine gate_st (p := .tmp 11) rfl ?_); refine store_agg _ _ _ rfl rfl rfl [.int .i64 x.kind, .string (strOfNums x.text), .slice A1 x.items.length c1, .slice A2 x.keys.length c2] HXB.out rfl (by simp) rfl (by kernel_rfl) (by simp [Value.oneCell']) ?_; intro W4 hb4 hk4 hg4; have HX4 := Aside0.mk hb4; have HL4 := Aside0.mk (show Below wr.heap.size wr W4 from HAL.out.trans hg4); clear hb4 hk4 hg4)
      have hE := HP.out
      rw [itoks_step true d items keys j x HX.out] at hE
      simp only [Bool.false_eq_true, if_false, if_true, List.nil_append] at hE
      obtain ⟨rest, hrest⟩ : ∃ rest, rest = JN.itoks (items.drop (j + 1)) (keys.drop (j + 1)) true d ((j + 1 : Nat) : Int) := ⟨_, rfl⟩
      rw [← hrest] at hE
      obtain ⟨C, hC⟩ : ∃ C, C = (if 0 < j then [tkDelim 44 (d + 1) ((j : Int) - 1) 0] else []) := ⟨_, rfl⟩
      rw [← hC] at hE
      have hR0 : Room (P' ++ ((C ++ ([⟨0, keys.getD j [], d + 1, j, true, 4⟩, tkDelim 58 (d + 1) j 0] ++ x.toks (d + 1) j)) ++ rest)) := by
        rw [hE]
        exact Room.left (Q := [tkDelim 125 d i 0]) (by have h := HR.out.1; simpa using h)
      have hlen : d + 1 + (x.toks (d + 1) j).length < 1000000000 := by
        have h := congrArg List.length hE
        have h3 := HR.out.2.2
        have h4 := HPL.out
        simp only [List.length_append, List.length_cons, List.length_nil] at h h3
        omega
      have hd0 := HR.out.2.1
      have dw : IntKind.i64.wrap (d + 1) = d + 1 := by rw [IntKind.wrap_i64]; omega
      have HE := Aside0.mk hE
      have HR0 := Aside0.mk hR0
      have HLEN := Aside0.mk (And.intro hlen hd0)
      have HREST := Aside0.mk hrest
      have HW4 := Aside0.mk (show WS W4 B base g bl P' by
        obtain ⟨tv, bv, a1, a2, a3, a4⟩ := HW.out
        exact ⟨tv, bv, blk_below a1 HL4.out, a2.below (HL4.out.mono (by have := HGR.out; have := HBB.out; omega)), a3, Kd.R_step a4 (fun k _ hk => HL4.out.block k hk)⟩)
      have HB4 := Aside0.mk (show Below base wr W4 from HL4.out.mono (by have := HGR.out; have := HBB.out; omega))
      have HT4 := Aside0.mk (show Tf wr W4 g from Tf.of_mv ((Mv.refl wr g).aboveB HL4.out (Nat.le_refl _) (by have := HGR.out; omega)))
      have HXN := Aside0.mk (show wr.heap.size ≠ g by have := HGR.out; omega)
      clear hE hrest hR0 hlen hd0 x0 x1 x2 x3 HXB HAL HL4
      rcases Nat.eq_zero_or_pos j with hj | hj
      · have hC0 : C = [] := by rw [hC, if_neg (by omega)]
        have g0 : decide (0 < j) = false := by simp; omega
        have HWc := Aside0.mk (show WS W4 B base g bl (P' ++ C) by rw [hC0, List.append_nil]; exact HW4.out)
        have HBc := HB4
        have HTc := HT4
        have HXc := HX4
        clear hC hC0 hj
        have k0 : W4.cell? ⟨w.heap.size, 0, none⟩ = some (.int .i64 6) := (blk_cell (HTc.out.blk HBNr.out (by have := HG.out; omega) (by decide)) 0).trans rfl
        obtain ⟨ad2, hA2, hkc⟩ := key_at (Kd.F_step HSr.out (W1 := W4) (fun k hk hl => HBc.out.block k hk)) (show j < keys.length by omega)
        subst hA2
        obtain ⟨ke, hke⟩ : ∃ ke, ke = keys.getD j [] := ⟨_, rfl⟩
        rw [← hke] at hkc
        have HKX := Aside0.mk hke
        have HR1 := Aside0.mk (Room.mid HR0.out).2
        rw [← hke] at HR1
        have k3 : W4.cell? ⟨w.heap.size, 3, none⟩ = some (.slice (some ad2) keys.length c') := (blk_cell (HTc.out.blk HBNr.out (by have := HG.out; omega) (by decide)) 3).trans rfl
        have HKE := Aside0.mk (value_ws W4 B base g bl (P' ++ C) (ke) (d + 1) (j : Int) 4 true HBB.out.1 HBB.out.2 (by have h := HR1.out; exact Room.left (Q := [tkDelim 58 (d + 1) (j : Int) 0] ++ x.toks (d + 1) (j : Int)) (by simpa using h)) HWc.out)
        clear hke
        go_upto_region 14 with (go_at_call 76; (with_reducible refine HKE.out.mono ?_); rintro e wk ⟨rfl, hw3, hb3, ht3⟩; have HWk := Aside0.mk hw3; have HBk := Aside0.mk (HBc.out.trans hb3); have HTk := Aside0.mk (HTc.out.trans ht3); have HXk := Aside0.mk (ht3.blk HXc.out HXN.out (by decide)); clear hw3 hb3 ht3)
        have HCO := Aside0.mk (delim_ws wk B base g bl ((P' ++ C) ++ [⟨0, ke, d + 1, (j : Int), true, 4⟩]) 58 (d + 1) (j : Int) 0 ⟨#[58]⟩ (by decide) (by decide) HBB.out.1 HBB.out.2 (by have h := HR1.out; exact Room.left (Q := x.toks (d + 1) (j : Int)) (by simpa using h)) HWk.out)
        clear k0 k3 hkc
        go_upto_region 15 with (go_at_call 76; (with_reducible refine HCO.out.mono ?_); rintro e wd ⟨rfl, hw3, hb3, ht3⟩; have HWd := Aside0.mk hw3; have HBd := Aside0.mk (HBk.out.trans hb3); have HTd := Aside0.mk (HTk.out.trans ht3); have HXd := Aside0.mk (ht3.blk HXk.out HXN.out (by decide)); clear hw3 hb3 ht3)
        have y0 : wd.cell? ⟨wr.heap.size, 0, none⟩ = some (.int .i64 x.kind) := (blk_cell HXd.out 0).trans rfl
        have y1 : wd.cell? ⟨wr.heap.size, 1, none⟩ = some (.string (strOfNums x.text)) := (blk_cell HXd.out 1).trans rfl
        have y2 : wd.cell? ⟨wr.heap.size, 2, none⟩ = some (.slice A1 x.items.length c1) := (blk_cell HXd.out 2).trans rfl
        have y3 : wd.cell? ⟨wr.heap.size, 3, none⟩ = some (.slice A2 x.keys.length c2) := (blk_cell HXd.out 3).trans rfl
        have HN := Aside0.mk (ih x (List.mem_of_getElem? HX.out) wd B base g bl (((P' ++ C) ++ [⟨0, ke, d + 1, (j : Int), true, 4⟩]) ++ [tkDelim 58 (d + 1) (j : Int) 0]) (d + 1) (j : Int) _ HBB.out.1 HBB.out.2 (by have h := HR1.out; simpa using h) (by have := HLEN.out; omega) HLEN.out.1 (Kd.FK_step HFK.out (fun k hk hl => HBd.out.block k hk)) HWd.out)
        go_wp2_with (go_at_call 42; (with_reducible refine HN.out.mono ?_); rintro e w5 ⟨rfl, hw5, hb5, ht5⟩; have HW5 := Aside0.mk hw5; have HB5 := Aside0.mk hb5; have HT5 := Aside0.mk ht5; clear hw5 hb5 ht5)
        go_roundg k1
        case measure => omega
        case rel =>
          refine ⟨j + 1, _, by go_num, ⟨by have := HJ.out; omega⟩, ⟨?_⟩, ⟨?_⟩, HW5, ⟨HBL.out.trans (HBd.out.trans HB5.out)⟩, ⟨HTF.out.trans (HTd.out.trans HT5.out)⟩⟩
          · rw [← HREST.out, ← HE.out]; rw [HKX.out]; simp
          · have := HPL.out; simp; omega
      · have hC0 : C = [tkDelim 44 (d + 1) ((j : Int) - 1) 0] := by rw [hC, if_pos hj]
        have g0 : decide (0 < j) = true := by simp; omega
        have jw : IntKind.i64.wrap ((j : Int) - 1) = (j : Int) - 1 := by rw [IntKind.wrap_i64]; omega
        have HC0 := Aside0.mk hC0
        have HM := Aside0.mk (delim_ws W4 B base g bl P' 44 (d + 1) ((j : Int) - 1) 0 ⟨#[44]⟩ (by decide) (by decide) HBB.out.1 HBB.out.2 (by rw [← hC0]; exact (Room.mid HR0.out).1) HW4.out)
        clear hC hC0
        go_upto_region 12 with (go_at_call 76; (with_reducible refine HM.out.mono ?_); rintro e wc ⟨rfl, hw3, hb3, ht3⟩; rw [← HC0.out] at hw3; have HWc := Aside0.mk hw3; have HBc := Aside0.mk (HB4.out.trans hb3); have HTc := Aside0.mk (HT4.out.trans ht3); have HXc := Aside0.mk (ht3.blk HX4.out HXN.out (by decide)); clear hw3 hb3 ht3)
        have k0 : wc.cell? ⟨w.heap.size, 0, none⟩ = some (.int .i64 6) := (blk_cell (HTc.out.blk HBNr.out (by have := HG.out; omega) (by decide)) 0).trans rfl
        obtain ⟨ad2, hA2, hkc⟩ := key_at (Kd.F_step HSr.out (W1 := wc) (fun k hk hl => HBc.out.block k hk)) (show j < keys.length by omega)
        subst hA2
        obtain ⟨ke, hke⟩ : ∃ ke, ke = keys.getD j [] := ⟨_, rfl⟩
        rw [← hke] at hkc
        have HKX := Aside0.mk hke
        have HR1 := Aside0.mk (Room.mid HR0.out).2
        rw [← hke] at HR1
        have k3 : wc.cell? ⟨w.heap.size, 3, none⟩ = some (.slice (some ad2) keys.length c') := (blk_cell (HTc.out.blk HBNr.out (by have := HG.out; omega) (by decide)) 3).trans rfl
        have HKE := Aside0.mk (value_ws wc B base g bl (P' ++ C) (ke) (d + 1) (j : Int) 4 true HBB.out.1 HBB.out.2 (by have h := HR1.out; exact Room.left (Q := [tkDelim 58 (d + 1) (j : Int) 0] ++ x.toks (d + 1) (j : Int)) (by simpa using h)) HWc.out)
        clear hke
        go_upto_region 14 with (go_at_call 76; (with_reducible refine HKE.out.mono ?_); rintro e wk ⟨rfl, hw3, hb3, ht3⟩; have HWk := Aside0.mk hw3; have HBk := Aside0.mk (HBc.out.trans hb3); have HTk := Aside0.mk (HTc.out.trans ht3); have HXk := Aside0.mk (ht3.blk HXc.out HXN.out (by decide)); clear hw3 hb3 ht3)
        have HCO := Aside0.mk (delim_ws wk B base g bl ((P' ++ C) ++ [⟨0, ke, d + 1, (j : Int), true, 4⟩]) 58 (d + 1) (j : Int) 0 ⟨#[58]⟩ (by decide) (by decide) HBB.out.1 HBB.out.2 (by have h := HR1.out; exact Room.left (Q := x.toks (d + 1) (j : Int)) (by simpa using h)) HWk.out)
        clear k0 k3 hkc
        go_upto_region 15 with (go_at_call 76; (with_reducible refine HCO.out.mono ?_); rintro e wd ⟨rfl, hw3, hb3, ht3⟩; have HWd := Aside0.mk hw3; have HBd := Aside0.mk (HBk.out.trans hb3); have HTd := Aside0.mk (HTk.out.trans ht3); have HXd := Aside0.mk (ht3.blk HXk.out HXN.out (by decide)); clear hw3 hb3 ht3)
        have y0 : wd.cell? ⟨wr.heap.size, 0, none⟩ = some (.int .i64 x.kind) := (blk_cell HXd.out 0).trans rfl
        have y1 : wd.cell? ⟨wr.heap.size, 1, none⟩ = some (.string (strOfNums x.text)) := (blk_cell HXd.out 1).trans rfl
        have y2 : wd.cell? ⟨wr.heap.size, 2, none⟩ = some (.slice A1 x.items.length c1) := (blk_cell HXd.out 2).trans rfl
        have y3 : wd.cell? ⟨wr.heap.size, 3, none⟩ = some (.slice A2 x.keys.length c2) := (blk_cell HXd.out 3).trans rfl
        have HN := Aside0.mk (ih x (List.mem_of_getElem? HX.out) wd B base g bl (((P' ++ C) ++ [⟨0, ke, d + 1, (j : Int), true, 4⟩]) ++ [tkDelim 58 (d + 1) (j : Int) 0]) (d + 1) (j : Int) _ HBB.out.1 HBB.out.2 (by have h := HR1.out; simpa using h) (by have := HLEN.out; omega) HLEN.out.1 (Kd.FK_step HFK.out (fun k hk hl => HBd.out.block k hk)) HWd.out)
        go_wp2_with (go_at_call 42; (with_reducible refine HN.out.mono ?_); rintro e w5 ⟨rfl, hw5, hb5, ht5⟩; have HW5 := Aside0.mk hw5; have HB5 := Aside0.mk hb5; have HT5 := Aside0.mk ht5; clear hw5 hb5 ht5)
        go_roundg k1
        case measure => omega
        case rel =>
          refine ⟨j + 1, _, by go_num, ⟨by have := HJ.out; omega⟩, ⟨?_⟩, ⟨?_⟩, HW5, ⟨HBL.out.trans (HBd.out.trans HB5.out)⟩, ⟨HTF.out.trans (HTd.out.trans HT5.out)⟩⟩
          · rw [← HREST.out, ← HE.out]; rw [HKX.out]; simp
          · have := HPL.out; simp; omega
end Go.Proofs.YtekmminmgjoabaaDoor.Js

