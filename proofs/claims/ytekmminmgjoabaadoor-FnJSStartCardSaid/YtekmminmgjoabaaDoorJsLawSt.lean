/- Written by laws.py: the law on a text that is cut off behind a token: its walk. -/
import Derived.Test.YtekmminmgjoabaaDoorJsLawSt0
import Derived.Test.YtekmminmgjoabaaDoorRw
namespace Go.Proofs.YtekmminmgjoabaaDoor.Js
open Go.RowKit Go.Proofs.YtekmminmgjoabaaDoorW.PrintWords Go.Proofs.YtekmminmgjoabaaDoorW.PrintLast Go.Proofs.YtekmminmgjoabaaDoorW.PrintMore Go.Proofs.YtekmminmgjoabaaDoor.PFnJSTokens
set_option linter.unusedVariables false
set_option linter.unusedSimpArgs false
set_option maxHeartbeats 4000000 in
set_option maxRecDepth 100000 in
theorem law_start (w : World) (v1 v2 : Value) (code bs : List Int) (h1 : Sl w w.heap.size v1 code) (h2 : Sl w w.heap.size v2 bs) (hb1 : Bytes code) (hb2 : Bytes bs) (ht : Tab w) (a : Int) (ha : 0 ≤ a ∧ a ≤ 255) :
    Calls Tryd.prog 5 #[v1, v2, .int .u8 a] w fun e w' => e = .returned (.bool true) ∧ Below w.heap.size w w' := by
  obtain ⟨A1, c1, rfl, -⟩ := h1.form
  obtain ⟨A2, c2, rfl, -⟩ := h2.form
  obtain ⟨m1, hm1⟩ : ∃ m1, m1 = code.length := ⟨_, rfl⟩
  rw [← hm1] at h1 ⊢
  have hx1 : m1 ≤ 9223372036854775807 := by rw [hm1]; have := h1.cut.2.2.1.2.1; omega
  obtain ⟨m2, hm2⟩ : ∃ m2, m2 = bs.length := ⟨_, rfl⟩
  rw [← hm2] at h2 ⊢
  have hx2 : m2 ≤ 9223372036854775807 := by rw [hm2]; have := h2.cut.2.2.1.2.1; omega
  by_cases hs1 : 2147483647 < m1
  · clear h1 hb1 hm1 h2 hb2 hm2 ht ha
    go_enter Tryd.func5, Tryd.ntmps5
    go_wp2_with fail
    go_returns
    exact ⟨rfl, Below.refl _ _⟩
  by_cases hs2 : 2147483647 < m2
  · have hn1 : ¬ (2147483647 : Int) < (m1 : Int) := by omega
    clear h1 hb1 hm1 h2 hb2 hm2 ht ha
    go_enter Tryd.func5, Tryd.ntmps5
    go_wp2_with fail
    go_returns
    exact ⟨rfl, Below.refl _ _⟩
  have hn1 : ¬ (2147483647 : Int) < (m1 : Int) := by omega
  have hn2 : ¬ (2147483647 : Int) < (m2 : Int) := by omega
  have HN := Aside0.mk (jsNode_calls w w.heap.size _ code (Nat.le_refl _) h1 hb1)
  have HC := Aside0.mk hb1
  have HT := Aside0.mk ht
  have HOK := Aside0.mk (made_ok hb1)
  have H2 := Aside0.mk h2
  have HBB := Aside0.mk (bytes_take hb2 20)
  obtain ⟨bl, hbl⟩ : ∃ bl, bl = bs.take 20 := ⟨_, rfl⟩
  rw [← hbl] at HBB
  have HBL := Aside0.mk hbl
  have HBK := Aside0.mk (fun (W : World) (hW : Below w.heap.size w W) => (show Calls Tryd.prog 20 #[.slice A2 m2 c2] W fun e w' => ∃ v', e = .returned v' ∧ Sl W w.heap.size v' bl ∧ W = w' by rw [hbl]; exact jsBlanks_calls W w.heap.size _ bs (h2.below hW)))
  obtain ⟨zs, hzs⟩ : ∃ zs, zs = sfx bl ((jsN code).toks 0 0) 0 := ⟨_, rfl⟩
  have HZ := Aside0.mk hzs
  have HZB := Aside0.mk (show Bytes zs ∧ zs.length ≤ 9000000 by rw [hzs]; exact ⟨sfx_bytes HOK.out.1 bl, sfx_le hb1 bl⟩)
  have HSZ := Aside0.mk (fun bl' : List Int => show ((btoks bl' ((jsN code).toks 0 0) 0).map toS).length ≤ 2200000000 by rw [List.length_map, btoks_length]; have := HOK.out; omega)
  obtain ⟨L, hL⟩ : ∃ L, L = ((jsN code).toks 0 0).length := ⟨_, rfl⟩
  have hL0 : 0 < L := by rw [hL]; exact toks_pos _ 0 0
  have hL1 : L ≤ 2900000 := by rw [hL]; exact HOK.out.2.2
  obtain ⟨k, hk⟩ : ∃ k, k = a.toNat % L := ⟨_, rfl⟩
  have hkL : k < L := by rw [hk]; exact Nat.mod_lt _ hL0
  have hrem : a.tmod (L : Int) = (k : Int) := by rw [hk, Int.tmod_eq_emod_of_nonneg ha.1]; simp [Int.toNat_of_nonneg ha.1]
  have hLn : ¬ (L : Int) = 0 := by omega
  have hLz : ((L : Int) == 0) = false := by rw [beq_eq_false_iff_ne]; exact hLn
  obtain ⟨ls, st, ys, kb, hrun, hll, ⟨hkb0, hys, hkb1, hyb⟩, ⟨y0, hy0, hy1⟩, hp⟩ := start_pure HOK.out.1 bl k (by rw [← hL]; exact hkL)
  rw [← hzs] at hys hkb1 hp
  have HP := Aside0.mk hp
  have HRUN := Aside0.mk hrun
  have HYS := Aside0.mk hys
  have HYB := Aside0.mk (show Bytes ys ∧ ys.length ≤ 9000000 from ⟨hyb, by rw [hys, List.length_take]; have := HZB.out.2; omega⟩)
  have HKB := Aside0.mk (And.intro hkb0 hkb1)
  have HLL := Aside0.mk hll
  have HY0 := Aside0.mk (And.intro hy0 hy1)
  have HLX := Aside0.mk (show ((btoks bl ((jsN code).toks 0 0) 0).map toS).length = L by rw [List.length_map, btoks_length, hL])
  clear h1 h2 hb1 hb2 ht hm1 hm2 hs1 hs2 hbl hzs hL hk hrun hll hkb0 hkb1 hys hyb hy0 hy1 hp
  obtain ⟨ha0, ha1⟩ := ha
  go_enter Tryd.func5, Tryd.ntmps5
  go_upto_region 4 with (first
    | (go_at_call 17; (with_reducible refine HN.out.mono ?_); rintro e w2 ⟨v, rfl, hnd, hb2⟩; have HND := Aside0.mk hnd; have HB2 := Aside0.mk hb2; clear hnd hb2)
    | (go_at_call 20; (with_reducible refine (HBK.out _ HB2.out).mono ?_); rintro e w3 ⟨v', rfl, hsl, rfl⟩; have HW := Aside0.mk (jsWritten_calls w2 (jsN code) v v' bl HOK.out.1 (by have := HOK.out; unfold Room; omega) (HND.out.lower (Nat.zero_le _)) (hsl.grow HB2.out.size) HBB.out); clear hsl)
    | (go_at_call 16; (with_reducible refine HW.out.mono ?_); rintro e w4 ⟨tv, rfl, hr, hb4⟩; rw [← HZ.out]; have HR := Aside0.mk hr; have HB4 := Aside0.mk (HB2.out.trans (hb4.mono HB2.out.size)); clear hr hb4))
  obtain ⟨xs, hxs⟩ : ∃ xs, xs = (btoks bl ((jsN code).toks 0 0) 0).map toS := ⟨_, rfl⟩
  rw [← hxs] at HR HLX HY0 HP
  obtain ⟨A, c, rfl, hrow⟩ := row37 HR.out
  rw [HLX.out] at HR ⊢
  obtain ⟨g, hA, -, -, -, -, -, bk, -⟩ := hrow k y0 HY0.out.1
  subst hA
  rw [HY0.out.2] at bk
  obtain ⟨ST, hST⟩ : ∃ ST, ST = strOfNums zs := ⟨_, rfl⟩
  rw [← hST]
  obtain ⟨en, hen⟩ : ∃ en : Nat, en = zs.length - kb.toNat := ⟨_, rfl⟩
  have sw : IntKind.i64.wrap ((ST.size : Int) - kb) = (en : Int) := by
    have h1 := HKB.out.1
    have h2 := HKB.out.2
    have h3 := HZB.out.2
    rw [hST, strOf_size, IntKind.wrap_i64]; omega
  have q6 : ∀ W : World, (Instr.slice 9 (.string ST) none (some (.int .i64 (en : Int))) none).run Tryd.prog W = .ok (.string (strOfNums ys)) W := fun W => by
    have h1 := run_slice_string_h (P := Tryd.prog) W 9 ST Tryd.underlying9 .i64 (en : Int) (by omega) (by rw [hST, strOf_size]; omega)
    rw [h1, Int.toNat_natCast, hST, str_take, HYS.out, hen]
  obtain ⟨cz, w5, hcv, hsl5, hb5⟩ := text_bytes w4 ys HYB.out.1 (by have := HYB.out.2; omega)
  have HB5 := Aside0.mk (HB4.out.trans (hb5.mono HB4.out.size))
  have HR5 := Aside0.mk (Kd.R_below HR.out hb5)
  have HD := Aside0.mk (jsTok w5 _ _ _ ys [] st ls true hsl5 HYB.out.1 (by have := HYB.out.2; omega) HRUN.out (by rw [HLL.out]; omega) (HT.out.below HB5.out) (fun W' T p q hT hb hst _ => end_last W' w5.heap.size T _ _ p q hT hst (fun c hc => by simp at hc)))
  have HEN := Aside0.mk hen
  clear hsl5 hb5 hrow hxs hST hen
  go_upto_region 10 with (go_at_call 18; (with_reducible refine HD.out.mono ?_); rintro e w6 ⟨gv, rfl, hg, hb6⟩; have HG := Aside0.mk hg; have HB6 := Aside0.mk (HB5.out.trans (hb6.mono HB5.out.size)); have HR6 := Aside0.mk (Kd.R_below HR5.out hb6); obtain ⟨A', c', rfl, hrow'⟩ := row37 hg; rw [List.length_map, HLL.out]; clear hg hb6 hrow')
  go_loopg [63] (k + 1) (fun gk v63 w' => ∃ j : Nat, v63 = .int .i64 (j : Int) ∧ Aside0 (j + gk = k + 1) ∧ Aside0 (Below w6.heap.size w6 w'))
  case atStart => exact ⟨0, rfl, ⟨by omega⟩, ⟨Below.refl _ _⟩⟩
  case round =>
    obtain ⟨j, rfl, HJ, HB⟩ := hrel
    cases gk with
    | zero =>
      obtain rfl : j = k + 1 := by have := HJ.out; omega
      have dlt : decide ((k : Int) + 1 < (k : Int) + 1) = false := by simp
      have HBR := Aside0.mk (HB6.out.trans (HB.out.mono HB6.out.size))
      go_wp2_with (go_at_call 19; (with_reducible refine (awake_calls _ (HT.out.below HBR.out)).mono ?_); rintro e wz ⟨rfl, hbz⟩; have HBZ := Aside0.mk (HBR.out.trans (hbz.mono (HBR.out).size)); clear hbz)
      go_returns
      exact ⟨rfl, HBZ.out⟩
    | succ k1 =>
      have hjm : j < k + 1 := by have := HJ.out; omega
      have dlt : decide ((j : Int) < (k : Int) + 1) = true := by simp; omega
      obtain ⟨x, gb, hx, hgx, hsum, hgb, hx5⟩ := HP.out j hjm
      obtain ⟨B1, d1, e1, hc1⟩ := row37 (Kd.R_below HG.out HB.out)
      obtain ⟨B2, d2, e2, hc2⟩ := row37 (Kd.R_below HR6.out HB.out)
      injection e1 with e1 z1 z2
      injection e2 with e2 z3 z4
      clear z1 z2 z3 z4
      subst e1
      obtain ⟨g', rfl, a0, a1, a2, a3, a4, a5, a6⟩ := hc1 j _ hgx
      obtain ⟨g2, e3, b0, b1, b2, b3, b4, b5, b6⟩ := hc2 j x hx
      obtain ⟨g3, e4, -, -, -, -, -, bk, -⟩ := hc2 k y0 HY0.out.1
      rw [← e2] at e3 e4
      injection e3 with e3
      injection e3 with e3
      injection e4 with e4
      injection e4 with e4
      subst e3 e4
      rw [HY0.out.2] at bk
      have HSM := Aside0.mk (And.intro hsum (And.intro hgb hx5))
      obtain ⟨f0, f1, f2, f3, f4, f5, f6⟩ := x
      simp only at a0 a1 a2 a3 a4 a5 a6 b0 b1 b2 b3 b4 b5 b6 HSM
      have HBC := Aside0.mk (And.intro b0 (And.intro b1 (And.intro b2 (And.intro b3 (And.intro b4 (And.intro b5 (And.intro b6 bk)))))))
      clear hc1 hc2 hx hgx hsum hgb hx5 b0 b1 b2 b3 b4 b5 b6 bk e2
      go_upto_region 12 with (fail)
      have hal := below_alloc (Below.refl wr.heap.size wr) (.cells #[.int .u8 f0, .string f1, .int .i64 f2, .int .i64 f3, .bool f4, .int .i64 gb, .int .i64 f6] 37)
      have hbk := blk_new wr (.cells #[.int .u8 f0, .string f1, .int .i64 f2, .int .i64 f3, .bool f4, .int .i64 gb, .int .i64 f6] 37)
      obtain ⟨W1, hW1⟩ : ∃ W1, W1 = wr.alloc (.cells #[.int .u8 f0, .string f1, .int .i64 f2, .int .i64 f3, .bool f4, .int .i64 gb, .int .i64 f6] 37) := ⟨_, rfl⟩
      rw [← hW1] at hal hbk ⊢
      have HAL := Aside0.mk hal
      have HBLK := Aside0.mk hbk
      have m5 : W1.cell? ⟨wr.heap.size, 5, none⟩ = some (.int .i64 gb) := (blk_cell HBLK.out 5).trans rfl
      have fz : W1.frozen? ⟨wr.heap.size, 5, none⟩ = false := blk_frozen HBLK.out 5
      have bk1 : W1.cell? ⟨g, k * 7 + 5, none⟩ = some (.int .i64 kb) := pw_cell_below HAL.out HBC.out.2.2.2.2.2.2.2
      have sw2 : IntKind.i64.wrap (gb + kb) = f5 := by
        have h1 := HSM.out
        have h2 := HZB.out.2
        have h3 := HKB.out.1
        rw [IntKind.wrap_i64]; omega
      clear hW1 hal hbk a0 a1 a2 a3 a4 a5 a6
      go_region
      all_goals
        clear m5 fz bk1 sw2
        have hW2b := blk_drew (blk_set HBLK.out 5 (.int .i64 f5))
        have hW2l : Below wr.heap.size wr (W1.setCell ⟨wr.heap.size, 5, none⟩ (.int .i64 f5)).drew := below_drew (HAL.out.setCell (Nat.le_refl _) _)
        obtain ⟨W2, hW2⟩ : ∃ W2, W2 = (W1.setCell ⟨wr.heap.size, 5, none⟩ (.int .i64 f5)).drew := ⟨_, rfl⟩
        rw [← hW2] at hW2b hW2l ⊢
        have HBLK2 := Aside0.mk (show W2.heap[wr.heap.size]? = some (.cells #[.int .u8 f0, .string f1, .int .i64 f2, .int .i64 f3, .bool f4, .int .i64 f5, .int .i64 f6] 37 (0, 0)) from hW2b)
        have HLO2 := Aside0.mk hW2l
        have m0 : W2.cell? ⟨wr.heap.size, 0, none⟩ = some (.int .u8 f0) := (blk_cell HBLK2.out 0).trans rfl
        have m1 : W2.cell? ⟨wr.heap.size, 1, none⟩ = some (.string f1) := (blk_cell HBLK2.out 1).trans rfl
        have m2 : W2.cell? ⟨wr.heap.size, 2, none⟩ = some (.int .i64 f2) := (blk_cell HBLK2.out 2).trans rfl
        have m3 : W2.cell? ⟨wr.heap.size, 3, none⟩ = some (.int .i64 f3) := (blk_cell HBLK2.out 3).trans rfl
        have m4 : W2.cell? ⟨wr.heap.size, 4, none⟩ = some (.bool f4) := (blk_cell HBLK2.out 4).trans rfl
        have m5 : W2.cell? ⟨wr.heap.size, 5, none⟩ = some (.int .i64 f5) := (blk_cell HBLK2.out 5).trans rfl
        have m6 : W2.cell? ⟨wr.heap.size, 6, none⟩ = some (.int .i64 f6) := (blk_cell HBLK2.out 6).trans rfl
        have b0 := pw_cell_below HLO2.out HBC.out.1
        have b1 := pw_cell_below HLO2.out HBC.out.2.1
        have b2 := pw_cell_below HLO2.out HBC.out.2.2.1
        have b3 := pw_cell_below HLO2.out HBC.out.2.2.2.1
        have b4 := pw_cell_below HLO2.out HBC.out.2.2.2.2.1
        have b5 := pw_cell_below HLO2.out HBC.out.2.2.2.2.2.1
        have b6 := pw_cell_below HLO2.out HBC.out.2.2.2.2.2.2.1
        have HSX := Aside0.mk (fun W => spec_JSSame.calls f0 f1 f2 f3 f4 f5 f6 f0 f1 f2 f3 f4 f5 f6 true W (same_self ⟨f0, f1, f2, f3, f4, f5, f6⟩))
        clear hW2 hW2b hW2l
        have hkL2 : (k : Int) < (L : Int) := by omega
        have hjL : (j : Int) < (L : Int) := by omega
        go_wp2_with fail
        go_region_with (go_at_call 21; (with_reducible refine (HSX.out _).mono ?_); rintro e W4 ⟨rfl, hb4⟩; have HB4x := Aside0.mk hb4; clear hb4)
        all_goals
          go_wp2_with fail
          go_roundg k1
          case measure => omega
          case rel => exact ⟨j + 1, by go_num, ⟨by have := HJ.out; omega⟩, ⟨HB.out.trans ((HLO2.out.trans (((below_drew (Below.refl _ _)).trans HB4x.out).mono HLO2.out.size)).mono HB.out.size)⟩⟩
end Go.Proofs.YtekmminmgjoabaaDoor.Js
