/- Written by mendio.py (wip/) out of the print's text: the definition's test of a time by flags, and what the program's function comes to; with no condition. -/
import Derived.Test.YtmhngpihkaignaaPFnIOValidx0
import Derived.Test.YtmhngpihkaignaaPFnIOValidx3
namespace Go.Proofs.Ytmhngpihkaignaa.PFnIOValid
open Go.RowKit Go.Proofs.YtmhngpihkaignaaW.PrintWords Go.Proofs.YtmhngpihkaignaaW.PrintLast Go.Proofs.YtmhngpihkaignaaW.PrintMore
attribute [local go_sem] max2_int min2_int max_two min_two max_three min_three max_four min_four   -- for this text's walks alone
set_option linter.unusedVariables false
set_option linter.unusedSimpArgs false

/-! ### spec_IOValid: function 36 -/
mutual
def spec_IOValid.j0 : Nat → Int → Bool → Int → Int → Int → Int → Int → Int → Bool → Bool → Int → Int → Int → Int → Option (Bool)
  | 0, _, _, _, _, _, _, _, _, _, _, _, _, _, _ => none
  | k + 1, x1, x11, x165000, x165001, x165002, x165003, x165004, x165005, x165006, x165007, x165008, x165009, x165010, x165011 => if x11 = true then (spec_IOValid.j1 k x1 x11 x165000 x165001 x165002 x165003 x165004 x165005 x165006 x165007 x165008 x165009 x165010 x165011) else (if x165008 = 0 then (spec_IOValid.j1 k x1 ((Go.bits .and .i64 x1 8) == 0) x165000 x165001 x165002 x165003 x165004 x165005 x165006 x165007 x165008 x165009 x165010 x165011) else (spec_IOValid.j1 k x1 false x165000 x165001 x165002 x165003 x165004 x165005 x165006 x165007 x165008 x165009 x165010 x165011))
def spec_IOValid.j1 : Nat → Int → Bool → Int → Int → Int → Int → Int → Int → Bool → Bool → Int → Int → Int → Int → Option (Bool)
  | 0, _, _, _, _, _, _, _, _, _, _, _, _, _, _ => none
  | k + 1, x1, x11, x165000, x165001, x165002, x165003, x165004, x165005, x165006, x165007, x165008, x165009, x165010, x165011 => if x11 = true then (some false) else (if x165010 = 0 then (some ((Go.bits .and .i64 x1 16) != 0)) else (if x165010 = 3 then (some ((Go.bits .and .i64 x1 32) != 0)) else (some true)))
end
def spec_IOValid.f (k : Nat) (a0_0 : Int) (a0_1 : Int) (a0_2 : Int) (a0_3 : Int) (a0_4 : Int) (a0_5 : Int) (a0_6 : Bool) (a0_7 : Bool) (a0_8 : Int) (a0_9 : Int) (a0_10 : Int) (a0_11 : Int) (a1 : Int) : Option (Bool) := if a0_7 = true then (if a0_6 = true then (spec_IOValid.j0 k a1 ((Go.bits .and .i64 a1 2) == 0) a0_0 a0_1 a0_2 a0_3 a0_4 a0_5 a0_6 a0_7 a0_8 a0_9 a0_10 a0_11) else (spec_IOValid.j0 k a1 false a0_0 a0_1 a0_2 a0_3 a0_4 a0_5 a0_6 a0_7 a0_8 a0_9 a0_10 a0_11)) else (some ((Go.bits .and .i64 a1 4) != 0))
theorem spec_IOValid.mono_l : ∀ k, (∀ y0 y1 y2 y3 y4 y5 y6 y7 y8 y9 y10 y11 y12 y13, LeO (spec_IOValid.j0 k y0 y1 y2 y3 y4 y5 y6 y7 y8 y9 y10 y11 y12 y13) (spec_IOValid.j0 (k + 1) y0 y1 y2 y3 y4 y5 y6 y7 y8 y9 y10 y11 y12 y13)) ∧ (∀ y0 y1 y2 y3 y4 y5 y6 y7 y8 y9 y10 y11 y12 y13, LeO (spec_IOValid.j1 k y0 y1 y2 y3 y4 y5 y6 y7 y8 y9 y10 y11 y12 y13) (spec_IOValid.j1 (k + 1) y0 y1 y2 y3 y4 y5 y6 y7 y8 y9 y10 y11 y12 y13))
  | 0 => ⟨fun _ _ _ _ _ _ _ _ _ _ _ _ _ _ r h => by simp [spec_IOValid.j0] at h, fun _ _ _ _ _ _ _ _ _ _ _ _ _ _ r h => by simp [spec_IOValid.j1] at h⟩
  | k + 1 => by
    obtain ⟨ih0, ih1⟩ := spec_IOValid.mono_l k
    refine ⟨?_, ?_⟩
    · intro y0 y1 y2 y3 y4 y5 y6 y7 y8 y9 y10 y11 y12 y13
      unfold spec_IOValid.j0
      repeat' first
      | (with_reducible exact ih0 _ _ _ _ _ _ _ _ _ _ _ _ _ _)
      | (with_reducible exact ih1 _ _ _ _ _ _ _ _ _ _ _ _ _ _)
      | (with_reducible exact LeO.refl _)
      | (with_reducible exact LeO.none _)
      | (with_reducible refine LeO.ite ?_ ?_)
      | (with_reducible refine LeO.bind ?_ (fun _ => ?_))
      | exact ih0 _ _ _ _ _ _ _ _ _ _ _ _ _ _
      | exact ih1 _ _ _ _ _ _ _ _ _ _ _ _ _ _
      | exact LeO.none _
      | refine LeO.ite ?_ ?_
      | refine LeO.bind ?_ (fun _ => ?_)
    · intro y0 y1 y2 y3 y4 y5 y6 y7 y8 y9 y10 y11 y12 y13
      unfold spec_IOValid.j1
      repeat' first
      | (with_reducible exact ih0 _ _ _ _ _ _ _ _ _ _ _ _ _ _)
      | (with_reducible exact ih1 _ _ _ _ _ _ _ _ _ _ _ _ _ _)
      | (with_reducible exact LeO.refl _)
      | (with_reducible exact LeO.none _)
      | (with_reducible refine LeO.ite ?_ ?_)
      | (with_reducible refine LeO.bind ?_ (fun _ => ?_))
      | exact ih0 _ _ _ _ _ _ _ _ _ _ _ _ _ _
      | exact ih1 _ _ _ _ _ _ _ _ _ _ _ _ _ _
      | exact LeO.none _
      | refine LeO.ite ?_ ?_
      | refine LeO.bind ?_ (fun _ => ?_)
theorem spec_IOValid.mono : ∀ a0 a1 a2 a3 a4 a5 a6 a7 a8 a9 a10 a11 a12 k, LeO (spec_IOValid.f k a0 a1 a2 a3 a4 a5 a6 a7 a8 a9 a10 a11 a12) (spec_IOValid.f (k + 1) a0 a1 a2 a3 a4 a5 a6 a7 a8 a9 a10 a11 a12) := by
  intro a0 a1 a2 a3 a4 a5 a6 a7 a8 a9 a10 a11 a12 k
  obtain ⟨ih0, ih1⟩ := spec_IOValid.mono_l k
  unfold spec_IOValid.f
  repeat' first
      | (with_reducible exact ih0 _ _ _ _ _ _ _ _ _ _ _ _ _ _)
      | (with_reducible exact ih1 _ _ _ _ _ _ _ _ _ _ _ _ _ _)
      | (with_reducible exact LeO.refl _)
      | (with_reducible exact LeO.none _)
      | (with_reducible refine LeO.ite ?_ ?_)
      | (with_reducible refine LeO.bind ?_ (fun _ => ?_))
      | exact ih0 _ _ _ _ _ _ _ _ _ _ _ _ _ _
      | exact ih1 _ _ _ _ _ _ _ _ _ _ _ _ _ _
      | exact LeO.none _
      | refine LeO.ite ?_ ?_
      | refine LeO.bind ?_ (fun _ => ?_)
set_option maxHeartbeats 8000000 in
set_option maxRecDepth 100000 in
theorem spec_IOValid.calls (k : Nat) (a0_0 : Int) (a0_1 : Int) (a0_2 : Int) (a0_3 : Int) (a0_4 : Int) (a0_5 : Int) (a0_6 : Bool) (a0_7 : Bool) (a0_8 : Int) (a0_9 : Int) (a0_10 : Int) (a0_11 : Int) (a1 : Int) (r : Bool) (w : World) (h : spec_IOValid.f k a0_0 a0_1 a0_2 a0_3 a0_4 a0_5 a0_6 a0_7 a0_8 a0_9 a0_10 a0_11 a1 = some r) :
    Calls Try.prog 36 #[.agg #[.int .i64 a0_0, .int .i64 a0_1, .int .i64 a0_2, .int .i64 a0_3, .int .i64 a0_4, .int .i64 a0_5, .bool a0_6, .bool a0_7, .int .i64 a0_8, .int .i64 a0_9, .int .i64 a0_10, .int .i64 a0_11], .int .i64 a1] w fun e w' => e = .returned (.bool r) ∧ Below w.heap.size w w' := by
  have hu50 := Try.underlying50
  have HB := Aside0.mk (Below.refl w.heap.size w)
  have H : (if a0_7 = true then (if a0_6 = true then (spec_IOValid.j0 k a1 ((Go.bits .and .i64 a1 2) == 0) a0_0 a0_1 a0_2 a0_3 a0_4 a0_5 a0_6 a0_7 a0_8 a0_9 a0_10 a0_11) else (spec_IOValid.j0 k a1 false a0_0 a0_1 a0_2 a0_3 a0_4 a0_5 a0_6 a0_7 a0_8 a0_9 a0_10 a0_11)) else (some ((Go.bits .and .i64 a1 4) != 0))) = some r := h
  clear h
  by_cases c3 : a0_7 = true
  · subst c3
    have H1 : (if a0_6 = true then (spec_IOValid.j0 k a1 ((Go.bits .and .i64 a1 2) == 0) a0_0 a0_1 a0_2 a0_3 a0_4 a0_5 a0_6 true a0_8 a0_9 a0_10 a0_11) else (spec_IOValid.j0 k a1 false a0_0 a0_1 a0_2 a0_3 a0_4 a0_5 a0_6 true a0_8 a0_9 a0_10 a0_11)) = some r := by rw [if_pos rfl] at H; exact H
    clear H
    have H := H1
    clear H1
    have HC4 := Aside0.mk H
    clear H
    go_enter Try.func36, Try.ntmps36
    go_upto_region 3 with (first | ((with_reducible refine gate_dst (N := 2) rfl ?_); refine box_event ?hg (N := 2) ?hd (cs := #[.int .i64 a0_0, .int .i64 a0_1, .int .i64 a0_2, .int .i64 a0_3, .int .i64 a0_4, .int .i64 a0_5, .bool a0_6, .bool true, .int .i64 a0_8, .int .i64 a0_9, .int .i64 a0_10, .int .i64 a0_11]) (t := 50) ?hr ?_; (case hd => rfl); (case hg => rfl); (case hr => first | (go_simp; done) | (go_simp; rfl)); intro gb164 hg w5 hbox hb; have n0_ := Aside0.mk (below_step (by repeat (first | (with_reducible first | exact HB.out | apply below_alloc | apply pw_below_drewN | apply below_drew1) | exact HB.out)) hb); have n1_ := Aside0.mk (hbox); have n2_ := Aside0.mk ((by rw [hg]; exact (below_size (by repeat (first | (with_reducible first | exact HB.out | apply below_alloc | apply pw_below_drewN | apply below_drew1) | exact HB.out))) : w.heap.size ≤ gb164)); have n3_ := Aside0.mk ((by rw [hg]; exact (below_size (by repeat (first | (with_reducible first | exact HB.out | apply below_alloc | apply pw_below_drewN | apply below_drew1) | exact HB.out))) : w.heap.size ≤ gb164)); clear HB; have HB := n0_; have BK164 := n1_; have GW164 := n2_; have GE164 := n3_; clear n0_ n1_ n2_ n3_; clear hb hbox hg; have hcz6_0 : w5.cell? ⟨gb164, 0, none⟩ = some (.int .i64 a0_0) := (blk_cell BK164.out 0).trans rfl; have hcz6_1 : w5.cell? ⟨gb164, 1, none⟩ = some (.int .i64 a0_1) := (blk_cell BK164.out 1).trans rfl; have hcz6_2 : w5.cell? ⟨gb164, 2, none⟩ = some (.int .i64 a0_2) := (blk_cell BK164.out 2).trans rfl; have hcz6_3 : w5.cell? ⟨gb164, 3, none⟩ = some (.int .i64 a0_3) := (blk_cell BK164.out 3).trans rfl; have hcz6_4 : w5.cell? ⟨gb164, 4, none⟩ = some (.int .i64 a0_4) := (blk_cell BK164.out 4).trans rfl; have hcz6_5 : w5.cell? ⟨gb164, 5, none⟩ = some (.int .i64 a0_5) := (blk_cell BK164.out 5).trans rfl; have hcz6_6 : w5.cell? ⟨gb164, 6, none⟩ = some (.bool a0_6) := (blk_cell BK164.out 6).trans rfl; have hcz6_7 : w5.cell? ⟨gb164, 7, none⟩ = some (.bool true) := (blk_cell BK164.out 7).trans rfl; have hcz6_8 : w5.cell? ⟨gb164, 8, none⟩ = some (.int .i64 a0_8) := (blk_cell BK164.out 8).trans rfl; have hcz6_9 : w5.cell? ⟨gb164, 9, none⟩ = some (.int .i64 a0_9) := (blk_cell BK164.out 9).trans rfl; have hcz6_10 : w5.cell? ⟨gb164, 10, none⟩ = some (.int .i64 a0_10) := (blk_cell BK164.out 10).trans rfl; have hcz6_11 : w5.cell? ⟨gb164, 11, none⟩ = some (.int .i64 a0_11) := (blk_cell BK164.out 11).trans rfl; have hfz6_0 := blk_frozen BK164.out 0; have hfz6_1 := blk_frozen BK164.out 1; have hfz6_2 := blk_frozen BK164.out 2; have hfz6_3 := blk_frozen BK164.out 3; have hfz6_4 := blk_frozen BK164.out 4; have hfz6_5 := blk_frozen BK164.out 5; have hfz6_6 := blk_frozen BK164.out 6; have hfz6_7 := blk_frozen BK164.out 7; have hfz6_8 := blk_frozen BK164.out 8; have hfz6_9 := blk_frozen BK164.out 9; have hfz6_10 := blk_frozen BK164.out 10; have hfz6_11 := blk_frozen BK164.out 11))
    (try simp only [Act.put, List.setIfInBounds_toArray, List.set_cons_zero, List.set_cons_succ])
    go_cut [11] (fun v11 wc => ∃ (kq : Nat) (x11_3 : Bool), v11 = .bool x11_3 ∧ Aside0 (spec_IOValid.j0 kq a1 x11_3 a0_0 a0_1 a0_2 a0_3 a0_4 a0_5 a0_6 true a0_8 a0_9 a0_10 a0_11 = some r) ∧ Aside0 (kq ≤ k) ∧ Aside0 (wc.heap[gb164]? = some (.cells #[.int .i64 a0_0, .int .i64 a0_1, .int .i64 a0_2, .int .i64 a0_3, .int .i64 a0_4, .int .i64 a0_5, .bool a0_6, .bool true, .int .i64 a0_8, .int .i64 a0_9, .int .i64 a0_10, .int .i64 a0_11] 50 (0, 0))) ∧ Aside0 (Below w.heap.size w wc))
    case first =>
      have H := HC4.out
      clear HC4
      by_cases c7 : a0_6 = true
      · subst c7
        have H1 : (spec_IOValid.j0 k a1 ((Go.bits .and .i64 a1 2) == 0) a0_0 a0_1 a0_2 a0_3 a0_4 a0_5 true true a0_8 a0_9 a0_10 a0_11) = some r := by rw [if_pos rfl] at H; exact H
        clear H
        have H := H1
        clear H1
        have H' := Aside0.mk H
        clear H
        have hcz8_0 : w5.cell? ⟨gb164, 0, none⟩ = some (.int .i64 a0_0) := (blk_cell BK164.out 0).trans rfl
        have hcz8_1 : w5.cell? ⟨gb164, 1, none⟩ = some (.int .i64 a0_1) := (blk_cell BK164.out 1).trans rfl
        have hcz8_2 : w5.cell? ⟨gb164, 2, none⟩ = some (.int .i64 a0_2) := (blk_cell BK164.out 2).trans rfl
        have hcz8_3 : w5.cell? ⟨gb164, 3, none⟩ = some (.int .i64 a0_3) := (blk_cell BK164.out 3).trans rfl
        have hcz8_4 : w5.cell? ⟨gb164, 4, none⟩ = some (.int .i64 a0_4) := (blk_cell BK164.out 4).trans rfl
        have hcz8_5 : w5.cell? ⟨gb164, 5, none⟩ = some (.int .i64 a0_5) := (blk_cell BK164.out 5).trans rfl
        have hcz8_6 : w5.cell? ⟨gb164, 6, none⟩ = some (.bool true) := (blk_cell BK164.out 6).trans rfl
        have hcz8_7 : w5.cell? ⟨gb164, 7, none⟩ = some (.bool true) := (blk_cell BK164.out 7).trans rfl
        have hcz8_8 : w5.cell? ⟨gb164, 8, none⟩ = some (.int .i64 a0_8) := (blk_cell BK164.out 8).trans rfl
        have hcz8_9 : w5.cell? ⟨gb164, 9, none⟩ = some (.int .i64 a0_9) := (blk_cell BK164.out 9).trans rfl
        have hcz8_10 : w5.cell? ⟨gb164, 10, none⟩ = some (.int .i64 a0_10) := (blk_cell BK164.out 10).trans rfl
        have hcz8_11 : w5.cell? ⟨gb164, 11, none⟩ = some (.int .i64 a0_11) := (blk_cell BK164.out 11).trans rfl
        have hfz8_0 := blk_frozen BK164.out 0
        have hfz8_1 := blk_frozen BK164.out 1
        have hfz8_2 := blk_frozen BK164.out 2
        have hfz8_3 := blk_frozen BK164.out 3
        have hfz8_4 := blk_frozen BK164.out 4
        have hfz8_5 := blk_frozen BK164.out 5
        have hfz8_6 := blk_frozen BK164.out 6
        have hfz8_7 := blk_frozen BK164.out 7
        have hfz8_8 := blk_frozen BK164.out 8
        have hfz8_9 := blk_frozen BK164.out 9
        have hfz8_10 := blk_frozen BK164.out 10
        have hfz8_11 := blk_frozen BK164.out 11
        go_wp2
        go_meet
        case rel => exact ⟨_, (((Go.bits .and .i64 a1 2) == 0)), (by first | rfl | (simp; done) | (simp [*]; done)), H', ⟨by first | omega | exact Nat.le_refl _⟩, ⟨by (with_reducible repeat (first | refine blk_drewN ?_ _ | refine blk_drew ?_ | refine blk_alloc ?_ _)); exact BK164.out⟩, ⟨by repeat (first | (with_reducible first | exact HB.out | apply below_alloc | apply pw_below_drewN | apply below_drew1 | refine below_set ?_ GE164.out) | exact HB.out)⟩⟩
      · replace c7 := Bool.eq_false_iff.mpr c7
        subst c7
        have H1 : (spec_IOValid.j0 k a1 false a0_0 a0_1 a0_2 a0_3 a0_4 a0_5 false true a0_8 a0_9 a0_10 a0_11) = some r := by rw [if_neg (show ¬ (false = true) by decide)] at H; exact H
        clear H
        have H := H1
        clear H1
        have H' := Aside0.mk H
        clear H
        have hcz9_0 : w5.cell? ⟨gb164, 0, none⟩ = some (.int .i64 a0_0) := (blk_cell BK164.out 0).trans rfl
        have hcz9_1 : w5.cell? ⟨gb164, 1, none⟩ = some (.int .i64 a0_1) := (blk_cell BK164.out 1).trans rfl
        have hcz9_2 : w5.cell? ⟨gb164, 2, none⟩ = some (.int .i64 a0_2) := (blk_cell BK164.out 2).trans rfl
        have hcz9_3 : w5.cell? ⟨gb164, 3, none⟩ = some (.int .i64 a0_3) := (blk_cell BK164.out 3).trans rfl
        have hcz9_4 : w5.cell? ⟨gb164, 4, none⟩ = some (.int .i64 a0_4) := (blk_cell BK164.out 4).trans rfl
        have hcz9_5 : w5.cell? ⟨gb164, 5, none⟩ = some (.int .i64 a0_5) := (blk_cell BK164.out 5).trans rfl
        have hcz9_6 : w5.cell? ⟨gb164, 6, none⟩ = some (.bool false) := (blk_cell BK164.out 6).trans rfl
        have hcz9_7 : w5.cell? ⟨gb164, 7, none⟩ = some (.bool true) := (blk_cell BK164.out 7).trans rfl
        have hcz9_8 : w5.cell? ⟨gb164, 8, none⟩ = some (.int .i64 a0_8) := (blk_cell BK164.out 8).trans rfl
        have hcz9_9 : w5.cell? ⟨gb164, 9, none⟩ = some (.int .i64 a0_9) := (blk_cell BK164.out 9).trans rfl
        have hcz9_10 : w5.cell? ⟨gb164, 10, none⟩ = some (.int .i64 a0_10) := (blk_cell BK164.out 10).trans rfl
        have hcz9_11 : w5.cell? ⟨gb164, 11, none⟩ = some (.int .i64 a0_11) := (blk_cell BK164.out 11).trans rfl
        have hfz9_0 := blk_frozen BK164.out 0
        have hfz9_1 := blk_frozen BK164.out 1
        have hfz9_2 := blk_frozen BK164.out 2
        have hfz9_3 := blk_frozen BK164.out 3
        have hfz9_4 := blk_frozen BK164.out 4
        have hfz9_5 := blk_frozen BK164.out 5
        have hfz9_6 := blk_frozen BK164.out 6
        have hfz9_7 := blk_frozen BK164.out 7
        have hfz9_8 := blk_frozen BK164.out 8
        have hfz9_9 := blk_frozen BK164.out 9
        have hfz9_10 := blk_frozen BK164.out 10
        have hfz9_11 := blk_frozen BK164.out 11
        go_wp2
        go_meet
        case rel => exact ⟨_, (false), (by first | rfl | (simp; done) | (simp [*]; done)), H', ⟨by first | omega | exact Nat.le_refl _⟩, ⟨by (with_reducible repeat (first | refine blk_drewN ?_ _ | refine blk_drew ?_ | refine blk_alloc ?_ _)); exact BK164.out⟩, ⟨by repeat (first | (with_reducible first | exact HB.out | apply below_alloc | apply pw_below_drewN | apply below_drew1 | refine below_set ?_ GE164.out) | exact HB.out)⟩⟩
    case rest =>
      clear HC4
      try clear p2
      try clear c3
      try clear c7
      try clear hcz6_0
      try clear hcz6_1
      try clear hcz6_10
      try clear hcz6_11
      try clear hcz6_2
      try clear hcz6_3
      try clear hcz6_4
      try clear hcz6_5
      try clear hcz6_6
      try clear hcz6_7
      try clear hcz6_8
      try clear hcz6_9
      try clear hcz8_0
      try clear hcz8_1
      try clear hcz8_10
      try clear hcz8_11
      try clear hcz8_2
      try clear hcz8_3
      try clear hcz8_4
      try clear hcz8_5
      try clear hcz8_6
      try clear hcz8_7
      try clear hcz8_8
      try clear hcz8_9
      try clear hcz9_0
      try clear hcz9_1
      try clear hcz9_10
      try clear hcz9_11
      try clear hcz9_2
      try clear hcz9_3
      try clear hcz9_4
      try clear hcz9_5
      try clear hcz9_6
      try clear hcz9_7
      try clear hcz9_8
      try clear hcz9_9
      try clear hfz6_0
      try clear hfz6_1
      try clear hfz6_10
      try clear hfz6_11
      try clear hfz6_2
      try clear hfz6_3
      try clear hfz6_4
      try clear hfz6_5
      try clear hfz6_6
      try clear hfz6_7
      try clear hfz6_8
      try clear hfz6_9
      try clear hfz8_0
      try clear hfz8_1
      try clear hfz8_10
      try clear hfz8_11
      try clear hfz8_2
      try clear hfz8_3
      try clear hfz8_4
      try clear hfz8_5
      try clear hfz8_6
      try clear hfz8_7
      try clear hfz8_8
      try clear hfz8_9
      try clear hfz9_0
      try clear hfz9_1
      try clear hfz9_10
      try clear hfz9_11
      try clear hfz9_2
      try clear hfz9_3
      try clear hfz9_4
      try clear hfz9_5
      try clear hfz9_6
      try clear hfz9_7
      try clear hfz9_8
      try clear hfz9_9
      obtain ⟨kq, x11_3, rfl, HA, HJ3, BK164, HB⟩ := hcut
      cases kq with
      | zero => exact absurd HA.out (by simp [spec_IOValid.j0])
      | succ kj3 =>
        have H := HA.out
        clear HA
        simp only [spec_IOValid.j0] at H
        have HC10 := Aside0.mk H
        clear H
        go_upto_if 11 with (fail)
        go_cut [11] (fun v11 wc => ∃ (kq : Nat) (x11_9 : Bool), v11 = .bool x11_9 ∧ Aside0 (spec_IOValid.j1 kq a1 x11_9 a0_0 a0_1 a0_2 a0_3 a0_4 a0_5 a0_6 true a0_8 a0_9 a0_10 a0_11 = some r) ∧ Aside0 (kq ≤ kj3) ∧ Aside0 (wc.heap[gb164]? = some (.cells #[.int .i64 a0_0, .int .i64 a0_1, .int .i64 a0_2, .int .i64 a0_3, .int .i64 a0_4, .int .i64 a0_5, .bool a0_6, .bool true, .int .i64 a0_8, .int .i64 a0_9, .int .i64 a0_10, .int .i64 a0_11] 50 (0, 0))) ∧ Aside0 (Below w.heap.size w wc))
        case first =>
          have H := HC10.out
          clear HC10
          by_cases c11 : x11_3 = true
          · subst c11
            have H1 : (spec_IOValid.j1 kj3 a1 true a0_0 a0_1 a0_2 a0_3 a0_4 a0_5 a0_6 true a0_8 a0_9 a0_10 a0_11) = some r := by rw [if_pos rfl] at H; exact H
            clear H
            have H := H1
            clear H1
            have H' := Aside0.mk H
            clear H
            go_wp2
            go_meet
            case rel => exact ⟨_, (true), (by first | rfl | (simp; done) | (simp [*]; done)), H', ⟨by have := HJ3.out; first | omega | exact Nat.le_refl _⟩, ⟨by (with_reducible repeat (first | refine blk_drewN ?_ _ | refine blk_drew ?_ | refine blk_alloc ?_ _)); exact BK164.out⟩, ⟨by repeat (first | (with_reducible first | exact HB.out | apply below_alloc | apply pw_below_drewN | apply below_drew1 | refine below_set ?_ GE164.out) | exact HB.out)⟩⟩
          · replace c11 := Bool.eq_false_iff.mpr c11
            subst c11
            have H1 : (if a0_8 = 0 then (spec_IOValid.j1 kj3 a1 ((Go.bits .and .i64 a1 8) == 0) a0_0 a0_1 a0_2 a0_3 a0_4 a0_5 a0_6 true a0_8 a0_9 a0_10 a0_11) else (spec_IOValid.j1 kj3 a1 false a0_0 a0_1 a0_2 a0_3 a0_4 a0_5 a0_6 true a0_8 a0_9 a0_10 a0_11)) = some r := by rw [if_neg (show ¬ (false = true) by decide)] at H; exact H
            clear H
            have H := H1
            clear H1
            by_cases c12 : a0_8 = 0
            · rw [if_pos c12] at H
              have c12b0 : (a0_8 == 0) = true := beq_iff_eq.mpr c12
              have c12b1 : (a0_8 != 0) = false := bne_eq_false_iff_eq.mpr c12
              clear c12
              (first | rw [c12b0] | (simp only [i64_w, i32_w]; rw [c12b0]) | skip)
              have H' := Aside0.mk H
              clear H
              have hcz13_0 : wc.cell? ⟨gb164, 0, none⟩ = some (.int .i64 a0_0) := (blk_cell BK164.out 0).trans rfl
              have hcz13_1 : wc.cell? ⟨gb164, 1, none⟩ = some (.int .i64 a0_1) := (blk_cell BK164.out 1).trans rfl
              have hcz13_2 : wc.cell? ⟨gb164, 2, none⟩ = some (.int .i64 a0_2) := (blk_cell BK164.out 2).trans rfl
              have hcz13_3 : wc.cell? ⟨gb164, 3, none⟩ = some (.int .i64 a0_3) := (blk_cell BK164.out 3).trans rfl
              have hcz13_4 : wc.cell? ⟨gb164, 4, none⟩ = some (.int .i64 a0_4) := (blk_cell BK164.out 4).trans rfl
              have hcz13_5 : wc.cell? ⟨gb164, 5, none⟩ = some (.int .i64 a0_5) := (blk_cell BK164.out 5).trans rfl
              have hcz13_6 : wc.cell? ⟨gb164, 6, none⟩ = some (.bool a0_6) := (blk_cell BK164.out 6).trans rfl
              have hcz13_7 : wc.cell? ⟨gb164, 7, none⟩ = some (.bool true) := (blk_cell BK164.out 7).trans rfl
              have hcz13_8 : wc.cell? ⟨gb164, 8, none⟩ = some (.int .i64 a0_8) := (blk_cell BK164.out 8).trans rfl
              have hcz13_9 : wc.cell? ⟨gb164, 9, none⟩ = some (.int .i64 a0_9) := (blk_cell BK164.out 9).trans rfl
              have hcz13_10 : wc.cell? ⟨gb164, 10, none⟩ = some (.int .i64 a0_10) := (blk_cell BK164.out 10).trans rfl
              have hcz13_11 : wc.cell? ⟨gb164, 11, none⟩ = some (.int .i64 a0_11) := (blk_cell BK164.out 11).trans rfl
              have hfz13_0 := blk_frozen BK164.out 0
              have hfz13_1 := blk_frozen BK164.out 1
              have hfz13_2 := blk_frozen BK164.out 2
              have hfz13_3 := blk_frozen BK164.out 3
              have hfz13_4 := blk_frozen BK164.out 4
              have hfz13_5 := blk_frozen BK164.out 5
              have hfz13_6 := blk_frozen BK164.out 6
              have hfz13_7 := blk_frozen BK164.out 7
              have hfz13_8 := blk_frozen BK164.out 8
              have hfz13_9 := blk_frozen BK164.out 9
              have hfz13_10 := blk_frozen BK164.out 10
              have hfz13_11 := blk_frozen BK164.out 11
              go_wp2
              go_meet
              case rel => exact ⟨_, (((Go.bits .and .i64 a1 8) == 0)), (by first | rfl | (simp; done) | (simp [*]; done)), H', ⟨by have := HJ3.out; first | omega | exact Nat.le_refl _⟩, ⟨by (with_reducible repeat (first | refine blk_drewN ?_ _ | refine blk_drew ?_ | refine blk_alloc ?_ _)); exact BK164.out⟩, ⟨by repeat (first | (with_reducible first | exact HB.out | apply below_alloc | apply pw_below_drewN | apply below_drew1 | refine below_set ?_ GE164.out) | exact HB.out)⟩⟩
            · rw [if_neg c12] at H
              have c12b0 : (a0_8 == 0) = false := beq_eq_false_iff_ne.mpr c12
              have c12b1 : (a0_8 != 0) = true := bne_iff_ne.mpr c12
              (first | rw [c12b0] | (simp only [i64_w, i32_w]; rw [c12b0]) | skip)
              have H' := Aside0.mk H
              clear H
              have hcz14_0 : wc.cell? ⟨gb164, 0, none⟩ = some (.int .i64 a0_0) := (blk_cell BK164.out 0).trans rfl
              have hcz14_1 : wc.cell? ⟨gb164, 1, none⟩ = some (.int .i64 a0_1) := (blk_cell BK164.out 1).trans rfl
              have hcz14_2 : wc.cell? ⟨gb164, 2, none⟩ = some (.int .i64 a0_2) := (blk_cell BK164.out 2).trans rfl
              have hcz14_3 : wc.cell? ⟨gb164, 3, none⟩ = some (.int .i64 a0_3) := (blk_cell BK164.out 3).trans rfl
              have hcz14_4 : wc.cell? ⟨gb164, 4, none⟩ = some (.int .i64 a0_4) := (blk_cell BK164.out 4).trans rfl
              have hcz14_5 : wc.cell? ⟨gb164, 5, none⟩ = some (.int .i64 a0_5) := (blk_cell BK164.out 5).trans rfl
              have hcz14_6 : wc.cell? ⟨gb164, 6, none⟩ = some (.bool a0_6) := (blk_cell BK164.out 6).trans rfl
              have hcz14_7 : wc.cell? ⟨gb164, 7, none⟩ = some (.bool true) := (blk_cell BK164.out 7).trans rfl
              have hcz14_8 : wc.cell? ⟨gb164, 8, none⟩ = some (.int .i64 a0_8) := (blk_cell BK164.out 8).trans rfl
              have hcz14_9 : wc.cell? ⟨gb164, 9, none⟩ = some (.int .i64 a0_9) := (blk_cell BK164.out 9).trans rfl
              have hcz14_10 : wc.cell? ⟨gb164, 10, none⟩ = some (.int .i64 a0_10) := (blk_cell BK164.out 10).trans rfl
              have hcz14_11 : wc.cell? ⟨gb164, 11, none⟩ = some (.int .i64 a0_11) := (blk_cell BK164.out 11).trans rfl
              have hfz14_0 := blk_frozen BK164.out 0
              have hfz14_1 := blk_frozen BK164.out 1
              have hfz14_2 := blk_frozen BK164.out 2
              have hfz14_3 := blk_frozen BK164.out 3
              have hfz14_4 := blk_frozen BK164.out 4
              have hfz14_5 := blk_frozen BK164.out 5
              have hfz14_6 := blk_frozen BK164.out 6
              have hfz14_7 := blk_frozen BK164.out 7
              have hfz14_8 := blk_frozen BK164.out 8
              have hfz14_9 := blk_frozen BK164.out 9
              have hfz14_10 := blk_frozen BK164.out 10
              have hfz14_11 := blk_frozen BK164.out 11
              go_wp2
              go_meet
              case rel => exact ⟨_, (false), (by first | rfl | (simp; done) | (simp [*]; done)), H', ⟨by have := HJ3.out; first | omega | exact Nat.le_refl _⟩, ⟨by (with_reducible repeat (first | refine blk_drewN ?_ _ | refine blk_drew ?_ | refine blk_alloc ?_ _)); exact BK164.out⟩, ⟨by repeat (first | (with_reducible first | exact HB.out | apply below_alloc | apply pw_below_drewN | apply below_drew1 | refine below_set ?_ GE164.out) | exact HB.out)⟩⟩
        case rest =>
          clear HC10
          try clear c1
          try clear p2
          try clear c3
          try clear c7
          try clear c11
          try clear c12
          try clear c12b0
          try clear c12b1
          try clear hcz13_0
          try clear hcz13_1
          try clear hcz13_10
          try clear hcz13_11
          try clear hcz13_2
          try clear hcz13_3
          try clear hcz13_4
          try clear hcz13_5
          try clear hcz13_6
          try clear hcz13_7
          try clear hcz13_8
          try clear hcz13_9
          try clear hcz14_0
          try clear hcz14_1
          try clear hcz14_10
          try clear hcz14_11
          try clear hcz14_2
          try clear hcz14_3
          try clear hcz14_4
          try clear hcz14_5
          try clear hcz14_6
          try clear hcz14_7
          try clear hcz14_8
          try clear hcz14_9
          try clear hcz6_0
          try clear hcz6_1
          try clear hcz6_10
          try clear hcz6_11
          try clear hcz6_2
          try clear hcz6_3
          try clear hcz6_4
          try clear hcz6_5
          try clear hcz6_6
          try clear hcz6_7
          try clear hcz6_8
          try clear hcz6_9
          try clear hcz8_0
          try clear hcz8_1
          try clear hcz8_10
          try clear hcz8_11
          try clear hcz8_2
          try clear hcz8_3
          try clear hcz8_4
          try clear hcz8_5
          try clear hcz8_6
          try clear hcz8_7
          try clear hcz8_8
          try clear hcz8_9
          try clear hcz9_0
          try clear hcz9_1
          try clear hcz9_10
          try clear hcz9_11
          try clear hcz9_2
          try clear hcz9_3
          try clear hcz9_4
          try clear hcz9_5
          try clear hcz9_6
          try clear hcz9_7
          try clear hcz9_8
          try clear hcz9_9
          try clear hfz13_0
          try clear hfz13_1
          try clear hfz13_10
          try clear hfz13_11
          try clear hfz13_2
          try clear hfz13_3
          try clear hfz13_4
          try clear hfz13_5
          try clear hfz13_6
          try clear hfz13_7
          try clear hfz13_8
          try clear hfz13_9
          try clear hfz14_0
          try clear hfz14_1
          try clear hfz14_10
          try clear hfz14_11
          try clear hfz14_2
          try clear hfz14_3
          try clear hfz14_4
          try clear hfz14_5
          try clear hfz14_6
          try clear hfz14_7
          try clear hfz14_8
          try clear hfz14_9
          try clear hfz6_0
          try clear hfz6_1
          try clear hfz6_10
          try clear hfz6_11
          try clear hfz6_2
          try clear hfz6_3
          try clear hfz6_4
          try clear hfz6_5
          try clear hfz6_6
          try clear hfz6_7
          try clear hfz6_8
          try clear hfz6_9
          try clear hfz8_0
          try clear hfz8_1
          try clear hfz8_10
          try clear hfz8_11
          try clear hfz8_2
          try clear hfz8_3
          try clear hfz8_4
          try clear hfz8_5
          try clear hfz8_6
          try clear hfz8_7
          try clear hfz8_8
          try clear hfz8_9
          try clear hfz9_0
          try clear hfz9_1
          try clear hfz9_10
          try clear hfz9_11
          try clear hfz9_2
          try clear hfz9_3
          try clear hfz9_4
          try clear hfz9_5
          try clear hfz9_6
          try clear hfz9_7
          try clear hfz9_8
          try clear hfz9_9
          try clear p2
          obtain ⟨kq, x11_9, rfl, HA, HJ9, BK164, HB⟩ := hcut
          cases kq with
          | zero => exact absurd HA.out (by simp [spec_IOValid.j1])
          | succ kj9 =>
            have H := HA.out
            clear HA
            simp only [spec_IOValid.j1] at H
            by_cases c15 : x11_9 = true
            · subst c15
              have H1 : (some false) = some r := by rw [if_pos rfl] at H; exact H
              clear H
              have H := H1
              clear H1
              obtain rfl := Option.some.inj H
              go_wp2
              go_ret
              exact ⟨by first | rfl | (simp [errW_none, errW_some] <;> rfl) | (simp [*, errW_none, errW_some] <;> rfl), by repeat (first | (with_reducible first | exact HB.out | apply below_alloc | apply pw_below_drewN | apply below_drew1 | refine below_set ?_ GE164.out) | exact HB.out)⟩
            · replace c15 := Bool.eq_false_iff.mpr c15
              subst c15
              have H1 : (if a0_10 = 0 then (some ((Go.bits .and .i64 a1 16) != 0)) else (if a0_10 = 3 then (some ((Go.bits .and .i64 a1 32) != 0)) else (some true))) = some r := by rw [if_neg (show ¬ (false = true) by decide)] at H; exact H
              clear H
              have H := H1
              clear H1
              by_cases c16 : a0_10 = 0
              · rw [if_pos c16] at H
                have c16b0 : (a0_10 == 0) = true := beq_iff_eq.mpr c16
                have c16b1 : (a0_10 != 0) = false := bne_eq_false_iff_eq.mpr c16
                clear c16
                obtain rfl := Option.some.inj H
                have hcz17_0 : wc.cell? ⟨gb164, 0, none⟩ = some (.int .i64 a0_0) := (blk_cell BK164.out 0).trans rfl
                have hcz17_1 : wc.cell? ⟨gb164, 1, none⟩ = some (.int .i64 a0_1) := (blk_cell BK164.out 1).trans rfl
                have hcz17_2 : wc.cell? ⟨gb164, 2, none⟩ = some (.int .i64 a0_2) := (blk_cell BK164.out 2).trans rfl
                have hcz17_3 : wc.cell? ⟨gb164, 3, none⟩ = some (.int .i64 a0_3) := (blk_cell BK164.out 3).trans rfl
                have hcz17_4 : wc.cell? ⟨gb164, 4, none⟩ = some (.int .i64 a0_4) := (blk_cell BK164.out 4).trans rfl
                have hcz17_5 : wc.cell? ⟨gb164, 5, none⟩ = some (.int .i64 a0_5) := (blk_cell BK164.out 5).trans rfl
                have hcz17_6 : wc.cell? ⟨gb164, 6, none⟩ = some (.bool a0_6) := (blk_cell BK164.out 6).trans rfl
                have hcz17_7 : wc.cell? ⟨gb164, 7, none⟩ = some (.bool true) := (blk_cell BK164.out 7).trans rfl
                have hcz17_8 : wc.cell? ⟨gb164, 8, none⟩ = some (.int .i64 a0_8) := (blk_cell BK164.out 8).trans rfl
                have hcz17_9 : wc.cell? ⟨gb164, 9, none⟩ = some (.int .i64 a0_9) := (blk_cell BK164.out 9).trans rfl
                have hcz17_10 : wc.cell? ⟨gb164, 10, none⟩ = some (.int .i64 a0_10) := (blk_cell BK164.out 10).trans rfl
                have hcz17_11 : wc.cell? ⟨gb164, 11, none⟩ = some (.int .i64 a0_11) := (blk_cell BK164.out 11).trans rfl
                have hfz17_0 := blk_frozen BK164.out 0
                have hfz17_1 := blk_frozen BK164.out 1
                have hfz17_2 := blk_frozen BK164.out 2
                have hfz17_3 := blk_frozen BK164.out 3
                have hfz17_4 := blk_frozen BK164.out 4
                have hfz17_5 := blk_frozen BK164.out 5
                have hfz17_6 := blk_frozen BK164.out 6
                have hfz17_7 := blk_frozen BK164.out 7
                have hfz17_8 := blk_frozen BK164.out 8
                have hfz17_9 := blk_frozen BK164.out 9
                have hfz17_10 := blk_frozen BK164.out 10
                have hfz17_11 := blk_frozen BK164.out 11
                go_wp2
                go_ret
                exact ⟨by first | rfl | (simp [errW_none, errW_some] <;> rfl) | (simp [*, errW_none, errW_some] <;> rfl), by repeat (first | (with_reducible first | exact HB.out | apply below_alloc | apply pw_below_drewN | apply below_drew1 | refine below_set ?_ GE164.out) | exact HB.out)⟩
              · rw [if_neg c16] at H
                have c16b0 : (a0_10 == 0) = false := beq_eq_false_iff_ne.mpr c16
                have c16b1 : (a0_10 != 0) = true := bne_iff_ne.mpr c16
                by_cases c18 : a0_10 = 3
                · rw [if_pos c18] at H
                  have c18b0 : (a0_10 == 3) = true := beq_iff_eq.mpr c18
                  have c18b1 : (a0_10 != 3) = false := bne_eq_false_iff_eq.mpr c18
                  clear c18
                  obtain rfl := Option.some.inj H
                  have hcz19_0 : wc.cell? ⟨gb164, 0, none⟩ = some (.int .i64 a0_0) := (blk_cell BK164.out 0).trans rfl
                  have hcz19_1 : wc.cell? ⟨gb164, 1, none⟩ = some (.int .i64 a0_1) := (blk_cell BK164.out 1).trans rfl
                  have hcz19_2 : wc.cell? ⟨gb164, 2, none⟩ = some (.int .i64 a0_2) := (blk_cell BK164.out 2).trans rfl
                  have hcz19_3 : wc.cell? ⟨gb164, 3, none⟩ = some (.int .i64 a0_3) := (blk_cell BK164.out 3).trans rfl
                  have hcz19_4 : wc.cell? ⟨gb164, 4, none⟩ = some (.int .i64 a0_4) := (blk_cell BK164.out 4).trans rfl
                  have hcz19_5 : wc.cell? ⟨gb164, 5, none⟩ = some (.int .i64 a0_5) := (blk_cell BK164.out 5).trans rfl
                  have hcz19_6 : wc.cell? ⟨gb164, 6, none⟩ = some (.bool a0_6) := (blk_cell BK164.out 6).trans rfl
                  have hcz19_7 : wc.cell? ⟨gb164, 7, none⟩ = some (.bool true) := (blk_cell BK164.out 7).trans rfl
                  have hcz19_8 : wc.cell? ⟨gb164, 8, none⟩ = some (.int .i64 a0_8) := (blk_cell BK164.out 8).trans rfl
                  have hcz19_9 : wc.cell? ⟨gb164, 9, none⟩ = some (.int .i64 a0_9) := (blk_cell BK164.out 9).trans rfl
                  have hcz19_10 : wc.cell? ⟨gb164, 10, none⟩ = some (.int .i64 a0_10) := (blk_cell BK164.out 10).trans rfl
                  have hcz19_11 : wc.cell? ⟨gb164, 11, none⟩ = some (.int .i64 a0_11) := (blk_cell BK164.out 11).trans rfl
                  have hfz19_0 := blk_frozen BK164.out 0
                  have hfz19_1 := blk_frozen BK164.out 1
                  have hfz19_2 := blk_frozen BK164.out 2
                  have hfz19_3 := blk_frozen BK164.out 3
                  have hfz19_4 := blk_frozen BK164.out 4
                  have hfz19_5 := blk_frozen BK164.out 5
                  have hfz19_6 := blk_frozen BK164.out 6
                  have hfz19_7 := blk_frozen BK164.out 7
                  have hfz19_8 := blk_frozen BK164.out 8
                  have hfz19_9 := blk_frozen BK164.out 9
                  have hfz19_10 := blk_frozen BK164.out 10
                  have hfz19_11 := blk_frozen BK164.out 11
                  go_wp2
                  go_ret
                  exact ⟨by first | rfl | (simp [errW_none, errW_some] <;> rfl) | (simp [*, errW_none, errW_some] <;> rfl), by repeat (first | (with_reducible first | exact HB.out | apply below_alloc | apply pw_below_drewN | apply below_drew1 | refine below_set ?_ GE164.out) | exact HB.out)⟩
                · rw [if_neg c18] at H
                  have c18b0 : (a0_10 == 3) = false := beq_eq_false_iff_ne.mpr c18
                  have c18b1 : (a0_10 != 3) = true := bne_iff_ne.mpr c18
                  obtain rfl := Option.some.inj H
                  have hcz20_0 : wc.cell? ⟨gb164, 0, none⟩ = some (.int .i64 a0_0) := (blk_cell BK164.out 0).trans rfl
                  have hcz20_1 : wc.cell? ⟨gb164, 1, none⟩ = some (.int .i64 a0_1) := (blk_cell BK164.out 1).trans rfl
                  have hcz20_2 : wc.cell? ⟨gb164, 2, none⟩ = some (.int .i64 a0_2) := (blk_cell BK164.out 2).trans rfl
                  have hcz20_3 : wc.cell? ⟨gb164, 3, none⟩ = some (.int .i64 a0_3) := (blk_cell BK164.out 3).trans rfl
                  have hcz20_4 : wc.cell? ⟨gb164, 4, none⟩ = some (.int .i64 a0_4) := (blk_cell BK164.out 4).trans rfl
                  have hcz20_5 : wc.cell? ⟨gb164, 5, none⟩ = some (.int .i64 a0_5) := (blk_cell BK164.out 5).trans rfl
                  have hcz20_6 : wc.cell? ⟨gb164, 6, none⟩ = some (.bool a0_6) := (blk_cell BK164.out 6).trans rfl
                  have hcz20_7 : wc.cell? ⟨gb164, 7, none⟩ = some (.bool true) := (blk_cell BK164.out 7).trans rfl
                  have hcz20_8 : wc.cell? ⟨gb164, 8, none⟩ = some (.int .i64 a0_8) := (blk_cell BK164.out 8).trans rfl
                  have hcz20_9 : wc.cell? ⟨gb164, 9, none⟩ = some (.int .i64 a0_9) := (blk_cell BK164.out 9).trans rfl
                  have hcz20_10 : wc.cell? ⟨gb164, 10, none⟩ = some (.int .i64 a0_10) := (blk_cell BK164.out 10).trans rfl
                  have hcz20_11 : wc.cell? ⟨gb164, 11, none⟩ = some (.int .i64 a0_11) := (blk_cell BK164.out 11).trans rfl
                  have hfz20_0 := blk_frozen BK164.out 0
                  have hfz20_1 := blk_frozen BK164.out 1
                  have hfz20_2 := blk_frozen BK164.out 2
                  have hfz20_3 := blk_frozen BK164.out 3
                  have hfz20_4 := blk_frozen BK164.out 4
                  have hfz20_5 := blk_frozen BK164.out 5
                  have hfz20_6 := blk_frozen BK164.out 6
                  have hfz20_7 := blk_frozen BK164.out 7
                  have hfz20_8 := blk_frozen BK164.out 8
                  have hfz20_9 := blk_frozen BK164.out 9
                  have hfz20_10 := blk_frozen BK164.out 10
                  have hfz20_11 := blk_frozen BK164.out 11
                  go_wp2
                  go_ret
                  exact ⟨by first | rfl | (simp [errW_none, errW_some] <;> rfl) | (simp [*, errW_none, errW_some] <;> rfl), by repeat (first | (with_reducible first | exact HB.out | apply below_alloc | apply pw_below_drewN | apply below_drew1 | refine below_set ?_ GE164.out) | exact HB.out)⟩
  · replace c3 := Bool.eq_false_iff.mpr c3
    subst c3
    have H1 : (some ((Go.bits .and .i64 a1 4) != 0)) = some r := by rw [if_neg (show ¬ (false = true) by decide)] at H; exact H
    clear H
    have H := H1
    clear H1
    obtain rfl := Option.some.inj H
    go_enter Try.func36, Try.ntmps36
    go_wp2_with (first | ((with_reducible refine gate_dst (N := 2) rfl ?_); refine box_event ?hg (N := 2) ?hd (cs := #[.int .i64 a0_0, .int .i64 a0_1, .int .i64 a0_2, .int .i64 a0_3, .int .i64 a0_4, .int .i64 a0_5, .bool a0_6, .bool false, .int .i64 a0_8, .int .i64 a0_9, .int .i64 a0_10, .int .i64 a0_11]) (t := 50) ?hr ?_; (case hd => rfl); (case hg => rfl); (case hr => first | (go_simp; done) | (go_simp; rfl)); intro gb164 hg w21 hbox hb; have n0_ := Aside0.mk (below_step (by repeat (first | (with_reducible first | exact HB.out | apply below_alloc | apply pw_below_drewN | apply below_drew1) | exact HB.out)) hb); have n1_ := Aside0.mk (hbox); have n2_ := Aside0.mk ((by rw [hg]; exact (below_size (by repeat (first | (with_reducible first | exact HB.out | apply below_alloc | apply pw_below_drewN | apply below_drew1) | exact HB.out))) : w.heap.size ≤ gb164)); have n3_ := Aside0.mk ((by rw [hg]; exact (below_size (by repeat (first | (with_reducible first | exact HB.out | apply below_alloc | apply pw_below_drewN | apply below_drew1) | exact HB.out))) : w.heap.size ≤ gb164)); clear HB; have HB := n0_; have BK164 := n1_; have GW164 := n2_; have GE164 := n3_; clear n0_ n1_ n2_ n3_; clear hb hbox hg; have hcz22_0 : w21.cell? ⟨gb164, 0, none⟩ = some (.int .i64 a0_0) := (blk_cell BK164.out 0).trans rfl; have hcz22_1 : w21.cell? ⟨gb164, 1, none⟩ = some (.int .i64 a0_1) := (blk_cell BK164.out 1).trans rfl; have hcz22_2 : w21.cell? ⟨gb164, 2, none⟩ = some (.int .i64 a0_2) := (blk_cell BK164.out 2).trans rfl; have hcz22_3 : w21.cell? ⟨gb164, 3, none⟩ = some (.int .i64 a0_3) := (blk_cell BK164.out 3).trans rfl; have hcz22_4 : w21.cell? ⟨gb164, 4, none⟩ = some (.int .i64 a0_4) := (blk_cell BK164.out 4).trans rfl; have hcz22_5 : w21.cell? ⟨gb164, 5, none⟩ = some (.int .i64 a0_5) := (blk_cell BK164.out 5).trans rfl; have hcz22_6 : w21.cell? ⟨gb164, 6, none⟩ = some (.bool a0_6) := (blk_cell BK164.out 6).trans rfl; have hcz22_7 : w21.cell? ⟨gb164, 7, none⟩ = some (.bool false) := (blk_cell BK164.out 7).trans rfl; have hcz22_8 : w21.cell? ⟨gb164, 8, none⟩ = some (.int .i64 a0_8) := (blk_cell BK164.out 8).trans rfl; have hcz22_9 : w21.cell? ⟨gb164, 9, none⟩ = some (.int .i64 a0_9) := (blk_cell BK164.out 9).trans rfl; have hcz22_10 : w21.cell? ⟨gb164, 10, none⟩ = some (.int .i64 a0_10) := (blk_cell BK164.out 10).trans rfl; have hcz22_11 : w21.cell? ⟨gb164, 11, none⟩ = some (.int .i64 a0_11) := (blk_cell BK164.out 11).trans rfl; have hfz22_0 := blk_frozen BK164.out 0; have hfz22_1 := blk_frozen BK164.out 1; have hfz22_2 := blk_frozen BK164.out 2; have hfz22_3 := blk_frozen BK164.out 3; have hfz22_4 := blk_frozen BK164.out 4; have hfz22_5 := blk_frozen BK164.out 5; have hfz22_6 := blk_frozen BK164.out 6; have hfz22_7 := blk_frozen BK164.out 7; have hfz22_8 := blk_frozen BK164.out 8; have hfz22_9 := blk_frozen BK164.out 9; have hfz22_10 := blk_frozen BK164.out 10; have hfz22_11 := blk_frozen BK164.out 11))
    go_ret
    exact ⟨by first | rfl | (simp [errW_none, errW_some] <;> rfl) | (simp [*, errW_none, errW_some] <;> rfl), by repeat (first | (with_reducible first | exact HB.out | apply below_alloc | apply pw_below_drewN | apply below_drew1 | refine below_set ?_ GE164.out) | exact HB.out)⟩

-- NOT PRINTED: function 11 (laws_FnIOValid)

end Go.Proofs.Ytmhngpihkaignaa.PFnIOValid
