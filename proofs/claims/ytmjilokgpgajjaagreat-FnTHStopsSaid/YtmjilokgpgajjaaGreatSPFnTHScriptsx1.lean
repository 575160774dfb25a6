/- Texts of this seat, cut down by shake.py. -/
import Derived.Test.YtmjilokgpgajjaaGreatSPFnTHScriptsx0
namespace Go.Proofs.YtmjilokgpgajjaaGreat.PFnTHScripts
open Go.RowKit Go.Proofs.YtmjilokgpgajjaaGreatW.PrintWords Go.Proofs.YtmjilokgpgajjaaGreatW.PrintLast Go.Proofs.YtmjilokgpgajjaaGreatW.PrintMore
attribute [local go_sem] max2_int min2_int max_two min_two max_three min_three max_four min_four   -- for this text's walks alone
set_option linter.unusedVariables false
set_option linter.unusedSimpArgs false

def laws_wrProtocol.f (a0 : Int) : Option (Int) := some (Int.tmod (wrap64 (a0)) 3)
set_option maxHeartbeats 8000000 in
set_option maxRecDepth 100000 in
theorem laws_wrProtocol.calls (a0 : Int) (r : Int) (w : World) (h : laws_wrProtocol.f a0 = some r) :
    Calls Tryz.prog 7 #[.int .u8 a0] w fun e w' => e = .returned (.int .i64 r) ∧ Drawn0 w w' := by
  have H : (some (Int.tmod (wrap64 (a0)) 3)) = some r := h
  clear h
  obtain rfl := Option.some.inj H
  go_enter Tryz.func7, Tryz.ntmps7
  go_wp2
  go_ret
  exact ⟨by first | rfl | (simp; done) | (simp [*]; done), by repeat (first | exact Drawn0.refl _ | apply Drawn0.step)⟩

def laws_wrFor.j0 : Nat → Int → Bool → Int → Int → ByteArray → Int → Int → Bool → Option (Int × Int × ByteArray × Int × Int × Bool)
  | 0, _, _, _, _, _, _, _, _ => none
  | k + 1, x0, x16, x102000, x102001, x102002, x102003, x102004, x102005 => if x16 = true then (if x0 = 2 then (if x102000 = 10 then (if (mn (wrap64 (1 - x102001)) 32767) < 0 then (some (x102000, wrap64 ((-1) - (mn (wrap64 (1 - x102001)) 32767)), x102002, x102003, x102004, x102005)) else (some (x102000, mn (wrap64 (1 - x102001)) 32767, x102002, x102003, x102004, x102005))) else (some (x102000, mn (wrap64 (1 - x102001)) 32767, x102002, x102003, x102004, x102005))) else (some (x102000, mn (wrap64 (1 - x102001)) 32767, x102002, x102003, x102004, x102005))) else (if x0 = 2 then (if x102000 = 10 then (if x102001 < 0 then (some (x102000, wrap64 ((-1) - x102001), x102002, x102003, x102004, x102005)) else (some (x102000, x102001, x102002, x102003, x102004, x102005))) else (some (x102000, x102001, x102002, x102003, x102004, x102005))) else (some (x102000, x102001, x102002, x102003, x102004, x102005)))
def laws_wrFor.f (k : Nat) (a0 : Int) (a1_0 : Int) (a1_1 : Int) (a1_2 : ByteArray) (a1_3 : Int) (a1_4 : Int) (a1_5 : Bool) : Option (Int × Int × ByteArray × Int × Int × Bool) := if a0 = 2 then (if a1_0 = 11 then (laws_wrFor.j0 k a0 (decide (a1_1 < 1)) a1_0 a1_1 a1_2 a1_3 a1_4 a1_5) else (laws_wrFor.j0 k a0 false a1_0 a1_1 a1_2 a1_3 a1_4 a1_5)) else (laws_wrFor.j0 k a0 false a1_0 a1_1 a1_2 a1_3 a1_4 a1_5)
theorem laws_wrFor.mono_l : ∀ k, (∀ y0 y1 y2 y3 y4 y5 y6 y7, LeO (laws_wrFor.j0 k y0 y1 y2 y3 y4 y5 y6 y7) (laws_wrFor.j0 (k + 1) y0 y1 y2 y3 y4 y5 y6 y7))
  | 0 => fun _ _ _ _ _ _ _ _ r h => by simp [laws_wrFor.j0] at h
  | k + 1 => by
    have ih0 := laws_wrFor.mono_l k
    · intro y0 y1 y2 y3 y4 y5 y6 y7
      unfold laws_wrFor.j0
      repeat' first
      | (with_reducible exact ih0 _ _ _ _ _ _ _ _)
      | (with_reducible exact LeO.refl _)
      | (with_reducible exact LeO.none _)
      | (with_reducible refine LeO.ite ?_ ?_)
      | (with_reducible refine LeO.bind ?_ (fun _ => ?_))
      | exact ih0 _ _ _ _ _ _ _ _
      | exact LeO.none _
      | refine LeO.ite ?_ ?_
      | refine LeO.bind ?_ (fun _ => ?_)
theorem laws_wrFor.mono : ∀ a0 a1 a2 a3 a4 a5 a6 k, LeO (laws_wrFor.f k a0 a1 a2 a3 a4 a5 a6) (laws_wrFor.f (k + 1) a0 a1 a2 a3 a4 a5 a6) := by
  intro a0 a1 a2 a3 a4 a5 a6 k
  have ih0 := laws_wrFor.mono_l k
  unfold laws_wrFor.f
  repeat' first
      | (with_reducible exact ih0 _ _ _ _ _ _ _ _)
      | (with_reducible exact LeO.refl _)
      | (with_reducible exact LeO.none _)
      | (with_reducible refine LeO.ite ?_ ?_)
      | (with_reducible refine LeO.bind ?_ (fun _ => ?_))
      | exact ih0 _ _ _ _ _ _ _ _
      | exact LeO.none _
      | refine LeO.ite ?_ ?_
      | refine LeO.bind ?_ (fun _ => ?_)
set_option maxHeartbeats 8000000 in
set_option maxRecDepth 100000 in
theorem laws_wrFor.calls (k : Nat) (a0 : Int) (a1_0 : Int) (a1_1 : Int) (a1_2 : ByteArray) (a1_3 : Int) (a1_4 : Int) (a1_5 : Bool) (r1 : Int) (r2 : Int) (r3 : ByteArray) (r4 : Int) (r5 : Int) (r6 : Bool) (w : World) (h : laws_wrFor.f k a0 a1_0 a1_1 a1_2 a1_3 a1_4 a1_5 = some (r1, r2, r3, r4, r5, r6)) :
    Calls Tryz.prog 8 #[.int .i64 a0, .agg #[.int .i64 a1_0, .int .i64 a1_1, .string a1_2, .int .i64 a1_3, .int .i64 a1_4, .bool a1_5]] w fun e w' => e = .returned (.agg #[.int .i64 r1, .int .i64 r2, .string r3, .int .i64 r4, .int .i64 r5, .bool r6]) ∧ Below w.heap.size w w' := by
  have hu25 := Tryz.underlying25
  have HB := Aside0.mk (Below.refl w.heap.size w)
  have H : (if a0 = 2 then (if a1_0 = 11 then (laws_wrFor.j0 k a0 (decide (a1_1 < 1)) a1_0 a1_1 a1_2 a1_3 a1_4 a1_5) else (laws_wrFor.j0 k a0 false a1_0 a1_1 a1_2 a1_3 a1_4 a1_5)) else (laws_wrFor.j0 k a0 false a1_0 a1_1 a1_2 a1_3 a1_4 a1_5)) = some (r1, r2, r3, r4, r5, r6) := h
  clear h
  have HC3 := Aside0.mk H
  clear H
  go_enter Tryz.func8, Tryz.ntmps8
  go_upto_region 1 with (first | ((with_reducible refine gate_dst (N := 3) rfl ?_); refine box_event ?hg (N := 3) ?hd (cs := #[.int .i64 a1_0, .int .i64 a1_1, .string a1_2, .int .i64 a1_3, .int .i64 a1_4, .bool a1_5]) (t := 25) ?hr ?_; (case hd => rfl); (case hg => rfl); (case hr => first | (go_simp; done) | (go_simp; rfl)); intro gb101 hg w4 hbox hb; have n0_ := Aside0.mk (below_step (by repeat (first | (with_reducible first | exact HB.out | apply below_alloc | apply pw_below_drewN | apply below_drew1) | exact HB.out)) hb); have n1_ := Aside0.mk (hbox); have n2_ := Aside0.mk ((by rw [hg]; exact (below_size (by repeat (first | (with_reducible first | exact HB.out | apply below_alloc | apply pw_below_drewN | apply below_drew1) | exact HB.out))) : w.heap.size ≤ gb101)); have n3_ := Aside0.mk ((by rw [hg]; exact (below_size (by repeat (first | (with_reducible first | exact HB.out | apply below_alloc | apply pw_below_drewN | apply below_drew1) | exact HB.out))) : w.heap.size ≤ gb101)); clear HB; have HB := n0_; have BK101 := n1_; have GW101 := n2_; have GE101 := n3_; clear n0_ n1_ n2_ n3_; clear hb hbox hg) | ((with_reducible refine gate_dst (N := 4) rfl ?_); refine box_event ?hg (N := 4) ?hd (cs := #[.int .i64 0, .int .i64 0, .string (⟨#[]⟩ : ByteArray), .int .i64 0, .int .i64 0, .bool false]) (t := 25) ?hr ?_; (case hd => rfl); (case hg => rfl); (case hr => first | (go_simp; done) | (go_simp; rfl)); intro gb102 hg w5 hbox hb; have n0_ := Aside0.mk (blk_below (g := gb101) (o := .cells #[.int .i64 a1_0, .int .i64 a1_1, .string a1_2, .int .i64 a1_3, .int .i64 a1_4, .bool a1_5] 25 (0, 0)) (by (with_reducible repeat (first | refine blk_drewN ?_ _ | refine blk_drew ?_ | refine blk_alloc ?_ _)); exact BK101.out) hb); have n1_ := Aside0.mk (below_step (by repeat (first | (with_reducible first | exact HB.out | apply below_alloc | apply pw_below_drewN | apply below_drew1 | refine below_set ?_ GE101.out) | exact HB.out)) hb); have n2_ := Aside0.mk (hbox); have n3_ := Aside0.mk ((by rw [hg]; exact (below_size (by repeat (first | (with_reducible first | exact HB.out | apply below_alloc | apply pw_below_drewN | apply below_drew1 | refine below_set ?_ GE101.out) | exact HB.out))) : w.heap.size ≤ gb102)); have n4_ := Aside0.mk ((by rw [hg]; exact (below_size (by repeat (first | (with_reducible first | exact HB.out | apply below_alloc | apply pw_below_drewN | apply below_drew1 | refine below_set ?_ GE101.out) | exact HB.out))) : w.heap.size ≤ gb102)); have n5_ := Aside0.mk ((by rw [hg]; exact Nat.ne_of_lt (blk_lt (g := gb101) (o := .cells #[.int .i64 a1_0, .int .i64 a1_1, .string a1_2, .int .i64 a1_3, .int .i64 a1_4, .bool a1_5] 25 (0, 0)) (by (with_reducible repeat (first | refine blk_drewN ?_ _ | refine blk_drew ?_ | refine blk_alloc ?_ _)); exact BK101.out)) : gb101 ≠ gb102)); have n6_ := Aside0.mk ((by rw [hg]; exact Nat.ne_of_gt (blk_lt (g := gb101) (o := .cells #[.int .i64 a1_0, .int .i64 a1_1, .string a1_2, .int .i64 a1_3, .int .i64 a1_4, .bool a1_5] 25 (0, 0)) (by (with_reducible repeat (first | refine blk_drewN ?_ _ | refine blk_drew ?_ | refine blk_alloc ?_ _)); exact BK101.out)) : gb102 ≠ gb101)); clear BK101; clear HB; have BK101 := n0_; have HB := n1_; have BK102 := n2_; have GW102 := n3_; have GE102 := n4_; have NB101_102 := n5_; have NB102_101 := n6_; clear n0_ n1_ n2_ n3_ n4_ n5_ n6_; clear hb hbox hg))
  (try simp only [Act.put, List.setIfInBounds_toArray, List.set_cons_zero, List.set_cons_succ])
  go_cut [16] (fun v16 wc => ∃ (kq : Nat) (x16_2 : Bool), v16 = .bool x16_2 ∧ Aside0 (laws_wrFor.j0 kq a0 x16_2 a1_0 a1_1 a1_2 a1_3 a1_4 a1_5 = some (r1, r2, r3, r4, r5, r6)) ∧ Aside0 (kq ≤ k) ∧ Aside0 (wc.heap[gb101]? = some (.cells #[.int .i64 a1_0, .int .i64 a1_1, .string a1_2, .int .i64 a1_3, .int .i64 a1_4, .bool a1_5] 25 (0, 0))) ∧ Aside0 (wc.heap[gb102]? = some (.cells #[.int .i64 0, .int .i64 0, .string (⟨#[]⟩ : ByteArray), .int .i64 0, .int .i64 0, .bool false] 25 (0, 0))) ∧ Aside0 (Below w.heap.size w wc))
  case first =>
    have H := HC3.out
    clear HC3
    by_cases c6 : a0 = 2
    · rw [if_pos c6] at H
      have c6b0 : (a0 == 2) = true := beq_iff_eq.mpr c6
      have c6b1 : (a0 != 2) = false := bne_eq_false_iff_eq.mpr c6
      clear c6
      (first | rw [c6b0] | (simp only [i64_w, i32_w]; rw [c6b0]) | skip)
      by_cases c7 : a1_0 = 11
      · rw [if_pos c7] at H
        have c7b0 : (a1_0 == 11) = true := beq_iff_eq.mpr c7
        have c7b1 : (a1_0 != 11) = false := bne_eq_false_iff_eq.mpr c7
        clear c7
        have H' := Aside0.mk H
        clear H
        have hnb8 := NB101_102.out
        have hnc8 := NB102_101.out
        have hcz9_0 : w5.cell? ⟨gb101, 0, none⟩ = some (.int .i64 a1_0) := (blk_cell BK101.out 0).trans rfl
        have hcz9_1 : w5.cell? ⟨gb101, 1, none⟩ = some (.int .i64 a1_1) := (blk_cell BK101.out 1).trans rfl
        have hcz9_2 : w5.cell? ⟨gb101, 2, none⟩ = some (.string a1_2) := (blk_cell BK101.out 2).trans rfl
        have hcz9_3 : w5.cell? ⟨gb101, 3, none⟩ = some (.int .i64 a1_3) := (blk_cell BK101.out 3).trans rfl
        have hcz9_4 : w5.cell? ⟨gb101, 4, none⟩ = some (.int .i64 a1_4) := (blk_cell BK101.out 4).trans rfl
        have hcz9_5 : w5.cell? ⟨gb101, 5, none⟩ = some (.bool a1_5) := (blk_cell BK101.out 5).trans rfl
        have hfz9_0 := blk_frozen BK101.out 0
        have hfz9_1 := blk_frozen BK101.out 1
        have hfz9_2 := blk_frozen BK101.out 2
        have hfz9_3 := blk_frozen BK101.out 3
        have hfz9_4 := blk_frozen BK101.out 4
        have hfz9_5 := blk_frozen BK101.out 5
        go_wp2
        go_meet
        case rel => exact ⟨_, (decide (a1_1 < 1)), (by first | rfl | (simp; done) | (simp [*]; done)), H', ⟨by first | omega | exact Nat.le_refl _⟩, ⟨by (with_reducible repeat (first | refine blk_drewN ?_ _ | refine blk_drew ?_ | refine blk_alloc ?_ _)); exact BK101.out⟩, ⟨by (with_reducible repeat (first | refine blk_drewN ?_ _ | refine blk_drew ?_ | refine blk_alloc ?_ _)); exact BK102.out⟩, ⟨by repeat (first | (with_reducible first | exact HB.out | apply below_alloc | apply pw_below_drewN | apply below_drew1 | refine below_set ?_ GE101.out | refine below_set ?_ GE102.out) | exact HB.out)⟩⟩
      · rw [if_neg c7] at H
        have c7b0 : (a1_0 == 11) = false := beq_eq_false_iff_ne.mpr c7
        have c7b1 : (a1_0 != 11) = true := bne_iff_ne.mpr c7
        have H' := Aside0.mk H
        clear H
        have hnb10 := NB101_102.out
        have hnc10 := NB102_101.out
        have hcz11_0 : w5.cell? ⟨gb101, 0, none⟩ = some (.int .i64 a1_0) := (blk_cell BK101.out 0).trans rfl
        have hcz11_1 : w5.cell? ⟨gb101, 1, none⟩ = some (.int .i64 a1_1) := (blk_cell BK101.out 1).trans rfl
        have hcz11_2 : w5.cell? ⟨gb101, 2, none⟩ = some (.string a1_2) := (blk_cell BK101.out 2).trans rfl
        have hcz11_3 : w5.cell? ⟨gb101, 3, none⟩ = some (.int .i64 a1_3) := (blk_cell BK101.out 3).trans rfl
        have hcz11_4 : w5.cell? ⟨gb101, 4, none⟩ = some (.int .i64 a1_4) := (blk_cell BK101.out 4).trans rfl
        have hcz11_5 : w5.cell? ⟨gb101, 5, none⟩ = some (.bool a1_5) := (blk_cell BK101.out 5).trans rfl
        have hfz11_0 := blk_frozen BK101.out 0
        have hfz11_1 := blk_frozen BK101.out 1
        have hfz11_2 := blk_frozen BK101.out 2
        have hfz11_3 := blk_frozen BK101.out 3
        have hfz11_4 := blk_frozen BK101.out 4
        have hfz11_5 := blk_frozen BK101.out 5
        go_wp2
        go_meet
        case rel => exact ⟨_, (false), (by first | rfl | (simp; done) | (simp [*]; done)), H', ⟨by first | omega | exact Nat.le_refl _⟩, ⟨by (with_reducible repeat (first | refine blk_drewN ?_ _ | refine blk_drew ?_ | refine blk_alloc ?_ _)); exact BK101.out⟩, ⟨by (with_reducible repeat (first | refine blk_drewN ?_ _ | refine blk_drew ?_ | refine blk_alloc ?_ _)); exact BK102.out⟩, ⟨by repeat (first | (with_reducible first | exact HB.out | apply below_alloc | apply pw_below_drewN | apply below_drew1 | refine below_set ?_ GE101.out | refine below_set ?_ GE102.out) | exact HB.out)⟩⟩
    · rw [if_neg c6] at H
      have c6b0 : (a0 == 2) = false := beq_eq_false_iff_ne.mpr c6
      have c6b1 : (a0 != 2) = true := bne_iff_ne.mpr c6
      (first | rw [c6b0] | (simp only [i64_w, i32_w]; rw [c6b0]) | skip)
      have H' := Aside0.mk H
      clear H
      go_wp2
      go_meet
      case rel => exact ⟨_, (false), (by first | rfl | (simp; done) | (simp [*]; done)), H', ⟨by first | omega | exact Nat.le_refl _⟩, ⟨by (with_reducible repeat (first | refine blk_drewN ?_ _ | refine blk_drew ?_ | refine blk_alloc ?_ _)); exact BK101.out⟩, ⟨by (with_reducible repeat (first | refine blk_drewN ?_ _ | refine blk_drew ?_ | refine blk_alloc ?_ _)); exact BK102.out⟩, ⟨by repeat (first | (with_reducible first | exact HB.out | apply below_alloc | apply pw_below_drewN | apply below_drew1 | refine below_set ?_ GE101.out | refine below_set ?_ GE102.out) | exact HB.out)⟩⟩
  case rest =>
    clear HC3
    try clear c1
    try clear p2
    try clear c6
    try clear c6b0
    try clear c6b1
    try clear c7
    try clear c7b0
    try clear c7b1
    try clear c8
    try clear c10
    try clear hcz11_0
    try clear hcz11_1
    try clear hcz11_2
    try clear hcz11_3
    try clear hcz11_4
    try clear hcz11_5
    try clear hcz9_0
    try clear hcz9_1
    try clear hcz9_2
    try clear hcz9_3
    try clear hcz9_4
    try clear hcz9_5
    try clear hfz11_0
    try clear hfz11_1
    try clear hfz11_2
    try clear hfz11_3
    try clear hfz11_4
    try clear hfz11_5
    try clear hfz9_0
    try clear hfz9_1
    try clear hfz9_2
    try clear hfz9_3
    try clear hfz9_4
    try clear hfz9_5
    obtain ⟨kq, x16_2, rfl, HA, HJ2, BK101, BK102, HB⟩ := hcut
    cases kq with
    | zero => exact absurd HA.out (by simp [laws_wrFor.j0])
    | succ kj2 =>
      have H := HA.out
      clear HA
      simp only [laws_wrFor.j0] at H
      by_cases c12 : x16_2 = true
      · subst c12
        have H1 : (if a0 = 2 then (if a1_0 = 10 then (if (mn (wrap64 (1 - a1_1)) 32767) < 0 then (some (a1_0, wrap64 ((-1) - (mn (wrap64 (1 - a1_1)) 32767)), a1_2, a1_3, a1_4, a1_5)) else (some (a1_0, mn (wrap64 (1 - a1_1)) 32767, a1_2, a1_3, a1_4, a1_5))) else (some (a1_0, mn (wrap64 (1 - a1_1)) 32767, a1_2, a1_3, a1_4, a1_5))) else (some (a1_0, mn (wrap64 (1 - a1_1)) 32767, a1_2, a1_3, a1_4, a1_5))) = some (r1, r2, r3, r4, r5, r6) := by rw [if_pos rfl] at H; exact H
        clear H
        have H := H1
        clear H1
        obtain ⟨ji13, hji13⟩ : ∃ j_ : Int, (mn (wrap64 (1 - a1_1)) 32767) = j_ := ⟨_, rfl⟩
        replace H : (if a0 = 2 then (if a1_0 = 10 then (if (ji13) < 0 then (some (a1_0, wrap64 ((-1) - (ji13)), a1_2, a1_3, a1_4, a1_5)) else (some (a1_0, ji13, a1_2, a1_3, a1_4, a1_5))) else (some (a1_0, ji13, a1_2, a1_3, a1_4, a1_5))) else (some (a1_0, ji13, a1_2, a1_3, a1_4, a1_5))) = some (r1, r2, r3, r4, r5, r6) := by first | (rw [hji13] at H; exact H) | (simp only [hji13] at H ⊢; exact H)
        have hji13_ : (if 32767 < (wrap64 (1 - a1_1)) then 32767 else (wrap64 (1 - a1_1))) = ji13 := hji13
        by_cases c14 : a0 = 2
        · rw [if_pos c14] at H
          have c14b0 : (a0 == 2) = true := beq_iff_eq.mpr c14
          have c14b1 : (a0 != 2) = false := bne_eq_false_iff_eq.mpr c14
          clear c14
          by_cases c15 : a1_0 = 10
          · rw [if_pos c15] at H
            have c15b0 : (a1_0 == 10) = true := beq_iff_eq.mpr c15
            have c15b1 : (a1_0 != 10) = false := bne_eq_false_iff_eq.mpr c15
            clear c15
            by_cases c16 : (ji13) < 0
            · rw [if_pos c16] at H
              have c16b0 : decide ((ji13) < 0) = true := decide_eq_true c16
              clear c16
              simp only [Option.some.injEq, Prod.mk.injEq] at H
              obtain ⟨rfl, rfl, rfl, rfl, rfl, rfl⟩ := H
              have hnb17 := NB101_102.out
              have hnc17 := NB102_101.out
              have hcz18_0 : wc.cell? ⟨gb101, 0, none⟩ = some (.int .i64 a1_0) := (blk_cell BK101.out 0).trans rfl
              have hcz18_1 : wc.cell? ⟨gb101, 1, none⟩ = some (.int .i64 a1_1) := (blk_cell BK101.out 1).trans rfl
              have hcz18_2 : wc.cell? ⟨gb101, 2, none⟩ = some (.string a1_2) := (blk_cell BK101.out 2).trans rfl
              have hcz18_3 : wc.cell? ⟨gb101, 3, none⟩ = some (.int .i64 a1_3) := (blk_cell BK101.out 3).trans rfl
              have hcz18_4 : wc.cell? ⟨gb101, 4, none⟩ = some (.int .i64 a1_4) := (blk_cell BK101.out 4).trans rfl
              have hcz18_5 : wc.cell? ⟨gb101, 5, none⟩ = some (.bool a1_5) := (blk_cell BK101.out 5).trans rfl
              have hfz18_0 := blk_frozen BK101.out 0
              have hfz18_1 := blk_frozen BK101.out 1
              have hfz18_2 := blk_frozen BK101.out 2
              have hfz18_3 := blk_frozen BK101.out 3
              have hfz18_4 := blk_frozen BK101.out 4
              have hfz18_5 := blk_frozen BK101.out 5
              have hcz19_0 : wc.cell? ⟨gb102, 0, none⟩ = some (.int .i64 0) := (blk_cell BK102.out 0).trans rfl
              have hcz19_1 : wc.cell? ⟨gb102, 1, none⟩ = some (.int .i64 0) := (blk_cell BK102.out 1).trans rfl
              have hcz19_2 : wc.cell? ⟨gb102, 2, none⟩ = some (.string (⟨#[]⟩ : ByteArray)) := (blk_cell BK102.out 2).trans rfl
              have hcz19_3 : wc.cell? ⟨gb102, 3, none⟩ = some (.int .i64 0) := (blk_cell BK102.out 3).trans rfl
              have hcz19_4 : wc.cell? ⟨gb102, 4, none⟩ = some (.int .i64 0) := (blk_cell BK102.out 4).trans rfl
              have hcz19_5 : wc.cell? ⟨gb102, 5, none⟩ = some (.bool false) := (blk_cell BK102.out 5).trans rfl
              have hfz19_0 := blk_frozen BK102.out 0
              have hfz19_1 := blk_frozen BK102.out 1
              have hfz19_2 := blk_frozen BK102.out 2
              have hfz19_3 := blk_frozen BK102.out 3
              have hfz19_4 := blk_frozen BK102.out 4
              have hfz19_5 := blk_frozen BK102.out 5
              go_wp2
              refine bodyPost_ret (results_cell_row rfl _ _ gb102 25 #[.int .i64 a1_0, .int .i64 (wrap64 ((-1) - (ji13))), .string a1_2, .int .i64 a1_3, .int .i64 a1_4, .bool a1_5] (0, 0) _ rfl (by (with_reducible repeat (first | refine blk_drewN ?_ _ | refine blk_drew ?_ | refine blk_alloc ?_ _)); refine blk_put (cs := #[.int .i64 a1_0, .int .i64 (wrap64 ((-1) - (ji13))), .string a1_2, .int .i64 a1_3, .int .i64 a1_4, .bool false]) ?_ 5 _ rfl; (with_reducible repeat (first | refine blk_drewN ?_ _ | refine blk_drew ?_ | refine blk_alloc ?_ _)); refine blk_put (cs := #[.int .i64 a1_0, .int .i64 (wrap64 ((-1) - (ji13))), .string a1_2, .int .i64 a1_3, .int .i64 0, .bool false]) ?_ 4 _ rfl; (with_reducible repeat (first | refine blk_drewN ?_ _ | refine blk_drew ?_ | refine blk_alloc ?_ _)); refine blk_put (cs := #[.int .i64 a1_0, .int .i64 (wrap64 ((-1) - (ji13))), .string a1_2, .int .i64 0, .int .i64 0, .bool false]) ?_ 3 _ rfl; (with_reducible repeat (first | refine blk_drewN ?_ _ | refine blk_drew ?_ | refine blk_alloc ?_ _)); refine blk_put (cs := #[.int .i64 a1_0, .int .i64 (wrap64 ((-1) - (ji13))), .string (⟨#[]⟩ : ByteArray), .int .i64 0, .int .i64 0, .bool false]) ?_ 2 _ rfl; (with_reducible repeat (first | refine blk_drewN ?_ _ | refine blk_drew ?_ | refine blk_alloc ?_ _)); refine blk_put (cs := #[.int .i64 a1_0, .int .i64 0, .string (⟨#[]⟩ : ByteArray), .int .i64 0, .int .i64 0, .bool false]) ?_ 1 _ rfl; (with_reducible repeat (first | refine blk_drewN ?_ _ | refine blk_drew ?_ | refine blk_alloc ?_ _)); refine blk_put (cs := #[.int .i64 0, .int .i64 0, .string (⟨#[]⟩ : ByteArray), .int .i64 0, .int .i64 0, .bool false]) ?_ 0 _ rfl; (with_reducible repeat (first | refine blk_drewN ?_ _ | refine blk_drew ?_ | refine blk_alloc ?_ _)); refine blk_far ?_ NB102_101.out _; (with_reducible repeat (first | refine blk_drewN ?_ _ | refine blk_drew ?_ | refine blk_alloc ?_ _)); refine blk_far ?_ NB102_101.out _; (with_reducible repeat (first | refine blk_drewN ?_ _ | refine blk_drew ?_ | refine blk_alloc ?_ _)); exact BK102.out) Tryz.underlying25 rfl (by kernel_rfl)) rfl ?_
              exact ⟨by first | rfl | (simp [errW_none, errW_some] <;> rfl) | (simp only [← hji13]; first | rfl | (simp [errW_none, errW_some] <;> rfl)) | (simp [*, errW_none, errW_some] <;> rfl), by repeat (first | (with_reducible first | exact HB.out | apply below_alloc | apply pw_below_drewN | apply below_drew1 | refine below_set ?_ GE101.out | refine below_set ?_ GE102.out) | exact HB.out)⟩
            · rw [if_neg c16] at H
              have c16b0 : decide ((ji13) < 0) = false := decide_eq_false c16
              clear c16
              simp only [Option.some.injEq, Prod.mk.injEq] at H
              obtain ⟨rfl, rfl, rfl, rfl, rfl, rfl⟩ := H
              have hnb20 := NB101_102.out
              have hnc20 := NB102_101.out
              have hcz21_0 : wc.cell? ⟨gb101, 0, none⟩ = some (.int .i64 a1_0) := (blk_cell BK101.out 0).trans rfl
              have hcz21_1 : wc.cell? ⟨gb101, 1, none⟩ = some (.int .i64 a1_1) := (blk_cell BK101.out 1).trans rfl
              have hcz21_2 : wc.cell? ⟨gb101, 2, none⟩ = some (.string a1_2) := (blk_cell BK101.out 2).trans rfl
              have hcz21_3 : wc.cell? ⟨gb101, 3, none⟩ = some (.int .i64 a1_3) := (blk_cell BK101.out 3).trans rfl
              have hcz21_4 : wc.cell? ⟨gb101, 4, none⟩ = some (.int .i64 a1_4) := (blk_cell BK101.out 4).trans rfl
              have hcz21_5 : wc.cell? ⟨gb101, 5, none⟩ = some (.bool a1_5) := (blk_cell BK101.out 5).trans rfl
              have hfz21_0 := blk_frozen BK101.out 0
              have hfz21_1 := blk_frozen BK101.out 1
              have hfz21_2 := blk_frozen BK101.out 2
              have hfz21_3 := blk_frozen BK101.out 3
              have hfz21_4 := blk_frozen BK101.out 4
              have hfz21_5 := blk_frozen BK101.out 5
              have hcz22_0 : wc.cell? ⟨gb102, 0, none⟩ = some (.int .i64 0) := (blk_cell BK102.out 0).trans rfl
              have hcz22_1 : wc.cell? ⟨gb102, 1, none⟩ = some (.int .i64 0) := (blk_cell BK102.out 1).trans rfl
              have hcz22_2 : wc.cell? ⟨gb102, 2, none⟩ = some (.string (⟨#[]⟩ : ByteArray)) := (blk_cell BK102.out 2).trans rfl
              have hcz22_3 : wc.cell? ⟨gb102, 3, none⟩ = some (.int .i64 0) := (blk_cell BK102.out 3).trans rfl
              have hcz22_4 : wc.cell? ⟨gb102, 4, none⟩ = some (.int .i64 0) := (blk_cell BK102.out 4).trans rfl
              have hcz22_5 : wc.cell? ⟨gb102, 5, none⟩ = some (.bool false) := (blk_cell BK102.out 5).trans rfl
              have hfz22_0 := blk_frozen BK102.out 0
              have hfz22_1 := blk_frozen BK102.out 1
              have hfz22_2 := blk_frozen BK102.out 2
              have hfz22_3 := blk_frozen BK102.out 3
              have hfz22_4 := blk_frozen BK102.out 4
              have hfz22_5 := blk_frozen BK102.out 5
              go_wp2
              refine bodyPost_ret (results_cell_row rfl _ _ gb102 25 #[.int .i64 a1_0, .int .i64 ji13, .string a1_2, .int .i64 a1_3, .int .i64 a1_4, .bool a1_5] (0, 0) _ rfl (by (with_reducible repeat (first | refine blk_drewN ?_ _ | refine blk_drew ?_ | refine blk_alloc ?_ _)); refine blk_put (cs := #[.int .i64 a1_0, .int .i64 ji13, .string a1_2, .int .i64 a1_3, .int .i64 a1_4, .bool false]) ?_ 5 _ rfl; (with_reducible repeat (first | refine blk_drewN ?_ _ | refine blk_drew ?_ | refine blk_alloc ?_ _)); refine blk_put (cs := #[.int .i64 a1_0, .int .i64 ji13, .string a1_2, .int .i64 a1_3, .int .i64 0, .bool false]) ?_ 4 _ rfl; (with_reducible repeat (first | refine blk_drewN ?_ _ | refine blk_drew ?_ | refine blk_alloc ?_ _)); refine blk_put (cs := #[.int .i64 a1_0, .int .i64 ji13, .string a1_2, .int .i64 0, .int .i64 0, .bool false]) ?_ 3 _ rfl; (with_reducible repeat (first | refine blk_drewN ?_ _ | refine blk_drew ?_ | refine blk_alloc ?_ _)); refine blk_put (cs := #[.int .i64 a1_0, .int .i64 ji13, .string (⟨#[]⟩ : ByteArray), .int .i64 0, .int .i64 0, .bool false]) ?_ 2 _ rfl; (with_reducible repeat (first | refine blk_drewN ?_ _ | refine blk_drew ?_ | refine blk_alloc ?_ _)); refine blk_put (cs := #[.int .i64 a1_0, .int .i64 0, .string (⟨#[]⟩ : ByteArray), .int .i64 0, .int .i64 0, .bool false]) ?_ 1 _ rfl; (with_reducible repeat (first | refine blk_drewN ?_ _ | refine blk_drew ?_ | refine blk_alloc ?_ _)); refine blk_put (cs := #[.int .i64 0, .int .i64 0, .string (⟨#[]⟩ : ByteArray), .int .i64 0, .int .i64 0, .bool false]) ?_ 0 _ rfl; (with_reducible repeat (first | refine blk_drewN ?_ _ | refine blk_drew ?_ | refine blk_alloc ?_ _)); refine blk_far ?_ NB102_101.out _; (with_reducible repeat (first | refine blk_drewN ?_ _ | refine blk_drew ?_ | refine blk_alloc ?_ _)); exact BK102.out) Tryz.underlying25 rfl (by kernel_rfl)) rfl ?_
              exact ⟨by first | rfl | (simp [errW_none, errW_some] <;> rfl) | (simp only [← hji13]; first | rfl | (simp [errW_none, errW_some] <;> rfl)) | (simp [*, errW_none, errW_some] <;> rfl), by repeat (first | (with_reducible first | exact HB.out | apply below_alloc | apply pw_below_drewN | apply below_drew1 | refine below_set ?_ GE101.out | refine below_set ?_ GE102.out) | exact HB.out)⟩
          · rw [if_neg c15] at H
            have c15b0 : (a1_0 == 10) = false := beq_eq_false_iff_ne.mpr c15
            have c15b1 : (a1_0 != 10) = true := bne_iff_ne.mpr c15
            simp only [Option.some.injEq, Prod.mk.injEq] at H
            obtain ⟨rfl, rfl, rfl, rfl, rfl, rfl⟩ := H
            have hnb23 := NB101_102.out
            have hnc23 := NB102_101.out
            have hcz24_0 : wc.cell? ⟨gb101, 0, none⟩ = some (.int .i64 a1_0) := (blk_cell BK101.out 0).trans rfl
            have hcz24_1 : wc.cell? ⟨gb101, 1, none⟩ = some (.int .i64 a1_1) := (blk_cell BK101.out 1).trans rfl
            have hcz24_2 : wc.cell? ⟨gb101, 2, none⟩ = some (.string a1_2) := (blk_cell BK101.out 2).trans rfl
            have hcz24_3 : wc.cell? ⟨gb101, 3, none⟩ = some (.int .i64 a1_3) := (blk_cell BK101.out 3).trans rfl
            have hcz24_4 : wc.cell? ⟨gb101, 4, none⟩ = some (.int .i64 a1_4) := (blk_cell BK101.out 4).trans rfl
            have hcz24_5 : wc.cell? ⟨gb101, 5, none⟩ = some (.bool a1_5) := (blk_cell BK101.out 5).trans rfl
            have hfz24_0 := blk_frozen BK101.out 0
            have hfz24_1 := blk_frozen BK101.out 1
            have hfz24_2 := blk_frozen BK101.out 2
            have hfz24_3 := blk_frozen BK101.out 3
            have hfz24_4 := blk_frozen BK101.out 4
            have hfz24_5 := blk_frozen BK101.out 5
            have hcz25_0 : wc.cell? ⟨gb102, 0, none⟩ = some (.int .i64 0) := (blk_cell BK102.out 0).trans rfl
            have hcz25_1 : wc.cell? ⟨gb102, 1, none⟩ = some (.int .i64 0) := (blk_cell BK102.out 1).trans rfl
            have hcz25_2 : wc.cell? ⟨gb102, 2, none⟩ = some (.string (⟨#[]⟩ : ByteArray)) := (blk_cell BK102.out 2).trans rfl
            have hcz25_3 : wc.cell? ⟨gb102, 3, none⟩ = some (.int .i64 0) := (blk_cell BK102.out 3).trans rfl
            have hcz25_4 : wc.cell? ⟨gb102, 4, none⟩ = some (.int .i64 0) := (blk_cell BK102.out 4).trans rfl
            have hcz25_5 : wc.cell? ⟨gb102, 5, none⟩ = some (.bool false) := (blk_cell BK102.out 5).trans rfl
            have hfz25_0 := blk_frozen BK102.out 0
            have hfz25_1 := blk_frozen BK102.out 1
            have hfz25_2 := blk_frozen BK102.out 2
            have hfz25_3 := blk_frozen BK102.out 3
            have hfz25_4 := blk_frozen BK102.out 4
            have hfz25_5 := blk_frozen BK102.out 5
            go_wp2
            refine bodyPost_ret (results_cell_row rfl _ _ gb102 25 #[.int .i64 a1_0, .int .i64 ji13, .string a1_2, .int .i64 a1_3, .int .i64 a1_4, .bool a1_5] (0, 0) _ rfl (by (with_reducible repeat (first | refine blk_drewN ?_ _ | refine blk_drew ?_ | refine blk_alloc ?_ _)); refine blk_put (cs := #[.int .i64 a1_0, .int .i64 ji13, .string a1_2, .int .i64 a1_3, .int .i64 a1_4, .bool false]) ?_ 5 _ rfl; (with_reducible repeat (first | refine blk_drewN ?_ _ | refine blk_drew ?_ | refine blk_alloc ?_ _)); refine blk_put (cs := #[.int .i64 a1_0, .int .i64 ji13, .string a1_2, .int .i64 a1_3, .int .i64 0, .bool false]) ?_ 4 _ rfl; (with_reducible repeat (first | refine blk_drewN ?_ _ | refine blk_drew ?_ | refine blk_alloc ?_ _)); refine blk_put (cs := #[.int .i64 a1_0, .int .i64 ji13, .string a1_2, .int .i64 0, .int .i64 0, .bool false]) ?_ 3 _ rfl; (with_reducible repeat (first | refine blk_drewN ?_ _ | refine blk_drew ?_ | refine blk_alloc ?_ _)); refine blk_put (cs := #[.int .i64 a1_0, .int .i64 ji13, .string (⟨#[]⟩ : ByteArray), .int .i64 0, .int .i64 0, .bool false]) ?_ 2 _ rfl; (with_reducible repeat (first | refine blk_drewN ?_ _ | refine blk_drew ?_ | refine blk_alloc ?_ _)); refine blk_put (cs := #[.int .i64 a1_0, .int .i64 0, .string (⟨#[]⟩ : ByteArray), .int .i64 0, .int .i64 0, .bool false]) ?_ 1 _ rfl; (with_reducible repeat (first | refine blk_drewN ?_ _ | refine blk_drew ?_ | refine blk_alloc ?_ _)); refine blk_put (cs := #[.int .i64 0, .int .i64 0, .string (⟨#[]⟩ : ByteArray), .int .i64 0, .int .i64 0, .bool false]) ?_ 0 _ rfl; (with_reducible repeat (first | refine blk_drewN ?_ _ | refine blk_drew ?_ | refine blk_alloc ?_ _)); refine blk_far ?_ NB102_101.out _; (with_reducible repeat (first | refine blk_drewN ?_ _ | refine blk_drew ?_ | refine blk_alloc ?_ _)); exact BK102.out) Tryz.underlying25 rfl (by kernel_rfl)) rfl ?_
            exact ⟨by first | rfl | (simp [errW_none, errW_some] <;> rfl) | (simp only [← hji13]; first | rfl | (simp [errW_none, errW_some] <;> rfl)) | (simp [*, errW_none, errW_some] <;> rfl), by repeat (first | (with_reducible first | exact HB.out | apply below_alloc | apply pw_below_drewN | apply below_drew1 | refine below_set ?_ GE101.out | refine below_set ?_ GE102.out) | exact HB.out)⟩
        · rw [if_neg c14] at H
          have c14b0 : (a0 == 2) = false := beq_eq_false_iff_ne.mpr c14
          have c14b1 : (a0 != 2) = true := bne_iff_ne.mpr c14
          simp only [Option.some.injEq, Prod.mk.injEq] at H
          obtain ⟨rfl, rfl, rfl, rfl, rfl, rfl⟩ := H
          have hnb26 := NB101_102.out
          have hnc26 := NB102_101.out
          have hcz27_0 : wc.cell? ⟨gb101, 0, none⟩ = some (.int .i64 a1_0) := (blk_cell BK101.out 0).trans rfl
          have hcz27_1 : wc.cell? ⟨gb101, 1, none⟩ = some (.int .i64 a1_1) := (blk_cell BK101.out 1).trans rfl
          have hcz27_2 : wc.cell? ⟨gb101, 2, none⟩ = some (.string a1_2) := (blk_cell BK101.out 2).trans rfl
          have hcz27_3 : wc.cell? ⟨gb101, 3, none⟩ = some (.int .i64 a1_3) := (blk_cell BK101.out 3).trans rfl
          have hcz27_4 : wc.cell? ⟨gb101, 4, none⟩ = some (.int .i64 a1_4) := (blk_cell BK101.out 4).trans rfl
          have hcz27_5 : wc.cell? ⟨gb101, 5, none⟩ = some (.bool a1_5) := (blk_cell BK101.out 5).trans rfl
          have hfz27_0 := blk_frozen BK101.out 0
          have hfz27_1 := blk_frozen BK101.out 1
          have hfz27_2 := blk_frozen BK101.out 2
          have hfz27_3 := blk_frozen BK101.out 3
          have hfz27_4 := blk_frozen BK101.out 4
          have hfz27_5 := blk_frozen BK101.out 5
          have hcz28_0 : wc.cell? ⟨gb102, 0, none⟩ = some (.int .i64 0) := (blk_cell BK102.out 0).trans rfl
          have hcz28_1 : wc.cell? ⟨gb102, 1, none⟩ = some (.int .i64 0) := (blk_cell BK102.out 1).trans rfl
          have hcz28_2 : wc.cell? ⟨gb102, 2, none⟩ = some (.string (⟨#[]⟩ : ByteArray)) := (blk_cell BK102.out 2).trans rfl
          have hcz28_3 : wc.cell? ⟨gb102, 3, none⟩ = some (.int .i64 0) := (blk_cell BK102.out 3).trans rfl
          have hcz28_4 : wc.cell? ⟨gb102, 4, none⟩ = some (.int .i64 0) := (blk_cell BK102.out 4).trans rfl
          have hcz28_5 : wc.cell? ⟨gb102, 5, none⟩ = some (.bool false) := (blk_cell BK102.out 5).trans rfl
          have hfz28_0 := blk_frozen BK102.out 0
          have hfz28_1 := blk_frozen BK102.out 1
          have hfz28_2 := blk_frozen BK102.out 2
          have hfz28_3 := blk_frozen BK102.out 3
          have hfz28_4 := blk_frozen BK102.out 4
          have hfz28_5 := blk_frozen BK102.out 5
          go_wp2
          refine bodyPost_ret (results_cell_row rfl _ _ gb102 25 #[.int .i64 a1_0, .int .i64 ji13, .string a1_2, .int .i64 a1_3, .int .i64 a1_4, .bool a1_5] (0, 0) _ rfl (by (with_reducible repeat (first | refine blk_drewN ?_ _ | refine blk_drew ?_ | refine blk_alloc ?_ _)); refine blk_put (cs := #[.int .i64 a1_0, .int .i64 ji13, .string a1_2, .int .i64 a1_3, .int .i64 a1_4, .bool false]) ?_ 5 _ rfl; (with_reducible repeat (first | refine blk_drewN ?_ _ | refine blk_drew ?_ | refine blk_alloc ?_ _)); refine blk_put (cs := #[.int .i64 a1_0, .int .i64 ji13, .string a1_2, .int .i64 a1_3, .int .i64 0, .bool false]) ?_ 4 _ rfl; (with_reducible repeat (first | refine blk_drewN ?_ _ | refine blk_drew ?_ | refine blk_alloc ?_ _)); refine blk_put (cs := #[.int .i64 a1_0, .int .i64 ji13, .string a1_2, .int .i64 0, .int .i64 0, .bool false]) ?_ 3 _ rfl; (with_reducible repeat (first | refine blk_drewN ?_ _ | refine blk_drew ?_ | refine blk_alloc ?_ _)); refine blk_put (cs := #[.int .i64 a1_0, .int .i64 ji13, .string (⟨#[]⟩ : ByteArray), .int .i64 0, .int .i64 0, .bool false]) ?_ 2 _ rfl; (with_reducible repeat (first | refine blk_drewN ?_ _ | refine blk_drew ?_ | refine blk_alloc ?_ _)); refine blk_put (cs := #[.int .i64 a1_0, .int .i64 0, .string (⟨#[]⟩ : ByteArray), .int .i64 0, .int .i64 0, .bool false]) ?_ 1 _ rfl; (with_reducible repeat (first | refine blk_drewN ?_ _ | refine blk_drew ?_ | refine blk_alloc ?_ _)); refine blk_put (cs := #[.int .i64 0, .int .i64 0, .string (⟨#[]⟩ : ByteArray), .int .i64 0, .int .i64 0, .bool false]) ?_ 0 _ rfl; (with_reducible repeat (first | refine blk_drewN ?_ _ | refine blk_drew ?_ | refine blk_alloc ?_ _)); refine blk_far ?_ NB102_101.out _; (with_reducible repeat (first | refine blk_drewN ?_ _ | refine blk_drew ?_ | refine blk_alloc ?_ _)); exact BK102.out) Tryz.underlying25 rfl (by kernel_rfl)) rfl ?_
          exact ⟨by first | rfl | (simp [errW_none, errW_some] <;> rfl) | (simp only [← hji13]; first | rfl | (simp [errW_none, errW_some] <;> rfl)) | (simp [*, errW_none, errW_some] <;> rfl), by repeat (first | (with_reducible first | exact HB.out | apply below_alloc | apply pw_below_drewN | apply below_drew1 | refine below_set ?_ GE101.out | refine below_set ?_ GE102.out) | exact HB.out)⟩
      · replace c12 := Bool.eq_false_iff.mpr c12
        subst c12
        have H1 : (if a0 = 2 then (if a1_0 = 10 then (if a1_1 < 0 then (some (a1_0, wrap64 ((-1) - a1_1), a1_2, a1_3, a1_4, a1_5)) else (some (a1_0, a1_1, a1_2, a1_3, a1_4, a1_5))) else (some (a1_0, a1_1, a1_2, a1_3, a1_4, a1_5))) else (some (a1_0, a1_1, a1_2, a1_3, a1_4, a1_5))) = some (r1, r2, r3, r4, r5, r6) := by rw [if_neg (show ¬ (false = true) by decide)] at H; exact H
        clear H
        have H := H1
        clear H1
        by_cases c29 : a0 = 2
        · rw [if_pos c29] at H
          have c29b0 : (a0 == 2) = true := beq_iff_eq.mpr c29
          have c29b1 : (a0 != 2) = false := bne_eq_false_iff_eq.mpr c29
          clear c29
          by_cases c30 : a1_0 = 10
          · rw [if_pos c30] at H
            have c30b0 : (a1_0 == 10) = true := beq_iff_eq.mpr c30
            have c30b1 : (a1_0 != 10) = false := bne_eq_false_iff_eq.mpr c30
            clear c30
            by_cases c31 : a1_1 < 0
            · rw [if_pos c31] at H
              have c31b0 : decide (a1_1 < 0) = true := decide_eq_true c31
              clear c31
              simp only [Option.some.injEq, Prod.mk.injEq] at H
              obtain ⟨rfl, rfl, rfl, rfl, rfl, rfl⟩ := H
              have hnb32 := NB101_102.out
              have hnc32 := NB102_101.out
              have hcz33_0 : wc.cell? ⟨gb101, 0, none⟩ = some (.int .i64 a1_0) := (blk_cell BK101.out 0).trans rfl
              have hcz33_1 : wc.cell? ⟨gb101, 1, none⟩ = some (.int .i64 a1_1) := (blk_cell BK101.out 1).trans rfl
              have hcz33_2 : wc.cell? ⟨gb101, 2, none⟩ = some (.string a1_2) := (blk_cell BK101.out 2).trans rfl
              have hcz33_3 : wc.cell? ⟨gb101, 3, none⟩ = some (.int .i64 a1_3) := (blk_cell BK101.out 3).trans rfl
              have hcz33_4 : wc.cell? ⟨gb101, 4, none⟩ = some (.int .i64 a1_4) := (blk_cell BK101.out 4).trans rfl
              have hcz33_5 : wc.cell? ⟨gb101, 5, none⟩ = some (.bool a1_5) := (blk_cell BK101.out 5).trans rfl
              have hfz33_0 := blk_frozen BK101.out 0
              have hfz33_1 := blk_frozen BK101.out 1
              have hfz33_2 := blk_frozen BK101.out 2
              have hfz33_3 := blk_frozen BK101.out 3
              have hfz33_4 := blk_frozen BK101.out 4
              have hfz33_5 := blk_frozen BK101.out 5
              have hcz34_0 : wc.cell? ⟨gb102, 0, none⟩ = some (.int .i64 0) := (blk_cell BK102.out 0).trans rfl
              have hcz34_1 : wc.cell? ⟨gb102, 1, none⟩ = some (.int .i64 0) := (blk_cell BK102.out 1).trans rfl
              have hcz34_2 : wc.cell? ⟨gb102, 2, none⟩ = some (.string (⟨#[]⟩ : ByteArray)) := (blk_cell BK102.out 2).trans rfl
              have hcz34_3 : wc.cell? ⟨gb102, 3, none⟩ = some (.int .i64 0) := (blk_cell BK102.out 3).trans rfl
              have hcz34_4 : wc.cell? ⟨gb102, 4, none⟩ = some (.int .i64 0) := (blk_cell BK102.out 4).trans rfl
              have hcz34_5 : wc.cell? ⟨gb102, 5, none⟩ = some (.bool false) := (blk_cell BK102.out 5).trans rfl
              have hfz34_0 := blk_frozen BK102.out 0
              have hfz34_1 := blk_frozen BK102.out 1
              have hfz34_2 := blk_frozen BK102.out 2
              have hfz34_3 := blk_frozen BK102.out 3
              have hfz34_4 := blk_frozen BK102.out 4
              have hfz34_5 := blk_frozen BK102.out 5
              go_wp2
              refine bodyPost_ret (results_cell_row rfl _ _ gb102 25 #[.int .i64 a1_0, .int .i64 (wrap64 ((-1) - a1_1)), .string a1_2, .int .i64 a1_3, .int .i64 a1_4, .bool a1_5] (0, 0) _ rfl (by (with_reducible repeat (first | refine blk_drewN ?_ _ | refine blk_drew ?_ | refine blk_alloc ?_ _)); refine blk_put (cs := #[.int .i64 a1_0, .int .i64 (wrap64 ((-1) - a1_1)), .string a1_2, .int .i64 a1_3, .int .i64 a1_4, .bool false]) ?_ 5 _ rfl; (with_reducible repeat (first | refine blk_drewN ?_ _ | refine blk_drew ?_ | refine blk_alloc ?_ _)); refine blk_put (cs := #[.int .i64 a1_0, .int .i64 (wrap64 ((-1) - a1_1)), .string a1_2, .int .i64 a1_3, .int .i64 0, .bool false]) ?_ 4 _ rfl; (with_reducible repeat (first | refine blk_drewN ?_ _ | refine blk_drew ?_ | refine blk_alloc ?_ _)); refine blk_put (cs := #[.int .i64 a1_0, .int .i64 (wrap64 ((-1) - a1_1)), .string a1_2, .int .i64 0, .int .i64 0, .bool false]) ?_ 3 _ rfl; (with_reducible repeat (first | refine blk_drewN ?_ _ | refine blk_drew ?_ | refine blk_alloc ?_ _)); refine blk_put (cs := #[.int .i64 a1_0, .int .i64 (wrap64 ((-1) - a1_1)), .string (⟨#[]⟩ : ByteArray), .int .i64 0, .int .i64 0, .bool false]) ?_ 2 _ rfl; (with_reducible repeat (first | refine blk_drewN ?_ _ | refine blk_drew ?_ | refine blk_alloc ?_ _)); refine blk_put (cs := #[.int .i64 a1_0, .int .i64 0, .string (⟨#[]⟩ : ByteArray), .int .i64 0, .int .i64 0, .bool false]) ?_ 1 _ rfl; (with_reducible repeat (first | refine blk_drewN ?_ _ | refine blk_drew ?_ | refine blk_alloc ?_ _)); refine blk_put (cs := #[.int .i64 0, .int .i64 0, .string (⟨#[]⟩ : ByteArray), .int .i64 0, .int .i64 0, .bool false]) ?_ 0 _ rfl; (with_reducible repeat (first | refine blk_drewN ?_ _ | refine blk_drew ?_ | refine blk_alloc ?_ _)); refine blk_far ?_ NB102_101.out _; (with_reducible repeat (first | refine blk_drewN ?_ _ | refine blk_drew ?_ | refine blk_alloc ?_ _)); exact BK102.out) Tryz.underlying25 rfl (by kernel_rfl)) rfl ?_
              exact ⟨by first | rfl | (simp [errW_none, errW_some] <;> rfl) | (simp [*, errW_none, errW_some] <;> rfl), by repeat (first | (with_reducible first | exact HB.out | apply below_alloc | apply pw_below_drewN | apply below_drew1 | refine below_set ?_ GE101.out | refine below_set ?_ GE102.out) | exact HB.out)⟩
            · rw [if_neg c31] at H
              have c31b0 : decide (a1_1 < 0) = false := decide_eq_false c31
              clear c31
              simp only [Option.some.injEq, Prod.mk.injEq] at H
              obtain ⟨rfl, rfl, rfl, rfl, rfl, rfl⟩ := H
              have hnb35 := NB101_102.out
              have hnc35 := NB102_101.out
              have hcz36_0 : wc.cell? ⟨gb101, 0, none⟩ = some (.int .i64 a1_0) := (blk_cell BK101.out 0).trans rfl
              have hcz36_1 : wc.cell? ⟨gb101, 1, none⟩ = some (.int .i64 a1_1) := (blk_cell BK101.out 1).trans rfl
              have hcz36_2 : wc.cell? ⟨gb101, 2, none⟩ = some (.string a1_2) := (blk_cell BK101.out 2).trans rfl
              have hcz36_3 : wc.cell? ⟨gb101, 3, none⟩ = some (.int .i64 a1_3) := (blk_cell BK101.out 3).trans rfl
              have hcz36_4 : wc.cell? ⟨gb101, 4, none⟩ = some (.int .i64 a1_4) := (blk_cell BK101.out 4).trans rfl
              have hcz36_5 : wc.cell? ⟨gb101, 5, none⟩ = some (.bool a1_5) := (blk_cell BK101.out 5).trans rfl
              have hfz36_0 := blk_frozen BK101.out 0
              have hfz36_1 := blk_frozen BK101.out 1
              have hfz36_2 := blk_frozen BK101.out 2
              have hfz36_3 := blk_frozen BK101.out 3
              have hfz36_4 := blk_frozen BK101.out 4
              have hfz36_5 := blk_frozen BK101.out 5
              have hcz37_0 : wc.cell? ⟨gb102, 0, none⟩ = some (.int .i64 0) := (blk_cell BK102.out 0).trans rfl
              have hcz37_1 : wc.cell? ⟨gb102, 1, none⟩ = some (.int .i64 0) := (blk_cell BK102.out 1).trans rfl
              have hcz37_2 : wc.cell? ⟨gb102, 2, none⟩ = some (.string (⟨#[]⟩ : ByteArray)) := (blk_cell BK102.out 2).trans rfl
              have hcz37_3 : wc.cell? ⟨gb102, 3, none⟩ = some (.int .i64 0) := (blk_cell BK102.out 3).trans rfl
              have hcz37_4 : wc.cell? ⟨gb102, 4, none⟩ = some (.int .i64 0) := (blk_cell BK102.out 4).trans rfl
              have hcz37_5 : wc.cell? ⟨gb102, 5, none⟩ = some (.bool false) := (blk_cell BK102.out 5).trans rfl
              have hfz37_0 := blk_frozen BK102.out 0
              have hfz37_1 := blk_frozen BK102.out 1
              have hfz37_2 := blk_frozen BK102.out 2
              have hfz37_3 := blk_frozen BK102.out 3
              have hfz37_4 := blk_frozen BK102.out 4
              have hfz37_5 := blk_frozen BK102.out 5
              go_wp2
              refine bodyPost_ret (results_cell_row rfl _ _ gb102 25 #[.int .i64 a1_0, .int .i64 a1_1, .string a1_2, .int .i64 a1_3, .int .i64 a1_4, .bool a1_5] (0, 0) _ rfl (by (with_reducible repeat (first | refine blk_drewN ?_ _ | refine blk_drew ?_ | refine blk_alloc ?_ _)); refine blk_put (cs := #[.int .i64 a1_0, .int .i64 a1_1, .string a1_2, .int .i64 a1_3, .int .i64 a1_4, .bool false]) ?_ 5 _ rfl; (with_reducible repeat (first | refine blk_drewN ?_ _ | refine blk_drew ?_ | refine blk_alloc ?_ _)); refine blk_put (cs := #[.int .i64 a1_0, .int .i64 a1_1, .string a1_2, .int .i64 a1_3, .int .i64 0, .bool false]) ?_ 4 _ rfl; (with_reducible repeat (first | refine blk_drewN ?_ _ | refine blk_drew ?_ | refine blk_alloc ?_ _)); refine blk_put (cs := #[.int .i64 a1_0, .int .i64 a1_1, .string a1_2, .int .i64 0, .int .i64 0, .bool false]) ?_ 3 _ rfl; (with_reducible repeat (first | refine blk_drewN ?_ _ | refine blk_drew ?_ | refine blk_alloc ?_ _)); refine blk_put (cs := #[.int .i64 a1_0, .int .i64 a1_1, .string (⟨#[]⟩ : ByteArray), .int .i64 0, .int .i64 0, .bool false]) ?_ 2 _ rfl; (with_reducible repeat (first | refine blk_drewN ?_ _ | refine blk_drew ?_ | refine blk_alloc ?_ _)); refine blk_put (cs := #[.int .i64 a1_0, .int .i64 0, .string (⟨#[]⟩ : ByteArray), .int .i64 0, .int .i64 0, .bool false]) ?_ 1 _ rfl; (with_reducible repeat (first | refine blk_drewN ?_ _ | refine blk_drew ?_ | refine blk_alloc ?_ _)); refine blk_put (cs := #[.int .i64 0, .int .i64 0, .string (⟨#[]⟩ : ByteArray), .int .i64 0, .int .i64 0, .bool false]) ?_ 0 _ rfl; (with_reducible repeat (first | refine blk_drewN ?_ _ | refine blk_drew ?_ | refine blk_alloc ?_ _)); exact BK102.out) Tryz.underlying25 rfl (by kernel_rfl)) rfl ?_
              exact ⟨by first | rfl | (simp [errW_none, errW_some] <;> rfl) | (simp [*, errW_none, errW_some] <;> rfl), by repeat (first | (with_reducible first | exact HB.out | apply below_alloc | apply pw_below_drewN | apply below_drew1 | refine below_set ?_ GE101.out | refine below_set ?_ GE102.out) | exact HB.out)⟩
          · rw [if_neg c30] at H
            have c30b0 : (a1_0 == 10) = false := beq_eq_false_iff_ne.mpr c30
            have c30b1 : (a1_0 != 10) = true := bne_iff_ne.mpr c30
            simp only [Option.some.injEq, Prod.mk.injEq] at H
            obtain ⟨rfl, rfl, rfl, rfl, rfl, rfl⟩ := H
            have hnb38 := NB101_102.out
            have hnc38 := NB102_101.out
            have hcz39_0 : wc.cell? ⟨gb101, 0, none⟩ = some (.int .i64 a1_0) := (blk_cell BK101.out 0).trans rfl
            have hcz39_1 : wc.cell? ⟨gb101, 1, none⟩ = some (.int .i64 a1_1) := (blk_cell BK101.out 1).trans rfl
            have hcz39_2 : wc.cell? ⟨gb101, 2, none⟩ = some (.string a1_2) := (blk_cell BK101.out 2).trans rfl
            have hcz39_3 : wc.cell? ⟨gb101, 3, none⟩ = some (.int .i64 a1_3) := (blk_cell BK101.out 3).trans rfl
            have hcz39_4 : wc.cell? ⟨gb101, 4, none⟩ = some (.int .i64 a1_4) := (blk_cell BK101.out 4).trans rfl
            have hcz39_5 : wc.cell? ⟨gb101, 5, none⟩ = some (.bool a1_5) := (blk_cell BK101.out 5).trans rfl
            have hfz39_0 := blk_frozen BK101.out 0
            have hfz39_1 := blk_frozen BK101.out 1
            have hfz39_2 := blk_frozen BK101.out 2
            have hfz39_3 := blk_frozen BK101.out 3
            have hfz39_4 := blk_frozen BK101.out 4
            have hfz39_5 := blk_frozen BK101.out 5
            have hcz40_0 : wc.cell? ⟨gb102, 0, none⟩ = some (.int .i64 0) := (blk_cell BK102.out 0).trans rfl
            have hcz40_1 : wc.cell? ⟨gb102, 1, none⟩ = some (.int .i64 0) := (blk_cell BK102.out 1).trans rfl
            have hcz40_2 : wc.cell? ⟨gb102, 2, none⟩ = some (.string (⟨#[]⟩ : ByteArray)) := (blk_cell BK102.out 2).trans rfl
            have hcz40_3 : wc.cell? ⟨gb102, 3, none⟩ = some (.int .i64 0) := (blk_cell BK102.out 3).trans rfl
            have hcz40_4 : wc.cell? ⟨gb102, 4, none⟩ = some (.int .i64 0) := (blk_cell BK102.out 4).trans rfl
            have hcz40_5 : wc.cell? ⟨gb102, 5, none⟩ = some (.bool false) := (blk_cell BK102.out 5).trans rfl
            have hfz40_0 := blk_frozen BK102.out 0
            have hfz40_1 := blk_frozen BK102.out 1
            have hfz40_2 := blk_frozen BK102.out 2
            have hfz40_3 := blk_frozen BK102.out 3
            have hfz40_4 := blk_frozen BK102.out 4
            have hfz40_5 := blk_frozen BK102.out 5
            go_wp2
            refine bodyPost_ret (results_cell_row rfl _ _ gb102 25 #[.int .i64 a1_0, .int .i64 a1_1, .string a1_2, .int .i64 a1_3, .int .i64 a1_4, .bool a1_5] (0, 0) _ rfl (by (with_reducible repeat (first | refine blk_drewN ?_ _ | refine blk_drew ?_ | refine blk_alloc ?_ _)); refine blk_put (cs := #[.int .i64 a1_0, .int .i64 a1_1, .string a1_2, .int .i64 a1_3, .int .i64 a1_4, .bool false]) ?_ 5 _ rfl; (with_reducible repeat (first | refine blk_drewN ?_ _ | refine blk_drew ?_ | refine blk_alloc ?_ _)); refine blk_put (cs := #[.int .i64 a1_0, .int .i64 a1_1, .string a1_2, .int .i64 a1_3, .int .i64 0, .bool false]) ?_ 4 _ rfl; (with_reducible repeat (first | refine blk_drewN ?_ _ | refine blk_drew ?_ | refine blk_alloc ?_ _)); refine blk_put (cs := #[.int .i64 a1_0, .int .i64 a1_1, .string a1_2, .int .i64 0, .int .i64 0, .bool false]) ?_ 3 _ rfl; (with_reducible repeat (first | refine blk_drewN ?_ _ | refine blk_drew ?_ | refine blk_alloc ?_ _)); refine blk_put (cs := #[.int .i64 a1_0, .int .i64 a1_1, .string (⟨#[]⟩ : ByteArray), .int .i64 0, .int .i64 0, .bool false]) ?_ 2 _ rfl; (with_reducible repeat (first | refine blk_drewN ?_ _ | refine blk_drew ?_ | refine blk_alloc ?_ _)); refine blk_put (cs := #[.int .i64 a1_0, .int .i64 0, .string (⟨#[]⟩ : ByteArray), .int .i64 0, .int .i64 0, .bool false]) ?_ 1 _ rfl; (with_reducible repeat (first | refine blk_drewN ?_ _ | refine blk_drew ?_ | refine blk_alloc ?_ _)); refine blk_put (cs := #[.int .i64 0, .int .i64 0, .string (⟨#[]⟩ : ByteArray), .int .i64 0, .int .i64 0, .bool false]) ?_ 0 _ rfl; (with_reducible repeat (first | refine blk_drewN ?_ _ | refine blk_drew ?_ | refine blk_alloc ?_ _)); exact BK102.out) Tryz.underlying25 rfl (by kernel_rfl)) rfl ?_
            exact ⟨by first | rfl | (simp [errW_none, errW_some] <;> rfl) | (simp [*, errW_none, errW_some] <;> rfl), by repeat (first | (with_reducible first | exact HB.out | apply below_alloc | apply pw_below_drewN | apply below_drew1 | refine below_set ?_ GE101.out | refine below_set ?_ GE102.out) | exact HB.out)⟩
        · rw [if_neg c29] at H
          have c29b0 : (a0 == 2) = false := beq_eq_false_iff_ne.mpr c29
          have c29b1 : (a0 != 2) = true := bne_iff_ne.mpr c29
          simp only [Option.some.injEq, Prod.mk.injEq] at H
          obtain ⟨rfl, rfl, rfl, rfl, rfl, rfl⟩ := H
          have hnb41 := NB101_102.out
          have hnc41 := NB102_101.out
          have hcz42_0 : wc.cell? ⟨gb101, 0, none⟩ = some (.int .i64 a1_0) := (blk_cell BK101.out 0).trans rfl
          have hcz42_1 : wc.cell? ⟨gb101, 1, none⟩ = some (.int .i64 a1_1) := (blk_cell BK101.out 1).trans rfl
          have hcz42_2 : wc.cell? ⟨gb101, 2, none⟩ = some (.string a1_2) := (blk_cell BK101.out 2).trans rfl
          have hcz42_3 : wc.cell? ⟨gb101, 3, none⟩ = some (.int .i64 a1_3) := (blk_cell BK101.out 3).trans rfl
          have hcz42_4 : wc.cell? ⟨gb101, 4, none⟩ = some (.int .i64 a1_4) := (blk_cell BK101.out 4).trans rfl
          have hcz42_5 : wc.cell? ⟨gb101, 5, none⟩ = some (.bool a1_5) := (blk_cell BK101.out 5).trans rfl
          have hfz42_0 := blk_frozen BK101.out 0
          have hfz42_1 := blk_frozen BK101.out 1
          have hfz42_2 := blk_frozen BK101.out 2
          have hfz42_3 := blk_frozen BK101.out 3
          have hfz42_4 := blk_frozen BK101.out 4
          have hfz42_5 := blk_frozen BK101.out 5
          have hcz43_0 : wc.cell? ⟨gb102, 0, none⟩ = some (.int .i64 0) := (blk_cell BK102.out 0).trans rfl
          have hcz43_1 : wc.cell? ⟨gb102, 1, none⟩ = some (.int .i64 0) := (blk_cell BK102.out 1).trans rfl
          have hcz43_2 : wc.cell? ⟨gb102, 2, none⟩ = some (.string (⟨#[]⟩ : ByteArray)) := (blk_cell BK102.out 2).trans rfl
          have hcz43_3 : wc.cell? ⟨gb102, 3, none⟩ = some (.int .i64 0) := (blk_cell BK102.out 3).trans rfl
          have hcz43_4 : wc.cell? ⟨gb102, 4, none⟩ = some (.int .i64 0) := (blk_cell BK102.out 4).trans rfl
          have hcz43_5 : wc.cell? ⟨gb102, 5, none⟩ = some (.bool false) := (blk_cell BK102.out 5).trans rfl
          have hfz43_0 := blk_frozen BK102.out 0
          have hfz43_1 := blk_frozen BK102.out 1
          have hfz43_2 := blk_frozen BK102.out 2
          have hfz43_3 := blk_frozen BK102.out 3
          have hfz43_4 := blk_frozen BK102.out 4
          have hfz43_5 := blk_frozen BK102.out 5
          go_wp2
          refine bodyPost_ret (results_cell_row rfl _ _ gb102 25 #[.int .i64 a1_0, .int .i64 a1_1, .string a1_2, .int .i64 a1_3, .int .i64 a1_4, .bool a1_5] (0, 0) _ rfl (by (with_reducible repeat (first | refine blk_drewN ?_ _ | refine blk_drew ?_ | refine blk_alloc ?_ _)); refine blk_put (cs := #[.int .i64 a1_0, .int .i64 a1_1, .string a1_2, .int .i64 a1_3, .int .i64 a1_4, .bool false]) ?_ 5 _ rfl; (with_reducible repeat (first | refine blk_drewN ?_ _ | refine blk_drew ?_ | refine blk_alloc ?_ _)); refine blk_put (cs := #[.int .i64 a1_0, .int .i64 a1_1, .string a1_2, .int .i64 a1_3, .int .i64 0, .bool false]) ?_ 4 _ rfl; (with_reducible repeat (first | refine blk_drewN ?_ _ | refine blk_drew ?_ | refine blk_alloc ?_ _)); refine blk_put (cs := #[.int .i64 a1_0, .int .i64 a1_1, .string a1_2, .int .i64 0, .int .i64 0, .bool false]) ?_ 3 _ rfl; (with_reducible repeat (first | refine blk_drewN ?_ _ | refine blk_drew ?_ | refine blk_alloc ?_ _)); refine blk_put (cs := #[.int .i64 a1_0, .int .i64 a1_1, .string (⟨#[]⟩ : ByteArray), .int .i64 0, .int .i64 0, .bool false]) ?_ 2 _ rfl; (with_reducible repeat (first | refine blk_drewN ?_ _ | refine blk_drew ?_ | refine blk_alloc ?_ _)); refine blk_put (cs := #[.int .i64 a1_0, .int .i64 0, .string (⟨#[]⟩ : ByteArray), .int .i64 0, .int .i64 0, .bool false]) ?_ 1 _ rfl; (with_reducible repeat (first | refine blk_drewN ?_ _ | refine blk_drew ?_ | refine blk_alloc ?_ _)); refine blk_put (cs := #[.int .i64 0, .int .i64 0, .string (⟨#[]⟩ : ByteArray), .int .i64 0, .int .i64 0, .bool false]) ?_ 0 _ rfl; (with_reducible repeat (first | refine blk_drewN ?_ _ | refine blk_drew ?_ | refine blk_alloc ?_ _)); exact BK102.out) Tryz.underlying25 rfl (by kernel_rfl)) rfl ?_
          exact ⟨by first | rfl | (simp [errW_none, errW_some] <;> rfl) | (simp [*, errW_none, errW_some] <;> rfl), by repeat (first | (with_reducible first | exact HB.out | apply below_alloc | apply pw_below_drewN | apply below_drew1 | refine below_set ?_ GE101.out | refine below_set ?_ GE102.out) | exact HB.out)⟩

/-- A state of type 54 at block g of W; what its slices lead to came in by w0. -/
def IsS54 (w0 W : World) (g : Nat) (f0 : List Int) (f1 : Int) : Prop := ∃ A0 c0, W.heap[g]? = some (.cells #[.slice A0 f0.length c0, .int .i64 f1] 54 (0, 0)) ∧ w0.heap.size ≤ g ∧ Kd.C (Kd.int .u8) w0 A0 f0.length f0
theorem IsS54.grown {w0 W : World} {g : Nat} {f0 : List Int} {f1 : Int} {W1 : World} {row : Option Nat} (h : IsS54 w0 W g f0 f1) (hw : W.grownBy W1 row) (hne : some g ≠ row) : IsS54 w0 W1 g f0 f1 := by
  obtain ⟨A0, c0, hb, hg, hr0⟩ := h
  exact ⟨A0, c0, blk_grown hb hw hne, hg, hr0⟩
theorem IsS54.kept {w0 W : World} {g : Nat} {f0 : List Int} {f1 : Int} {W1 : World} {S : Nat → Prop} (h : IsS54 w0 W g f0 f1) (hk : Kept W W1 S) (hne : ¬ S g) : IsS54 w0 W1 g f0 f1 := by
  obtain ⟨A0, c0, hb, hg, hr0⟩ := h
  exact ⟨A0, c0, blk_kept hb hk hne, hg, hr0⟩
theorem IsS54.below {w0 W : World} {g : Nat} {f0 : List Int} {f1 : Int} {W1 : World} (h : IsS54 w0 W g f0 f1) (hw : Below W.heap.size W W1) : IsS54 w0 W1 g f0 f1 := h.grown (grown_of_below hw none) (by simp)
theorem IsS54.alloc {w0 W : World} {g : Nat} {f0 : List Int} {f1 : Int} (h : IsS54 w0 W g f0 f1) (o : Obj) : IsS54 w0 (W.alloc o) g f0 f1 := h.below (below_alloc (Below.refl _ _) o)
theorem IsS54.drewN {w0 W : World} {g : Nat} {f0 : List Int} {f1 : Int} (h : IsS54 w0 W g f0 f1) (m : Nat) : IsS54 w0 (W.drewN m) g f0 f1 := h
theorem IsS54.drew {w0 W : World} {g : Nat} {f0 : List Int} {f1 : Int} (h : IsS54 w0 W g f0 f1) : IsS54 w0 W.drew g f0 f1 := h
theorem IsS54.at_ {w0 W : World} {g : Nat} {f0 : List Int} {f1 : Int} {w' : World} {m : Nat} (hq : W.drewN m = w') (h : IsS54 w0 W g f0 f1) : IsS54 w0 w' g f0 f1 := by subst hq; exact IsS54.drewN h m
theorem IsS54.own_ne {w0 W : World} {g : Nat} {f0 : List Int} {f1 : Int} {α : Type} {d : Kd α} {e : Nat} {base : Nat} {ok : Nat → Prop} {v : Value} {xs : List α} (h : IsS54 w0 W g f0 f1) (ho : d.R e W base ok v xs) (ht : e ≠ 54) : some g ≠ v.ownBlock := by
  obtain ⟨A0, c0, hb, hg, hr0⟩ := h
  exact Kd.R_ne ho hb ht
theorem IsS54.ge {w0 W : World} {g : Nat} {f0 : List Int} {f1 : Int} (h : IsS54 w0 W g f0 f1) : w0.heap.size ≤ g := by
  obtain ⟨A0, c0, hb, hg, hr0⟩ := h
  exact hg
theorem cellS54_0 {W : World} {g : Nat} {A0 : Option Addr} {c0 : Nat} {f0 : List Int} {f1 : Int} (h : W.heap[g]? = some (.cells #[.slice A0 f0.length c0, .int .i64 f1] 54 (0, 0))) : W.cell? ⟨g, 0, none⟩ = some (.slice A0 f0.length c0) := (blk_cell h 0).trans rfl
theorem cellS54_1 {W : World} {g : Nat} {A0 : Option Addr} {c0 : Nat} {f0 : List Int} {f1 : Int} (h : W.heap[g]? = some (.cells #[.slice A0 f0.length c0, .int .i64 f1] 54 (0, 0))) : W.cell? ⟨g, 1, none⟩ = some (.int .i64 f1) := (blk_cell h 1).trans rfl
theorem IsS54.set_1 {w0 W : World} {g : Nat} {f0 : List Int} {f1 : Int} (h : IsS54 w0 W g f0 f1) (x : Int) : IsS54 w0 (W.setCell ⟨g, 1, none⟩ (.int .i64 x)) g f0 x := by
  obtain ⟨A0, c0, hb, hg, hr0⟩ := h
  exact ⟨A0, c0, by simpa using blk_set hb 1 (.int .i64 x), hg, hr0⟩
theorem IsS54.new (w0 W : World) (A0 : Option Addr) (c0 : Nat) (f0 : List Int) (f1 : Int) (hB : Below w0.heap.size w0 W) (hr0 : Kd.C (Kd.int .u8) w0 A0 f0.length f0) : IsS54 w0 (W.alloc (.cells #[.slice A0 f0.length c0, .int .i64 f1] 54)) W.heap.size f0 f1 := ⟨A0, c0, by simpa using heap_alloc_new W _, hB.size, hr0⟩

def impl_reader_Left.f (s0_0 : List Int) (s0_1 : Int) : Option (Int × Int) := some (wrap64 ((s0_0.length : Int) - s0_1), s0_1)
set_option maxHeartbeats 8000000 in
set_option maxRecDepth 100000 in
theorem impl_reader_Left.calls (g : Nat) (s0_0 : List Int) (s0_1 : Int) (r1 : Int) (r2 : Int) (w0 w : World) (hI : IsS54 w0 w g s0_0 s0_1) (hB : Below w0.heap.size w0 w) (h : impl_reader_Left.f s0_0 s0_1 = some (r1, r2)) :
    Calls Tryz.prog 19 #[.pointer (some ⟨g, 0, none⟩)] w fun e w' => e = .returned (.int .i64 r1) ∧ IsS54 w0 w' g s0_0 r2 ∧ Below w0.heap.size w0 w' ∧ KeepBut w w' g none := by
  have HI0 := Aside0.mk hI
  have HK := Aside0.mk (KeepBut.refl w g none)
  have HL := Aside0.mk hB.size
  clear hI
  have HW0 := Aside0.mk hB.size
  have HB := Aside0.mk hB
  clear hB
  have H : (some (wrap64 ((s0_0.length : Int) - s0_1), s0_1)) = some (r1, r2) := h
  clear h
  simp only [Option.some.injEq, Prod.mk.injEq] at H
  obtain ⟨rfl, rfl⟩ := H
  obtain ⟨ASz2_0, cSz2_0, HGz2, hgz2, HSz2_0⟩ := HI0.out
  have hcz2_0 := cellS54_0 HGz2
  have hcz2_1 := cellS54_1 HGz2
  have hfz2_1 := blk_frozen HGz2 1
  clear HGz2 hgz2
  go_enter Tryz.func19, Tryz.ntmps19
  go_wp2
  repeat (go_quiet (fail); try go_wp2)
  go_ret
  exact ⟨by first | rfl | (simp [errW_none, errW_some] <;> rfl) | (simp [*, errW_none, errW_some] <;> rfl), by repeat (first | (with_reducible first | exact HI0.out | apply IsS54.alloc | apply IsS54.drewN | apply IsS54.drew | apply IsS54.set_1) | exact HI0.out), by repeat (first | (with_reducible first | exact HB.out | apply below_alloc | apply pw_below_drewN | apply below_drew1 | refine below_set ?_ (IsS54.ge HI0.out)) | exact HB.out), by repeat (first | (with_reducible first | exact HK.out | apply KeepBut.set_ | apply keep_drewN | apply keep_drew | apply keep_alloc) | exact HK.out)⟩

def spec_WRHigh.l0 : Nat → Int → List Int → Int → Option (List Int)
  | 0, _, _, _ => none
  | k + 1, x0, x5, x6 => if x6 ≥ 0 then (if 0 ≤ (IntKind.u64.wrap (wrap64 (8 * x6))) then (if x5.length < 140737488355328 then (spec_WRHigh.l0 k x0 (x5 ++ [(shr .u64 x0 (IntKind.u64.wrap (wrap64 (8 * x6)))) % 256]) (wrap64 (x6 - 1))) else (none)) else (none)) else (some x5)
def spec_WRHigh.f (k : Nat) (a0 : Int) (a1 : Int) : Option (List Int) := spec_WRHigh.l0 k a0 ([] : List Int) (wrap64 (a1 - 1))
theorem spec_WRHigh.mono_l : ∀ k, (∀ y0 y1 y2, LeO (spec_WRHigh.l0 k y0 y1 y2) (spec_WRHigh.l0 (k + 1) y0 y1 y2))
  | 0 => fun _ _ _ r h => by simp [spec_WRHigh.l0] at h
  | k + 1 => by
    have ih0 := spec_WRHigh.mono_l k
    · intro y0 y1 y2
      unfold spec_WRHigh.l0
      repeat' first
      | (with_reducible exact ih0 _ _ _)
      | (with_reducible exact LeO.refl _)
      | (with_reducible exact LeO.none _)
      | (with_reducible refine LeO.ite ?_ ?_)
      | (with_reducible refine LeO.bind ?_ (fun _ => ?_))
      | exact ih0 _ _ _
      | exact LeO.none _
      | refine LeO.ite ?_ ?_
      | refine LeO.bind ?_ (fun _ => ?_)
theorem spec_WRHigh.mono : ∀ a0 a1 k, LeO (spec_WRHigh.f k a0 a1) (spec_WRHigh.f (k + 1) a0 a1) := by
  intro a0 a1 k
  have ih0 := spec_WRHigh.mono_l k
  unfold spec_WRHigh.f
  repeat' first
      | (with_reducible exact ih0 _ _ _)
      | (with_reducible exact LeO.refl _)
      | (with_reducible exact LeO.none _)
      | (with_reducible refine LeO.ite ?_ ?_)
      | (with_reducible refine LeO.bind ?_ (fun _ => ?_))
      | exact ih0 _ _ _
      | exact LeO.none _
      | refine LeO.ite ?_ ?_
      | refine LeO.bind ?_ (fun _ => ?_)
set_option maxHeartbeats 8000000 in
set_option maxRecDepth 100000 in
theorem spec_WRHigh.calls (k : Nat) (a0 : Int) (a1 : Int) (r : List Int) (w : World) (h : spec_WRHigh.f k a0 a1 = some r) :
    Calls Tryz.prog 21 #[.int .u64 a0, .int .i64 a1] w fun e w' => ∃ v0_ : Value, e = .returned (v0_) ∧ Kd.R (Kd.int .u8) 5 w' w.heap.size (fun _ => True) v0_ r ∧ Below w.heap.size w w' := by
  have HB := Aside0.mk (Below.refl w.heap.size w)
  have H : (spec_WRHigh.l0 k a0 ([] : List Int) (wrap64 (a1 - 1))) = some r := h
  clear h
  have H' := Aside0.mk H
  clear H
  go_enter Tryz.func21, Tryz.ntmps21
  go_wp2
  go_loopg [5, 6] k (fun kq v5 v6 w' => ∃ (x5_1 : List Int) (x6_1 : Int), v6 = .int .i64 x6_1 ∧ Aside0 (spec_WRHigh.l0 kq a0 x5_1 x6_1 = some r) ∧ Aside0 (kq ≤ k) ∧ Aside0 (Kd.R (Kd.int .u8) 5 w' w.heap.size (fun _ => True) v5 x5_1) ∧ Aside0 (Below w.heap.size w w'))
  case atStart => exact ⟨(([] : List Int)), (wrap64 (a1 - 1)), (by first | rfl | (simp; done) | (simp [*]; done)), H', ⟨Nat.le_refl _⟩, ⟨by first | exact Kd.R_nil _ _ _ _ _ | exact Kd.N_nil _ _ _ _ _ | exact Kd.V_nil _ _ _ _ _ | exact Kd.Q_nil _ _ _ _ _ | exact Kd.S_nil _ _ _ _ _⟩, ⟨by repeat (first | (with_reducible first | exact HB.out | apply below_alloc | apply pw_below_drewN | apply below_drew1) | exact HB.out)⟩⟩
  case round =>
    clear H'
    try clear c2
    try clear p2
    obtain ⟨x5_1, x6_1, rfl, HA, HK1, HO_5, HB⟩ := hrel
    cases gk with
    | zero => exact absurd HA.out (by simp [spec_WRHigh.l0])
    | succ k1 =>
      have H := HA.out
      clear HA
      simp only [spec_WRHigh.l0] at H
      by_cases c3 : x6_1 ≥ 0
      · rw [if_pos c3] at H
        have c3b0 : decide (0 ≤ x6_1) = true := decide_eq_true c3
        clear c3
        obtain ⟨ji4, hji4⟩ : ∃ j_ : Int, (IntKind.u64.wrap (wrap64 (8 * x6_1))) = j_ := ⟨_, rfl⟩
        replace H : (if 0 ≤ (ji4) then (if x5_1.length < 140737488355328 then (spec_WRHigh.l0 k1 a0 (x5_1 ++ [(shr .u64 a0 (ji4)) % 256]) (wrap64 (x6_1 - 1))) else (none)) else (none)) = some r := by first | (rw [hji4] at H; exact H) | (simp only [hji4] at H ⊢; exact H)
        by_cases c5 : 0 ≤ (ji4)
        · rw [if_pos c5] at H
          have c5b0 := eq_true c5
          have c5b1 : decide (0 ≤ (ji4)) = true := decide_eq_true c5
          clear c5
          obtain ⟨ji6, hji6⟩ : ∃ j_ : Int, (shr .u64 a0 (ji4)) = j_ := ⟨_, rfl⟩
          replace H : (if x5_1.length < 140737488355328 then (spec_WRHigh.l0 k1 a0 (x5_1 ++ [(ji6) % 256]) (wrap64 (x6_1 - 1))) else (none)) = some r := by first | (rw [hji6] at H; exact H) | (simp only [hji6] at H ⊢; exact H)
          have hji6_ : (a0 / 2 ^ min (ji4).toNat 64) = ji6 := hji6
          have hji6z : (ji4) ≤ 64 → (a0 / 2 ^ (ji4).toNat) = ji6 := shr_small hji6
          by_cases c7 : x5_1.length < 140737488355328
          · rw [if_pos c7] at H
            have LMc7 := Aside0.mk c7
            clear c7
            obtain ⟨y105, hy105⟩ : ∃ y_ : List Int, y_ = (x5_1 ++ [(ji6) % 256]) := ⟨_, rfl⟩
            replace H : (spec_WRHigh.l0 k1 a0 y105 (wrap64 (x6_1 - 1))) = some r := by first | (rw [hy105]; with_reducible exact H) | (have H2_ := (Option.bind_some _ _).symm.trans H; rw [hy105]; with_reducible exact H2_) | (have H2_ := (Option.bind_some _ _).symm.trans H; with_reducible exact H2_) | with_reducible exact H | (rw [hy105]; exact H) | exact H
            have Ny105 := Aside0.mk hy105
            clear hy105
            have H' := Aside0.mk H
            clear H
            go_wp2_with (first | ((with_reducible refine gate_builtin (b := .append) (xs := #[.tmp 13, .tmp 20]) rfl ?_); at_builtin; refine Kd.R_append (Kd.int .u8) (w0 := w) w.heap.size rfl (.tmp 13) (.tmp 20) 28 5 (.int .u8 0) 1 rfl Tryz.underlying28 info5 rfl (by decide) (by omega) u5 x5_1 ((ji6) % 256) [.int .u8 ((ji6) % 256)] (fun _ => True) (fun _ => False) rfl rfl ?aP (fun _ hk => hk.elim) ?aF ?aO ?aB ?aS ?aL ?_; (case aP => exact rfl); (case aB => exact (by repeat (first | (with_reducible first | exact HB.out | apply below_alloc | apply pw_below_drewN | apply below_drew1) | exact HB.out))); (case aF => exact (fun _ _ => trivial)); (case aO => exact (by (with_reducible repeat (first | apply Kd.R_alloc | apply Kd.R_drewN | apply Kd.R_drew)); exact HO_5.out)); (case aS => exact (below_size (by repeat (first | (with_reducible first | exact HB.out | apply below_alloc | apply pw_below_drewN | apply below_drew1) | exact HB.out)))); (case aL => have := LMc7.out; omega); intro v106 w8 ho hb hg hat; rw [← Ny105.out] at ho; have n0_ := Aside0.mk (hb); have n1_ := Aside0.mk (ho); clear HB; clear HO_5; have HB := n0_; have HO107 := n1_; clear n0_ n1_; clear ho hb hg hat))
            go_roundg k1
            case measure => have := HK1.out; omega
            case rel => exact ⟨(y105), (wrap64 (x6_1 - 1)), (by first | rfl | (simp; done) | (simp [*]; done)), H', ⟨by have := HK1.out; omega⟩, ⟨by (with_reducible repeat (first | apply Kd.R_alloc | apply Kd.R_drewN | apply Kd.R_drew)); exact HO107.out⟩, ⟨by repeat (first | (with_reducible first | exact HB.out | apply below_alloc | apply pw_below_drewN | apply below_drew1) | exact HB.out)⟩⟩
          · rw [if_neg c7] at H
            exact absurd H (by simp)
        · rw [if_neg c5] at H
          exact absurd H (by simp)
      · rw [if_neg c3] at H
        have c3b0 : decide (0 ≤ x6_1) = false := decide_eq_false c3
        clear c3
        obtain rfl := Option.some.inj H
        go_wp2
        go_ret
        exact ⟨_, by first | rfl | (simp [errW_none, errW_some] <;> rfl) | (simp [*, errW_none, errW_some] <;> rfl), by (with_reducible repeat (first | apply Kd.R_alloc | apply Kd.R_drewN | apply Kd.R_drew)); exact HO_5.out, by repeat (first | (with_reducible first | exact HB.out | apply below_alloc | apply pw_below_drewN | apply below_drew1) | exact HB.out)⟩

def spec_WRVar.l0 : Nat → Int → List Int → Option (List Int)
  | 0, _, _ => none
  | k + 1, x0, x3 => if x0 > 127 then (if x3.length < 140737488355328 then (spec_WRVar.l0 k (x0 / 128) (x3 ++ [Go.bits .or .u8 ((x0) % 256) 128])) else (none)) else (if x3.length < 140737488355328 then (some (x3 ++ [(x0) % 256])) else (none))
def spec_WRVar.f (k : Nat) (a0 : Int) : Option (List Int) := spec_WRVar.l0 k a0 ([] : List Int)
theorem spec_WRVar.mono_l : ∀ k, (∀ y0 y1, LeO (spec_WRVar.l0 k y0 y1) (spec_WRVar.l0 (k + 1) y0 y1))
  | 0 => fun _ _ r h => by simp [spec_WRVar.l0] at h
  | k + 1 => by
    have ih0 := spec_WRVar.mono_l k
    · intro y0 y1
      unfold spec_WRVar.l0
      repeat' first
      | (with_reducible exact ih0 _ _)
      | (with_reducible exact LeO.refl _)
      | (with_reducible exact LeO.none _)
      | (with_reducible refine LeO.ite ?_ ?_)
      | (with_reducible refine LeO.bind ?_ (fun _ => ?_))
      | exact ih0 _ _
      | exact LeO.none _
      | refine LeO.ite ?_ ?_
      | refine LeO.bind ?_ (fun _ => ?_)
theorem spec_WRVar.mono : ∀ a0 k, LeO (spec_WRVar.f k a0) (spec_WRVar.f (k + 1) a0) := by
  intro a0 k
  have ih0 := spec_WRVar.mono_l k
  unfold spec_WRVar.f
  repeat' first
      | (with_reducible exact ih0 _ _)
      | (with_reducible exact LeO.refl _)
      | (with_reducible exact LeO.none _)
      | (with_reducible refine LeO.ite ?_ ?_)
      | (with_reducible refine LeO.bind ?_ (fun _ => ?_))
      | exact ih0 _ _
      | exact LeO.none _
      | refine LeO.ite ?_ ?_
      | refine LeO.bind ?_ (fun _ => ?_)
set_option maxHeartbeats 8000000 in
set_option maxRecDepth 100000 in
theorem spec_WRVar.calls (k : Nat) (a0 : Int) (r : List Int) (w : World) (h : spec_WRVar.f k a0 = some r) :
    Calls Tryz.prog 26 #[.int .u64 a0] w fun e w' => ∃ v0_ : Value, e = .returned (v0_) ∧ Kd.R (Kd.int .u8) 5 w' w.heap.size (fun _ => True) v0_ r ∧ Below w.heap.size w w' := by
  have HB := Aside0.mk (Below.refl w.heap.size w)
  have H : (spec_WRVar.l0 k a0 ([] : List Int)) = some r := h
  clear h
  have H' := Aside0.mk H
  clear H
  go_enter Tryz.func26, Tryz.ntmps26
  go_wp2
  go_loopg [0, 3] k (fun kq v0 v3 w' => ∃ (x0_1 : Int) (x3_1 : List Int), v0 = .int .u64 x0_1 ∧ Aside0 (spec_WRVar.l0 kq x0_1 x3_1 = some r) ∧ Aside0 (kq ≤ k) ∧ Aside0 (Kd.R (Kd.int .u8) 5 w' w.heap.size (fun _ => True) v3 x3_1) ∧ Aside0 (Below w.heap.size w w'))
  case atStart => exact ⟨(a0), (([] : List Int)), (by first | rfl | (simp; done) | (simp [*]; done)), H', ⟨Nat.le_refl _⟩, ⟨by first | exact Kd.R_nil _ _ _ _ _ | exact Kd.N_nil _ _ _ _ _ | exact Kd.V_nil _ _ _ _ _ | exact Kd.Q_nil _ _ _ _ _ | exact Kd.S_nil _ _ _ _ _⟩, ⟨by repeat (first | (with_reducible first | exact HB.out | apply below_alloc | apply pw_below_drewN | apply below_drew1) | exact HB.out)⟩⟩
  case round =>
    clear H'
    obtain ⟨x0_1, x3_1, rfl, HA, HK1, HO_3, HB⟩ := hrel
    cases gk with
    | zero => exact absurd HA.out (by simp [spec_WRVar.l0])
    | succ k1 =>
      have H := HA.out
      clear HA
      simp only [spec_WRVar.l0] at H
      by_cases c2 : x0_1 > 127
      · rw [if_pos c2] at H
        have c2b0 : decide (127 < x0_1) = true := decide_eq_true c2
        clear c2
        by_cases c3 : x3_1.length < 140737488355328
        · rw [if_pos c3] at H
          have LMc3 := Aside0.mk c3
          clear c3
          obtain ⟨y108, hy108⟩ : ∃ y_ : List Int, y_ = (x3_1 ++ [Go.bits .or .u8 ((x0_1) % 256) 128]) := ⟨_, rfl⟩
          replace H : (spec_WRVar.l0 k1 (x0_1 / 128) y108) = some r := by first | (rw [hy108]; with_reducible exact H) | (have H2_ := (Option.bind_some _ _).symm.trans H; rw [hy108]; with_reducible exact H2_) | (have H2_ := (Option.bind_some _ _).symm.trans H; with_reducible exact H2_) | with_reducible exact H | (rw [hy108]; exact H) | exact H
          have Ny108 := Aside0.mk hy108
          clear hy108
          have H' := Aside0.mk H
          clear H
          go_wp2_with (first | ((with_reducible refine gate_builtin (b := .append) (xs := #[.tmp 6, .tmp 10]) rfl ?_); at_builtin; refine Kd.R_append (Kd.int .u8) (w0 := w) w.heap.size rfl (.tmp 6) (.tmp 10) 28 5 (.int .u8 0) 1 rfl Tryz.underlying28 info5 rfl (by decide) (by omega) u3 x3_1 (Go.bits .or .u8 ((x0_1) % 256) 128) [.int .u8 (Go.bits .or .u8 ((x0_1) % 256) 128)] (fun _ => True) (fun _ => False) rfl rfl ?aP (fun _ hk => hk.elim) ?aF ?aO ?aB ?aS ?aL ?_; (case aP => exact rfl); (case aB => exact (by repeat (first | (with_reducible first | exact HB.out | apply below_alloc | apply pw_below_drewN | apply below_drew1) | exact HB.out))); (case aF => exact (fun _ _ => trivial)); (case aO => exact (by (with_reducible repeat (first | apply Kd.R_alloc | apply Kd.R_drewN | apply Kd.R_drew)); exact HO_3.out)); (case aS => exact (below_size (by repeat (first | (with_reducible first | exact HB.out | apply below_alloc | apply pw_below_drewN | apply below_drew1) | exact HB.out)))); (case aL => have := LMc3.out; omega); intro v109 w4 ho hb hg hat; rw [← Ny108.out] at ho; have n0_ := Aside0.mk (hb); have n1_ := Aside0.mk (ho); clear HB; clear HO_3; have HB := n0_; have HO110 := n1_; clear n0_ n1_; clear ho hb hg hat))
          go_roundg k1
          case measure => have := HK1.out; omega
          case rel => exact ⟨(x0_1 / 128), (y108), (by first | rfl | (simp; done) | (simp [*]; done)), H', ⟨by have := HK1.out; omega⟩, ⟨by (with_reducible repeat (first | apply Kd.R_alloc | apply Kd.R_drewN | apply Kd.R_drew)); exact HO110.out⟩, ⟨by repeat (first | (with_reducible first | exact HB.out | apply below_alloc | apply pw_below_drewN | apply below_drew1) | exact HB.out)⟩⟩
        · rw [if_neg c3] at H
          exact absurd H (by simp)
      · rw [if_neg c2] at H
        have c2b0 : decide (127 < x0_1) = false := decide_eq_false c2
        clear c2
        by_cases c5 : x3_1.length < 140737488355328
        · rw [if_pos c5] at H
          have LMc5 := Aside0.mk c5
          clear c5
          obtain ⟨y111, hy111⟩ : ∃ y_ : List Int, y_ = (x3_1 ++ [(x0_1) % 256]) := ⟨_, rfl⟩
          replace H : (some y111) = some r := by first | (rw [hy111]; with_reducible exact H) | (have H2_ := (Option.bind_some _ _).symm.trans H; rw [hy111]; with_reducible exact H2_) | (have H2_ := (Option.bind_some _ _).symm.trans H; with_reducible exact H2_) | with_reducible exact H | (rw [hy111]; exact H) | exact H
          have Ny111 := Aside0.mk hy111
          clear hy111
          obtain rfl := Option.some.inj H
          go_wp2_with (first | ((with_reducible refine gate_builtin (b := .append) (xs := #[.tmp 14, .tmp 17]) rfl ?_); at_builtin; refine Kd.R_append (Kd.int .u8) (w0 := w) w.heap.size rfl (.tmp 14) (.tmp 17) 28 5 (.int .u8 0) 1 rfl Tryz.underlying28 info5 rfl (by decide) (by omega) u3 x3_1 ((x0_1) % 256) [.int .u8 ((x0_1) % 256)] (fun _ => True) (fun _ => False) rfl rfl ?aP (fun _ hk => hk.elim) ?aF ?aO ?aB ?aS ?aL ?_; (case aP => exact rfl); (case aB => exact (by repeat (first | (with_reducible first | exact HB.out | apply below_alloc | apply pw_below_drewN | apply below_drew1) | exact HB.out))); (case aF => exact (fun _ _ => trivial)); (case aO => exact (by (with_reducible repeat (first | apply Kd.R_alloc | apply Kd.R_drewN | apply Kd.R_drew)); exact HO_3.out)); (case aS => exact (below_size (by repeat (first | (with_reducible first | exact HB.out | apply below_alloc | apply pw_below_drewN | apply below_drew1) | exact HB.out)))); (case aL => have := LMc5.out; omega); intro v112 w6 ho hb hg hat; rw [← Ny111.out] at ho; have n0_ := Aside0.mk (hb); have n1_ := Aside0.mk (ho); clear HB; clear HO_3; have HB := n0_; have HO113 := n1_; clear n0_ n1_; clear ho hb hg hat))
          go_ret
          exact ⟨_, by first | rfl | (simp [errW_none, errW_some] <;> rfl) | (simp [*, errW_none, errW_some] <;> rfl), by (with_reducible repeat (first | apply Kd.R_alloc | apply Kd.R_drewN | apply Kd.R_drew)); exact HO113.out, by repeat (first | (with_reducible first | exact HB.out | apply below_alloc | apply pw_below_drewN | apply below_drew1) | exact HB.out)⟩
        · rw [if_neg c5] at H
          exact absurd H (by simp)

end Go.Proofs.YtmjilokgpgajjaaGreat.PFnTHScripts

