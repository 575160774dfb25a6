/- Texts of this seat, cut down by shake.py. -/
import Derived.Test.YtmjilokgpgajjaaGreatSPFnTHScriptsx0
namespace Go.Proofs.YtmjilokgpgajjaaGreat.PFnTHScripts
open Go.RowKit Go.Proofs.YtmjilokgpgajjaaGreatW.PrintWords Go.Proofs.YtmjilokgpgajjaaGreatW.PrintLast Go.Proofs.YtmjilokgpgajjaaGreatW.PrintMore
attribute [local go_sem] max2_int min2_int max_two min_two max_three min_three max_four min_four   -- for this text's walks alone
set_option linter.unusedVariables false
set_option linter.unusedSimpArgs false

mutual
def spec_WRCut.j0 : Nat → Int → Int → Bool → Option (Int)
  | 0, _, _, _ => none
  | k + 1, x1, x5, x15 => if x15 = true then (some (wrap64 (IntKind.i16.wrap (x1)))) else (if x5 = 4 then (spec_WRCut.j1 k x1 x5 (x5 == 4)) else (spec_WRCut.j1 k x1 x5 (x5 == 10)))
def spec_WRCut.j1 : Nat → Int → Int → Bool → Option (Int)
  | 0, _, _, _ => none
  | k + 1, x1, x5, x21 => if x21 = true then (some (wrap64 (wrap32 (x1)))) else (if x5 = 9 then (some (Go.bits .and .i64 x1 1048575)) else (if x5 = 12 then (some (Go.bits .and .i64 x1 1048575)) else (if x5 = 13 then (some (Go.bits .and .i64 x1 1048575)) else (if x5 = 14 then (some (Go.bits .and .i64 x1 1048575)) else (some x1)))))
end
def spec_WRCut.f (k : Nat) (a0 : Int) (a1 : Int) : Option (Int) := if a0 = 1 then (some (Go.bits .and .i64 a1 1)) else (if a0 = 2 then (some (wrap64 (IntKind.i8.wrap (a1)))) else (if a0 = 3 then (spec_WRCut.j0 k a1 a0 (a0 == 3)) else (spec_WRCut.j0 k a1 a0 (a0 == 11))))
theorem spec_WRCut.mono_l : ∀ k, (∀ y0 y1 y2, LeO (spec_WRCut.j0 k y0 y1 y2) (spec_WRCut.j0 (k + 1) y0 y1 y2)) ∧ (∀ y0 y1 y2, LeO (spec_WRCut.j1 k y0 y1 y2) (spec_WRCut.j1 (k + 1) y0 y1 y2))
  | 0 => ⟨fun _ _ _ r h => by simp [spec_WRCut.j0] at h, fun _ _ _ r h => by simp [spec_WRCut.j1] at h⟩
  | k + 1 => by
    obtain ⟨ih0, ih1⟩ := spec_WRCut.mono_l k
    refine ⟨?_, ?_⟩
    · intro y0 y1 y2
      unfold spec_WRCut.j0
      repeat' first
      | (with_reducible exact ih0 _ _ _)
      | (with_reducible exact ih1 _ _ _)
      | (with_reducible exact LeO.refl _)
      | (with_reducible exact LeO.none _)
      | (with_reducible refine LeO.ite ?_ ?_)
      | (with_reducible refine LeO.bind ?_ (fun _ => ?_))
      | exact ih0 _ _ _
      | exact ih1 _ _ _
      | exact LeO.none _
      | refine LeO.ite ?_ ?_
      | refine LeO.bind ?_ (fun _ => ?_)
    · intro y0 y1 y2
      unfold spec_WRCut.j1
      repeat' first
      | (with_reducible exact ih0 _ _ _)
      | (with_reducible exact ih1 _ _ _)
      | (with_reducible exact LeO.refl _)
      | (with_reducible exact LeO.none _)
      | (with_reducible refine LeO.ite ?_ ?_)
      | (with_reducible refine LeO.bind ?_ (fun _ => ?_))
      | exact ih0 _ _ _
      | exact ih1 _ _ _
      | exact LeO.none _
      | refine LeO.ite ?_ ?_
      | refine LeO.bind ?_ (fun _ => ?_)
theorem spec_WRCut.mono : ∀ a0 a1 k, LeO (spec_WRCut.f k a0 a1) (spec_WRCut.f (k + 1) a0 a1) := by
  intro a0 a1 k
  obtain ⟨ih0, ih1⟩ := spec_WRCut.mono_l k
  unfold spec_WRCut.f
  repeat' first
      | (with_reducible exact ih0 _ _ _)
      | (with_reducible exact ih1 _ _ _)
      | (with_reducible exact LeO.refl _)
      | (with_reducible exact LeO.none _)
      | (with_reducible refine LeO.ite ?_ ?_)
      | (with_reducible refine LeO.bind ?_ (fun _ => ?_))
      | exact ih0 _ _ _
      | exact ih1 _ _ _
      | exact LeO.none _
      | refine LeO.ite ?_ ?_
      | refine LeO.bind ?_ (fun _ => ?_)
set_option maxHeartbeats 8000000 in
set_option maxRecDepth 100000 in
theorem spec_WRCut.calls (k : Nat) (a0 : Int) (a1 : Int) (r : Int) (w : World) (h : spec_WRCut.f k a0 a1 = some r) :
    Calls Tryz.prog 15 #[.int .i64 a0, .int .i64 a1] w fun e w' => e = .returned (.int .i64 r) ∧ Drawn0 w w' := by
  have H : (if a0 = 1 then (some (Go.bits .and .i64 a1 1)) else (if a0 = 2 then (some (wrap64 (IntKind.i8.wrap (a1)))) else (if a0 = 3 then (spec_WRCut.j0 k a1 a0 (a0 == 3)) else (spec_WRCut.j0 k a1 a0 (a0 == 11))))) = some r := h
  clear h
  by_cases c3 : a0 = 1
  · rw [if_pos c3] at H
    have c3b0 : (a0 == 1) = true := beq_iff_eq.mpr c3
    have c3b1 : (a0 != 1) = false := bne_eq_false_iff_eq.mpr c3
    clear c3
    obtain rfl := Option.some.inj H
    go_enter Tryz.func15, Tryz.ntmps15
    go_wp2
    go_ret
    exact ⟨by first | rfl | (simp; done) | (simp [*]; done), by repeat (first | exact Drawn0.refl _ | apply Drawn0.step)⟩
  · rw [if_neg c3] at H
    have c3b0 : (a0 == 1) = false := beq_eq_false_iff_ne.mpr c3
    have c3b1 : (a0 != 1) = true := bne_iff_ne.mpr c3
    by_cases c4 : a0 = 2
    · rw [if_pos c4] at H
      have c4b0 : (a0 == 2) = true := beq_iff_eq.mpr c4
      have c4b1 : (a0 != 2) = false := bne_eq_false_iff_eq.mpr c4
      clear c4
      obtain rfl := Option.some.inj H
      go_enter Tryz.func15, Tryz.ntmps15
      go_wp2
      go_ret
      exact ⟨by first | rfl | (simp; done) | (simp [*]; done), by repeat (first | exact Drawn0.refl _ | apply Drawn0.step)⟩
    · rw [if_neg c4] at H
      have c4b0 : (a0 == 2) = false := beq_eq_false_iff_ne.mpr c4
      have c4b1 : (a0 != 2) = true := bne_iff_ne.mpr c4
      have HC5 := Aside0.mk H
      clear H
      go_enter Tryz.func15, Tryz.ntmps15
      go_upto_if 15 with (fail)
      go_cut [15] (fun v15 wc => ∃ (kq : Nat) (x15_4 : Bool), v15 = .bool x15_4 ∧ Aside0 (spec_WRCut.j0 kq a1 a0 x15_4 = some r) ∧ Aside0 (kq ≤ k) ∧ Drawn0 w wc)
      case first =>
        have H := HC5.out
        clear HC5
        by_cases c6 : a0 = 3
        · rw [if_pos c6] at H
          have c6b0 : (a0 == 3) = true := beq_iff_eq.mpr c6
          have c6b1 : (a0 != 3) = false := bne_eq_false_iff_eq.mpr c6
          clear c6
          (first | rw [c6b0] | (simp only [i64_w, i32_w]; rw [c6b0]) | skip)
          have H' := Aside0.mk H
          clear H
          go_wp2
          go_meet
          case rel => exact ⟨_, ((a0 == 3)), (by first | rfl | (simp; done) | (simp [*]; done)), H', ⟨by first | omega | exact Nat.le_refl _⟩, by repeat (first | exact Drawn0.refl _ | apply Drawn0.step)⟩
        · rw [if_neg c6] at H
          have c6b0 : (a0 == 3) = false := beq_eq_false_iff_ne.mpr c6
          have c6b1 : (a0 != 3) = true := bne_iff_ne.mpr c6
          (first | rw [c6b0] | (simp only [i64_w, i32_w]; rw [c6b0]) | skip)
          have H' := Aside0.mk H
          clear H
          go_wp2
          go_meet
          case rel => exact ⟨_, ((a0 == 11)), (by first | rfl | (simp; done) | (simp [*]; done)), H', ⟨by first | omega | exact Nat.le_refl _⟩, by repeat (first | exact Drawn0.refl _ | apply Drawn0.step)⟩
      case rest =>
        clear HC5
        try clear c1
        try clear p2
        try clear c3
        try clear c3b0
        try clear c3b1
        try clear c4
        try clear c4b0
        try clear c4b1
        try clear c6
        try clear c6b0
        try clear c6b1
        try clear p6
        obtain ⟨kq, x15_4, rfl, HA, HJ4, ⟨mc4, rfl⟩⟩ := hcut
        cases kq with
        | zero => exact absurd HA.out (by simp [spec_WRCut.j0])
        | succ kj4 =>
          have H := HA.out
          clear HA
          simp only [spec_WRCut.j0] at H
          by_cases c7 : x15_4 = true
          · subst c7
            have H1 : (some (wrap64 (IntKind.i16.wrap (a1)))) = some r := by rw [if_pos rfl] at H; exact H
            clear H
            have H := H1
            clear H1
            obtain rfl := Option.some.inj H
            go_wp2
            go_ret
            exact ⟨by first | rfl | (simp; done) | (simp [*]; done), by repeat (first | exact Drawn0.refl _ | apply Drawn0.step)⟩
          · replace c7 := Bool.eq_false_iff.mpr c7
            subst c7
            have H1 : (if a0 = 4 then (spec_WRCut.j1 kj4 a1 a0 (a0 == 4)) else (spec_WRCut.j1 kj4 a1 a0 (a0 == 10))) = some r := by rw [if_neg (show ¬ (false = true) by decide)] at H; exact H
            clear H
            have H := H1
            clear H1
            have HC8 := Aside0.mk H
            clear H
            go_upto_if 21 with (fail)
            go_cut [21] (fun v21 wc => ∃ (kq : Nat) (x21_7 : Bool), v21 = .bool x21_7 ∧ Aside0 (spec_WRCut.j1 kq a1 a0 x21_7 = some r) ∧ Aside0 (kq ≤ kj4) ∧ Drawn0 w wc)
            case first =>
              have H := HC8.out
              clear HC8
              by_cases c9 : a0 = 4
              · rw [if_pos c9] at H
                have c9b0 : (a0 == 4) = true := beq_iff_eq.mpr c9
                have c9b1 : (a0 != 4) = false := bne_eq_false_iff_eq.mpr c9
                clear c9
                (first | rw [c9b0] | (simp only [i64_w, i32_w]; rw [c9b0]) | skip)
                have H' := Aside0.mk H
                clear H
                go_wp2
                go_meet
                case rel => exact ⟨_, ((a0 == 4)), (by first | rfl | (simp; done) | (simp [*]; done)), H', ⟨by have := HJ4.out; first | omega | exact Nat.le_refl _⟩, by repeat (first | exact Drawn0.refl _ | apply Drawn0.step)⟩
              · rw [if_neg c9] at H
                have c9b0 : (a0 == 4) = false := beq_eq_false_iff_ne.mpr c9
                have c9b1 : (a0 != 4) = true := bne_iff_ne.mpr c9
                (first | rw [c9b0] | (simp only [i64_w, i32_w]; rw [c9b0]) | skip)
                have H' := Aside0.mk H
                clear H
                go_wp2
                go_meet
                case rel => exact ⟨_, ((a0 == 10)), (by first | rfl | (simp; done) | (simp [*]; done)), H', ⟨by have := HJ4.out; first | omega | exact Nat.le_refl _⟩, by repeat (first | exact Drawn0.refl _ | apply Drawn0.step)⟩
            case rest =>
              clear HC8
              try clear c1
              try clear p2
              try clear c3
              try clear c3b0
              try clear c3b1
              try clear c4
              try clear c4b0
              try clear c4b1
              try clear c6
              try clear c6b0
              try clear c6b1
              try clear p6
              try clear c7
              try clear c9
              try clear c9b0
              try clear c9b1
              try clear p2
              try clear p6
              obtain ⟨kq, x21_7, rfl, HA, HJ7, ⟨mc7, rfl⟩⟩ := hcut
              cases kq with
              | zero => exact absurd HA.out (by simp [spec_WRCut.j1])
              | succ kj7 =>
                have H := HA.out
                clear HA
                simp only [spec_WRCut.j1] at H
                by_cases c10 : x21_7 = true
                · subst c10
                  have H1 : (some (wrap64 (wrap32 (a1)))) = some r := by rw [if_pos rfl] at H; exact H
                  clear H
                  have H := H1
                  clear H1
                  obtain rfl := Option.some.inj H
                  go_wp2
                  go_ret
                  exact ⟨by first | rfl | (simp; done) | (simp [*]; done), by repeat (first | exact Drawn0.refl _ | apply Drawn0.step)⟩
                · replace c10 := Bool.eq_false_iff.mpr c10
                  subst c10
                  have H1 : (if a0 = 9 then (some (Go.bits .and .i64 a1 1048575)) else (if a0 = 12 then (some (Go.bits .and .i64 a1 1048575)) else (if a0 = 13 then (some (Go.bits .and .i64 a1 1048575)) else (if a0 = 14 then (some (Go.bits .and .i64 a1 1048575)) else (some a1))))) = some r := by rw [if_neg (show ¬ (false = true) by decide)] at H; exact H
                  clear H
                  have H := H1
                  clear H1
                  by_cases c11 : a0 = 9
                  · rw [if_pos c11] at H
                    have c11b0 : (a0 == 9) = true := beq_iff_eq.mpr c11
                    have c11b1 : (a0 != 9) = false := bne_eq_false_iff_eq.mpr c11
                    clear c11
                    obtain rfl := Option.some.inj H
                    go_wp2
                    go_ret
                    exact ⟨by first | rfl | (simp; done) | (simp [*]; done), by repeat (first | exact Drawn0.refl _ | apply Drawn0.step)⟩
                  · rw [if_neg c11] at H
                    have c11b0 : (a0 == 9) = false := beq_eq_false_iff_ne.mpr c11
                    have c11b1 : (a0 != 9) = true := bne_iff_ne.mpr c11
                    by_cases c12 : a0 = 12
                    · rw [if_pos c12] at H
                      have c12b0 : (a0 == 12) = true := beq_iff_eq.mpr c12
                      have c12b1 : (a0 != 12) = false := bne_eq_false_iff_eq.mpr c12
                      clear c12
                      obtain rfl := Option.some.inj H
                      go_wp2
                      go_ret
                      exact ⟨by first | rfl | (simp; done) | (simp [*]; done), by repeat (first | exact Drawn0.refl _ | apply Drawn0.step)⟩
                    · rw [if_neg c12] at H
                      have c12b0 : (a0 == 12) = false := beq_eq_false_iff_ne.mpr c12
                      have c12b1 : (a0 != 12) = true := bne_iff_ne.mpr c12
                      by_cases c13 : a0 = 13
                      · rw [if_pos c13] at H
                        have c13b0 : (a0 == 13) = true := beq_iff_eq.mpr c13
                        have c13b1 : (a0 != 13) = false := bne_eq_false_iff_eq.mpr c13
                        clear c13
                        obtain rfl := Option.some.inj H
                        go_wp2
                        go_ret
                        exact ⟨by first | rfl | (simp; done) | (simp [*]; done), by repeat (first | exact Drawn0.refl _ | apply Drawn0.step)⟩
                      · rw [if_neg c13] at H
                        have c13b0 : (a0 == 13) = false := beq_eq_false_iff_ne.mpr c13
                        have c13b1 : (a0 != 13) = true := bne_iff_ne.mpr c13
                        by_cases c14 : a0 = 14
                        · rw [if_pos c14] at H
                          have c14b0 : (a0 == 14) = true := beq_iff_eq.mpr c14
                          have c14b1 : (a0 != 14) = false := bne_eq_false_iff_eq.mpr c14
                          clear c14
                          obtain rfl := Option.some.inj H
                          go_wp2
                          go_ret
                          exact ⟨by first | rfl | (simp; done) | (simp [*]; done), by repeat (first | exact Drawn0.refl _ | apply Drawn0.step)⟩
                        · rw [if_neg c14] at H
                          have c14b0 : (a0 == 14) = false := beq_eq_false_iff_ne.mpr c14
                          have c14b1 : (a0 != 14) = true := bne_iff_ne.mpr c14
                          obtain rfl := Option.some.inj H
                          go_wp2
                          go_ret
                          exact ⟨by first | rfl | (simp; done) | (simp [*]; done), by repeat (first | exact Drawn0.refl _ | apply Drawn0.step)⟩

def laws_wrRead.f (a0 : Int) (a1_0 : Int) (a1_1 : Int) (a1_2 : ByteArray) (a1_3 : Int) (a1_4 : Int) (a1_5 : Bool) : Option (Int × Int × ByteArray × Int × Int × Bool) := if a0 = 2 then (if a1_0 = 14 then (if a1_1 = 0 then (if a1_0 = 11 then (some (a1_0, a1_1, a1_2, 0, 0, decide (a1_1 < 16))) else (some (a1_0, a1_1, a1_2, 0, 0, false))) else (if a1_0 = 11 then (some (a1_0, a1_1, a1_2, a1_3, a1_4, decide (a1_1 < 16))) else (some (a1_0, a1_1, a1_2, a1_3, a1_4, false)))) else (if a1_0 = 11 then (some (a1_0, a1_1, a1_2, a1_3, a1_4, decide (a1_1 < 16))) else (some (a1_0, a1_1, a1_2, a1_3, a1_4, false)))) else (some (a1_0, a1_1, a1_2, a1_3, a1_4, false))
set_option maxHeartbeats 8000000 in
set_option maxRecDepth 100000 in
theorem laws_wrRead.calls (a0 : Int) (a1_0 : Int) (a1_1 : Int) (a1_2 : ByteArray) (a1_3 : Int) (a1_4 : Int) (a1_5 : Bool) (r1 : Int) (r2 : Int) (r3 : ByteArray) (r4 : Int) (r5 : Int) (r6 : Bool) (w : World) (h : laws_wrRead.f a0 a1_0 a1_1 a1_2 a1_3 a1_4 a1_5 = some (r1, r2, r3, r4, r5, r6)) :
    Calls Tryz.prog 14 #[.int .i64 a0, .agg #[.int .i64 a1_0, .int .i64 a1_1, .string a1_2, .int .i64 a1_3, .int .i64 a1_4, .bool a1_5]] w fun e w' => e = .returned (.agg #[.int .i64 r1, .int .i64 r2, .string r3, .int .i64 r4, .int .i64 r5, .bool r6]) ∧ Below w.heap.size w w' := by
  have hu25 := Tryz.underlying25
  have HB := Aside0.mk (Below.refl w.heap.size w)
  have H : (if a0 = 2 then (if a1_0 = 14 then (if a1_1 = 0 then (if a1_0 = 11 then (some (a1_0, a1_1, a1_2, 0, 0, decide (a1_1 < 16))) else (some (a1_0, a1_1, a1_2, 0, 0, false))) else (if a1_0 = 11 then (some (a1_0, a1_1, a1_2, a1_3, a1_4, decide (a1_1 < 16))) else (some (a1_0, a1_1, a1_2, a1_3, a1_4, false)))) else (if a1_0 = 11 then (some (a1_0, a1_1, a1_2, a1_3, a1_4, decide (a1_1 < 16))) else (some (a1_0, a1_1, a1_2, a1_3, a1_4, false)))) else (some (a1_0, a1_1, a1_2, a1_3, a1_4, false))) = some (r1, r2, r3, r4, r5, r6) := h
  clear h
  by_cases c3 : a0 = 2
  · rw [if_pos c3] at H
    have c3b0 : (a0 == 2) = true := beq_iff_eq.mpr c3
    have c3b1 : (a0 != 2) = false := bne_eq_false_iff_eq.mpr c3
    clear c3
    by_cases c4 : a1_0 = 14
    · rw [if_pos c4] at H
      have c4b0 : (a1_0 == 14) = true := beq_iff_eq.mpr c4
      have c4b1 : (a1_0 != 14) = false := bne_eq_false_iff_eq.mpr c4
      clear c4
      by_cases c5 : a1_1 = 0
      · rw [if_pos c5] at H
        have c5b0 : (a1_1 == 0) = true := beq_iff_eq.mpr c5
        have c5b1 : (a1_1 != 0) = false := bne_eq_false_iff_eq.mpr c5
        clear c5
        by_cases c6 : a1_0 = 11
        · rw [if_pos c6] at H
          have c6b0 : (a1_0 == 11) = true := beq_iff_eq.mpr c6
          have c6b1 : (a1_0 != 11) = false := bne_eq_false_iff_eq.mpr c6
          clear c6
          simp only [Option.some.injEq, Prod.mk.injEq] at H
          obtain ⟨rfl, rfl, rfl, rfl, rfl, rfl⟩ := H
          go_enter Tryz.func14, Tryz.ntmps14
          go_wp2_with (first | ((with_reducible refine gate_dst (N := 3) rfl ?_); refine box_event ?hg (N := 3) ?hd (cs := #[.int .i64 a1_0, .int .i64 a1_1, .string a1_2, .int .i64 a1_3, .int .i64 a1_4, .bool a1_5]) (t := 25) ?hr ?_; (case hd => rfl); (case hg => rfl); (case hr => first | (go_simp; done) | (go_simp; rfl)); intro gb133 hg w7 hbox hb; have n0_ := Aside0.mk (below_step (by repeat (first | (with_reducible first | exact HB.out | apply below_alloc | apply pw_below_drewN | apply below_drew1) | exact HB.out)) hb); have n1_ := Aside0.mk (hbox); have n2_ := Aside0.mk ((by rw [hg]; exact (below_size (by repeat (first | (with_reducible first | exact HB.out | apply below_alloc | apply pw_below_drewN | apply below_drew1) | exact HB.out))) : w.heap.size ≤ gb133)); have n3_ := Aside0.mk ((by rw [hg]; exact (below_size (by repeat (first | (with_reducible first | exact HB.out | apply below_alloc | apply pw_below_drewN | apply below_drew1) | exact HB.out))) : w.heap.size ≤ gb133)); clear HB; have HB := n0_; have BK133 := n1_; have GW133 := n2_; have GE133 := n3_; clear n0_ n1_ n2_ n3_; clear hb hbox hg) | ((with_reducible refine gate_dst (N := 4) rfl ?_); refine box_event ?hg (N := 4) ?hd (cs := #[.int .i64 0, .int .i64 0, .string (⟨#[]⟩ : ByteArray), .int .i64 0, .int .i64 0, .bool false]) (t := 25) ?hr ?_; (case hd => rfl); (case hg => rfl); (case hr => first | (go_simp; done) | (go_simp; rfl)); intro gb134 hg w8 hbox hb; have n0_ := Aside0.mk (blk_below (g := gb133) (o := .cells #[.int .i64 a1_0, .int .i64 a1_1, .string a1_2, .int .i64 a1_3, .int .i64 a1_4, .bool a1_5] 25 (0, 0)) (by (with_reducible repeat (first | refine blk_drewN ?_ _ | refine blk_drew ?_ | refine blk_alloc ?_ _)); exact BK133.out) hb); have n1_ := Aside0.mk (below_step (by repeat (first | (with_reducible first | exact HB.out | apply below_alloc | apply pw_below_drewN | apply below_drew1 | refine below_set ?_ GE133.out) | exact HB.out)) hb); have n2_ := Aside0.mk (hbox); have n3_ := Aside0.mk ((by rw [hg]; exact (below_size (by repeat (first | (with_reducible first | exact HB.out | apply below_alloc | apply pw_below_drewN | apply below_drew1 | refine below_set ?_ GE133.out) | exact HB.out))) : w.heap.size ≤ gb134)); have n4_ := Aside0.mk ((by rw [hg]; exact (below_size (by repeat (first | (with_reducible first | exact HB.out | apply below_alloc | apply pw_below_drewN | apply below_drew1 | refine below_set ?_ GE133.out) | exact HB.out))) : w.heap.size ≤ gb134)); have n5_ := Aside0.mk ((by rw [hg]; exact Nat.ne_of_lt (blk_lt (g := gb133) (o := .cells #[.int .i64 a1_0, .int .i64 a1_1, .string a1_2, .int .i64 a1_3, .int .i64 a1_4, .bool a1_5] 25 (0, 0)) (by (with_reducible repeat (first | refine blk_drewN ?_ _ | refine blk_drew ?_ | refine blk_alloc ?_ _)); exact BK133.out)) : gb133 ≠ gb134)); have n6_ := Aside0.mk ((by rw [hg]; exact Nat.ne_of_gt (blk_lt (g := gb133) (o := .cells #[.int .i64 a1_0, .int .i64 a1_1, .string a1_2, .int .i64 a1_3, .int .i64 a1_4, .bool a1_5] 25 (0, 0)) (by (with_reducible repeat (first | refine blk_drewN ?_ _ | refine blk_drew ?_ | refine blk_alloc ?_ _)); exact BK133.out)) : gb134 ≠ gb133)); clear BK133; clear HB; have BK133 := n0_; have HB := n1_; have BK134 := n2_; have GW134 := n3_; have GE134 := n4_; have NB133_134 := n5_; have NB134_133 := n6_; clear n0_ n1_ n2_ n3_ n4_ n5_ n6_; clear hb hbox hg; have hnb9 := NB133_134.out; have hnc9 := NB134_133.out; have hcz10_0 : w8.cell? ⟨gb133, 0, none⟩ = some (.int .i64 a1_0) := (blk_cell BK133.out 0).trans rfl; have hcz10_1 : w8.cell? ⟨gb133, 1, none⟩ = some (.int .i64 a1_1) := (blk_cell BK133.out 1).trans rfl; have hcz10_2 : w8.cell? ⟨gb133, 2, none⟩ = some (.string a1_2) := (blk_cell BK133.out 2).trans rfl; have hcz10_3 : w8.cell? ⟨gb133, 3, none⟩ = some (.int .i64 a1_3) := (blk_cell BK133.out 3).trans rfl; have hcz10_4 : w8.cell? ⟨gb133, 4, none⟩ = some (.int .i64 a1_4) := (blk_cell BK133.out 4).trans rfl; have hcz10_5 : w8.cell? ⟨gb133, 5, none⟩ = some (.bool a1_5) := (blk_cell BK133.out 5).trans rfl; have hfz10_0 := blk_frozen BK133.out 0; have hfz10_1 := blk_frozen BK133.out 1; have hfz10_2 := blk_frozen BK133.out 2; have hfz10_3 := blk_frozen BK133.out 3; have hfz10_4 := blk_frozen BK133.out 4; have hfz10_5 := blk_frozen BK133.out 5; have hcz11_0 : w8.cell? ⟨gb134, 0, none⟩ = some (.int .i64 0) := (blk_cell BK134.out 0).trans rfl; have hcz11_1 : w8.cell? ⟨gb134, 1, none⟩ = some (.int .i64 0) := (blk_cell BK134.out 1).trans rfl; have hcz11_2 : w8.cell? ⟨gb134, 2, none⟩ = some (.string (⟨#[]⟩ : ByteArray)) := (blk_cell BK134.out 2).trans rfl; have hcz11_3 : w8.cell? ⟨gb134, 3, none⟩ = some (.int .i64 0) := (blk_cell BK134.out 3).trans rfl; have hcz11_4 : w8.cell? ⟨gb134, 4, none⟩ = some (.int .i64 0) := (blk_cell BK134.out 4).trans rfl; have hcz11_5 : w8.cell? ⟨gb134, 5, none⟩ = some (.bool false) := (blk_cell BK134.out 5).trans rfl; have hfz11_0 := blk_frozen BK134.out 0; have hfz11_1 := blk_frozen BK134.out 1; have hfz11_2 := blk_frozen BK134.out 2; have hfz11_3 := blk_frozen BK134.out 3; have hfz11_4 := blk_frozen BK134.out 4; have hfz11_5 := blk_frozen BK134.out 5))
          refine bodyPost_ret (results_cell_row rfl _ _ gb134 25 #[.int .i64 a1_0, .int .i64 a1_1, .string a1_2, .int .i64 0, .int .i64 0, .bool (decide (a1_1 < 16))] (0, 0) _ rfl (by (with_reducible repeat (first | refine blk_drewN ?_ _ | refine blk_drew ?_ | refine blk_alloc ?_ _)); refine blk_put (cs := #[.int .i64 a1_0, .int .i64 a1_1, .string a1_2, .int .i64 0, .int .i64 0, .bool false]) ?_ 5 _ rfl; (with_reducible repeat (first | refine blk_drewN ?_ _ | refine blk_drew ?_ | refine blk_alloc ?_ _)); refine blk_put (cs := #[.int .i64 a1_0, .int .i64 a1_1, .string a1_2, .int .i64 0, .int .i64 0, .bool false]) ?_ 4 _ rfl; (with_reducible repeat (first | refine blk_drewN ?_ _ | refine blk_drew ?_ | refine blk_alloc ?_ _)); refine blk_put (cs := #[.int .i64 a1_0, .int .i64 a1_1, .string a1_2, .int .i64 0, .int .i64 0, .bool false]) ?_ 3 _ rfl; (with_reducible repeat (first | refine blk_drewN ?_ _ | refine blk_drew ?_ | refine blk_alloc ?_ _)); refine blk_put (cs := #[.int .i64 a1_0, .int .i64 a1_1, .string (⟨#[]⟩ : ByteArray), .int .i64 0, .int .i64 0, .bool false]) ?_ 2 _ rfl; (with_reducible repeat (first | refine blk_drewN ?_ _ | refine blk_drew ?_ | refine blk_alloc ?_ _)); refine blk_put (cs := #[.int .i64 a1_0, .int .i64 0, .string (⟨#[]⟩ : ByteArray), .int .i64 0, .int .i64 0, .bool false]) ?_ 1 _ rfl; (with_reducible repeat (first | refine blk_drewN ?_ _ | refine blk_drew ?_ | refine blk_alloc ?_ _)); refine blk_put (cs := #[.int .i64 0, .int .i64 0, .string (⟨#[]⟩ : ByteArray), .int .i64 0, .int .i64 0, .bool false]) ?_ 0 _ rfl; (with_reducible repeat (first | refine blk_drewN ?_ _ | refine blk_drew ?_ | refine blk_alloc ?_ _)); refine blk_far ?_ NB134_133.out _; (with_reducible repeat (first | refine blk_drewN ?_ _ | refine blk_drew ?_ | refine blk_alloc ?_ _)); refine blk_far ?_ NB134_133.out _; (with_reducible repeat (first | refine blk_drewN ?_ _ | refine blk_drew ?_ | refine blk_alloc ?_ _)); refine blk_far ?_ NB134_133.out _; (with_reducible repeat (first | refine blk_drewN ?_ _ | refine blk_drew ?_ | refine blk_alloc ?_ _)); exact BK134.out) Tryz.underlying25 rfl (by kernel_rfl)) rfl ?_
          exact ⟨by first | rfl | (simp [errW_none, errW_some] <;> rfl) | (simp [*, errW_none, errW_some] <;> rfl), by repeat (first | (with_reducible first | exact HB.out | apply below_alloc | apply pw_below_drewN | apply below_drew1 | refine below_set ?_ GE133.out | refine below_set ?_ GE134.out) | exact HB.out)⟩
        · rw [if_neg c6] at H
          have c6b0 : (a1_0 == 11) = false := beq_eq_false_iff_ne.mpr c6
          have c6b1 : (a1_0 != 11) = true := bne_iff_ne.mpr c6
          simp only [Option.some.injEq, Prod.mk.injEq] at H
          obtain ⟨rfl, rfl, rfl, rfl, rfl, rfl⟩ := H
          go_enter Tryz.func14, Tryz.ntmps14
          go_wp2_with (first | ((with_reducible refine gate_dst (N := 3) rfl ?_); refine box_event ?hg (N := 3) ?hd (cs := #[.int .i64 a1_0, .int .i64 a1_1, .string a1_2, .int .i64 a1_3, .int .i64 a1_4, .bool a1_5]) (t := 25) ?hr ?_; (case hd => rfl); (case hg => rfl); (case hr => first | (go_simp; done) | (go_simp; rfl)); intro gb133 hg w12 hbox hb; have n0_ := Aside0.mk (below_step (by repeat (first | (with_reducible first | exact HB.out | apply below_alloc | apply pw_below_drewN | apply below_drew1) | exact HB.out)) hb); have n1_ := Aside0.mk (hbox); have n2_ := Aside0.mk ((by rw [hg]; exact (below_size (by repeat (first | (with_reducible first | exact HB.out | apply below_alloc | apply pw_below_drewN | apply below_drew1) | exact HB.out))) : w.heap.size ≤ gb133)); have n3_ := Aside0.mk ((by rw [hg]; exact (below_size (by repeat (first | (with_reducible first | exact HB.out | apply below_alloc | apply pw_below_drewN | apply below_drew1) | exact HB.out))) : w.heap.size ≤ gb133)); clear HB; have HB := n0_; have BK133 := n1_; have GW133 := n2_; have GE133 := n3_; clear n0_ n1_ n2_ n3_; clear hb hbox hg) | ((with_reducible refine gate_dst (N := 4) rfl ?_); refine box_event ?hg (N := 4) ?hd (cs := #[.int .i64 0, .int .i64 0, .string (⟨#[]⟩ : ByteArray), .int .i64 0, .int .i64 0, .bool false]) (t := 25) ?hr ?_; (case hd => rfl); (case hg => rfl); (case hr => first | (go_simp; done) | (go_simp; rfl)); intro gb134 hg w13 hbox hb; have n0_ := Aside0.mk (blk_below (g := gb133) (o := .cells #[.int .i64 a1_0, .int .i64 a1_1, .string a1_2, .int .i64 a1_3, .int .i64 a1_4, .bool a1_5] 25 (0, 0)) (by (with_reducible repeat (first | refine blk_drewN ?_ _ | refine blk_drew ?_ | refine blk_alloc ?_ _)); exact BK133.out) hb); have n1_ := Aside0.mk (below_step (by repeat (first | (with_reducible first | exact HB.out | apply below_alloc | apply pw_below_drewN | apply below_drew1 | refine below_set ?_ GE133.out) | exact HB.out)) hb); have n2_ := Aside0.mk (hbox); have n3_ := Aside0.mk ((by rw [hg]; exact (below_size (by repeat (first | (with_reducible first | exact HB.out | apply below_alloc | apply pw_below_drewN | apply below_drew1 | refine below_set ?_ GE133.out) | exact HB.out))) : w.heap.size ≤ gb134)); have n4_ := Aside0.mk ((by rw [hg]; exact (below_size (by repeat (first | (with_reducible first | exact HB.out | apply below_alloc | apply pw_below_drewN | apply below_drew1 | refine below_set ?_ GE133.out) | exact HB.out))) : w.heap.size ≤ gb134)); have n5_ := Aside0.mk ((by rw [hg]; exact Nat.ne_of_lt (blk_lt (g := gb133) (o := .cells #[.int .i64 a1_0, .int .i64 a1_1, .string a1_2, .int .i64 a1_3, .int .i64 a1_4, .bool a1_5] 25 (0, 0)) (by (with_reducible repeat (first | refine blk_drewN ?_ _ | refine blk_drew ?_ | refine blk_alloc ?_ _)); exact BK133.out)) : gb133 ≠ gb134)); have n6_ := Aside0.mk ((by rw [hg]; exact Nat.ne_of_gt (blk_lt (g := gb133) (o := .cells #[.int .i64 a1_0, .int .i64 a1_1, .string a1_2, .int .i64 a1_3, .int .i64 a1_4, .bool a1_5] 25 (0, 0)) (by (with_reducible repeat (first | refine blk_drewN ?_ _ | refine blk_drew ?_ | refine blk_alloc ?_ _)); exact BK133.out)) : gb134 ≠ gb133)); clear BK133; clear HB; have BK133 := n0_; have HB := n1_; have BK134 := n2_; have GW134 := n3_; have GE134 := n4_; have NB133_134 := n5_; have NB134_133 := n6_; clear n0_ n1_ n2_ n3_ n4_ n5_ n6_; clear hb hbox hg; have hnb14 := NB133_134.out; have hnc14 := NB134_133.out; have hcz15_0 : w13.cell? ⟨gb133, 0, none⟩ = some (.int .i64 a1_0) := (blk_cell BK133.out 0).trans rfl; have hcz15_1 : w13.cell? ⟨gb133, 1, none⟩ = some (.int .i64 a1_1) := (blk_cell BK133.out 1).trans rfl; have hcz15_2 : w13.cell? ⟨gb133, 2, none⟩ = some (.string a1_2) := (blk_cell BK133.out 2).trans rfl; have hcz15_3 : w13.cell? ⟨gb133, 3, none⟩ = some (.int .i64 a1_3) := (blk_cell BK133.out 3).trans rfl; have hcz15_4 : w13.cell? ⟨gb133, 4, none⟩ = some (.int .i64 a1_4) := (blk_cell BK133.out 4).trans rfl; have hcz15_5 : w13.cell? ⟨gb133, 5, none⟩ = some (.bool a1_5) := (blk_cell BK133.out 5).trans rfl; have hfz15_0 := blk_frozen BK133.out 0; have hfz15_1 := blk_frozen BK133.out 1; have hfz15_2 := blk_frozen BK133.out 2; have hfz15_3 := blk_frozen BK133.out 3; have hfz15_4 := blk_frozen BK133.out 4; have hfz15_5 := blk_frozen BK133.out 5; have hcz16_0 : w13.cell? ⟨gb134, 0, none⟩ = some (.int .i64 0) := (blk_cell BK134.out 0).trans rfl; have hcz16_1 : w13.cell? ⟨gb134, 1, none⟩ = some (.int .i64 0) := (blk_cell BK134.out 1).trans rfl; have hcz16_2 : w13.cell? ⟨gb134, 2, none⟩ = some (.string (⟨#[]⟩ : ByteArray)) := (blk_cell BK134.out 2).trans rfl; have hcz16_3 : w13.cell? ⟨gb134, 3, none⟩ = some (.int .i64 0) := (blk_cell BK134.out 3).trans rfl; have hcz16_4 : w13.cell? ⟨gb134, 4, none⟩ = some (.int .i64 0) := (blk_cell BK134.out 4).trans rfl; have hcz16_5 : w13.cell? ⟨gb134, 5, none⟩ = some (.bool false) := (blk_cell BK134.out 5).trans rfl; have hfz16_0 := blk_frozen BK134.out 0; have hfz16_1 := blk_frozen BK134.out 1; have hfz16_2 := blk_frozen BK134.out 2; have hfz16_3 := blk_frozen BK134.out 3; have hfz16_4 := blk_frozen BK134.out 4; have hfz16_5 := blk_frozen BK134.out 5))
          refine bodyPost_ret (results_cell_row rfl _ _ gb134 25 #[.int .i64 a1_0, .int .i64 a1_1, .string a1_2, .int .i64 0, .int .i64 0, .bool false] (0, 0) _ rfl (by (with_reducible repeat (first | refine blk_drewN ?_ _ | refine blk_drew ?_ | refine blk_alloc ?_ _)); refine blk_put (cs := #[.int .i64 a1_0, .int .i64 a1_1, .string a1_2, .int .i64 0, .int .i64 0, .bool false]) ?_ 5 _ rfl; (with_reducible repeat (first | refine blk_drewN ?_ _ | refine blk_drew ?_ | refine blk_alloc ?_ _)); refine blk_put (cs := #[.int .i64 a1_0, .int .i64 a1_1, .string a1_2, .int .i64 0, .int .i64 0, .bool false]) ?_ 4 _ rfl; (with_reducible repeat (first | refine blk_drewN ?_ _ | refine blk_drew ?_ | refine blk_alloc ?_ _)); refine blk_put (cs := #[.int .i64 a1_0, .int .i64 a1_1, .string a1_2, .int .i64 0, .int .i64 0, .bool false]) ?_ 3 _ rfl; (with_reducible repeat (first | refine blk_drewN ?_ _ | refine blk_drew ?_ | refine blk_alloc ?_ _)); refine blk_put (cs := #[.int .i64 a1_0, .int .i64 a1_1, .string (⟨#[]⟩ : ByteArray), .int .i64 0, .int .i64 0, .bool false]) ?_ 2 _ rfl; (with_reducible repeat (first | refine blk_drewN ?_ _ | refine blk_drew ?_ | refine blk_alloc ?_ _)); refine blk_put (cs := #[.int .i64 a1_0, .int .i64 0, .string (⟨#[]⟩ : ByteArray), .int .i64 0, .int .i64 0, .bool false]) ?_ 1 _ rfl; (with_reducible repeat (first | refine blk_drewN ?_ _ | refine blk_drew ?_ | refine blk_alloc ?_ _)); refine blk_put (cs := #[.int .i64 0, .int .i64 0, .string (⟨#[]⟩ : ByteArray), .int .i64 0, .int .i64 0, .bool false]) ?_ 0 _ rfl; (with_reducible repeat (first | refine blk_drewN ?_ _ | refine blk_drew ?_ | refine blk_alloc ?_ _)); refine blk_far ?_ NB134_133.out _; (with_reducible repeat (first | refine blk_drewN ?_ _ | refine blk_drew ?_ | refine blk_alloc ?_ _)); refine blk_far ?_ NB134_133.out _; (with_reducible repeat (first | refine blk_drewN ?_ _ | refine blk_drew ?_ | refine blk_alloc ?_ _)); refine blk_far ?_ NB134_133.out _; (with_reducible repeat (first | refine blk_drewN ?_ _ | refine blk_drew ?_ | refine blk_alloc ?_ _)); exact BK134.out) Tryz.underlying25 rfl (by kernel_rfl)) rfl ?_
          exact ⟨by first | rfl | (simp [errW_none, errW_some] <;> rfl) | (simp [*, errW_none, errW_some] <;> rfl), by repeat (first | (with_reducible first | exact HB.out | apply below_alloc | apply pw_below_drewN | apply below_drew1 | refine below_set ?_ GE133.out | refine below_set ?_ GE134.out) | exact HB.out)⟩
      · rw [if_neg c5] at H
        have c5b0 : (a1_1 == 0) = false := beq_eq_false_iff_ne.mpr c5
        have c5b1 : (a1_1 != 0) = true := bne_iff_ne.mpr c5
        by_cases c17 : a1_0 = 11
        · rw [if_pos c17] at H
          have c17b0 : (a1_0 == 11) = true := beq_iff_eq.mpr c17
          have c17b1 : (a1_0 != 11) = false := bne_eq_false_iff_eq.mpr c17
          clear c17
          simp only [Option.some.injEq, Prod.mk.injEq] at H
          obtain ⟨rfl, rfl, rfl, rfl, rfl, rfl⟩ := H
          go_enter Tryz.func14, Tryz.ntmps14
          go_wp2_with (first | ((with_reducible refine gate_dst (N := 3) rfl ?_); refine box_event ?hg (N := 3) ?hd (cs := #[.int .i64 a1_0, .int .i64 a1_1, .string a1_2, .int .i64 a1_3, .int .i64 a1_4, .bool a1_5]) (t := 25) ?hr ?_; (case hd => rfl); (case hg => rfl); (case hr => first | (go_simp; done) | (go_simp; rfl)); intro gb133 hg w18 hbox hb; have n0_ := Aside0.mk (below_step (by repeat (first | (with_reducible first | exact HB.out | apply below_alloc | apply pw_below_drewN | apply below_drew1) | exact HB.out)) hb); have n1_ := Aside0.mk (hbox); have n2_ := Aside0.mk ((by rw [hg]; exact (below_size (by repeat (first | (with_reducible first | exact HB.out | apply below_alloc | apply pw_below_drewN | apply below_drew1) | exact HB.out))) : w.heap.size ≤ gb133)); have n3_ := Aside0.mk ((by rw [hg]; exact (below_size (by repeat (first | (with_reducible first | exact HB.out | apply below_alloc | apply pw_below_drewN | apply below_drew1) | exact HB.out))) : w.heap.size ≤ gb133)); clear HB; have HB := n0_; have BK133 := n1_; have GW133 := n2_; have GE133 := n3_; clear n0_ n1_ n2_ n3_; clear hb hbox hg) | ((with_reducible refine gate_dst (N := 4) rfl ?_); refine box_event ?hg (N := 4) ?hd (cs := #[.int .i64 0, .int .i64 0, .string (⟨#[]⟩ : ByteArray), .int .i64 0, .int .i64 0, .bool false]) (t := 25) ?hr ?_; (case hd => rfl); (case hg => rfl); (case hr => first | (go_simp; done) | (go_simp; rfl)); intro gb134 hg w19 hbox hb; have n0_ := Aside0.mk (blk_below (g := gb133) (o := .cells #[.int .i64 a1_0, .int .i64 a1_1, .string a1_2, .int .i64 a1_3, .int .i64 a1_4, .bool a1_5] 25 (0, 0)) (by (with_reducible repeat (first | refine blk_drewN ?_ _ | refine blk_drew ?_ | refine blk_alloc ?_ _)); exact BK133.out) hb); have n1_ := Aside0.mk (below_step (by repeat (first | (with_reducible first | exact HB.out | apply below_alloc | apply pw_below_drewN | apply below_drew1 | refine below_set ?_ GE133.out) | exact HB.out)) hb); have n2_ := Aside0.mk (hbox); have n3_ := Aside0.mk ((by rw [hg]; exact (below_size (by repeat (first | (with_reducible first | exact HB.out | apply below_alloc | apply pw_below_drewN | apply below_drew1 | refine below_set ?_ GE133.out) | exact HB.out))) : w.heap.size ≤ gb134)); have n4_ := Aside0.mk ((by rw [hg]; exact (below_size (by repeat (first | (with_reducible first | exact HB.out | apply below_alloc | apply pw_below_drewN | apply below_drew1 | refine below_set ?_ GE133.out) | exact HB.out))) : w.heap.size ≤ gb134)); have n5_ := Aside0.mk ((by rw [hg]; exact Nat.ne_of_lt (blk_lt (g := gb133) (o := .cells #[.int .i64 a1_0, .int .i64 a1_1, .string a1_2, .int .i64 a1_3, .int .i64 a1_4, .bool a1_5] 25 (0, 0)) (by (with_reducible repeat (first | refine blk_drewN ?_ _ | refine blk_drew ?_ | refine blk_alloc ?_ _)); exact BK133.out)) : gb133 ≠ gb134)); have n6_ := Aside0.mk ((by rw [hg]; exact Nat.ne_of_gt (blk_lt (g := gb133) (o := .cells #[.int .i64 a1_0, .int .i64 a1_1, .string a1_2, .int .i64 a1_3, .int .i64 a1_4, .bool a1_5] 25 (0, 0)) (by (with_reducible repeat (first | refine blk_drewN ?_ _ | refine blk_drew ?_ | refine blk_alloc ?_ _)); exact BK133.out)) : gb134 ≠ gb133)); clear BK133; clear HB; have BK133 := n0_; have HB := n1_; have BK134 := n2_; have GW134 := n3_; have GE134 := n4_; have NB133_134 := n5_; have NB134_133 := n6_; clear n0_ n1_ n2_ n3_ n4_ n5_ n6_; clear hb hbox hg; have hnb20 := NB133_134.out; have hnc20 := NB134_133.out; have hcz21_0 : w19.cell? ⟨gb133, 0, none⟩ = some (.int .i64 a1_0) := (blk_cell BK133.out 0).trans rfl; have hcz21_1 : w19.cell? ⟨gb133, 1, none⟩ = some (.int .i64 a1_1) := (blk_cell BK133.out 1).trans rfl; have hcz21_2 : w19.cell? ⟨gb133, 2, none⟩ = some (.string a1_2) := (blk_cell BK133.out 2).trans rfl; have hcz21_3 : w19.cell? ⟨gb133, 3, none⟩ = some (.int .i64 a1_3) := (blk_cell BK133.out 3).trans rfl; have hcz21_4 : w19.cell? ⟨gb133, 4, none⟩ = some (.int .i64 a1_4) := (blk_cell BK133.out 4).trans rfl; have hcz21_5 : w19.cell? ⟨gb133, 5, none⟩ = some (.bool a1_5) := (blk_cell BK133.out 5).trans rfl; have hfz21_0 := blk_frozen BK133.out 0; have hfz21_1 := blk_frozen BK133.out 1; have hfz21_2 := blk_frozen BK133.out 2; have hfz21_3 := blk_frozen BK133.out 3; have hfz21_4 := blk_frozen BK133.out 4; have hfz21_5 := blk_frozen BK133.out 5; have hcz22_0 : w19.cell? ⟨gb134, 0, none⟩ = some (.int .i64 0) := (blk_cell BK134.out 0).trans rfl; have hcz22_1 : w19.cell? ⟨gb134, 1, none⟩ = some (.int .i64 0) := (blk_cell BK134.out 1).trans rfl; have hcz22_2 : w19.cell? ⟨gb134, 2, none⟩ = some (.string (⟨#[]⟩ : ByteArray)) := (blk_cell BK134.out 2).trans rfl; have hcz22_3 : w19.cell? ⟨gb134, 3, none⟩ = some (.int .i64 0) := (blk_cell BK134.out 3).trans rfl; have hcz22_4 : w19.cell? ⟨gb134, 4, none⟩ = some (.int .i64 0) := (blk_cell BK134.out 4).trans rfl; have hcz22_5 : w19.cell? ⟨gb134, 5, none⟩ = some (.bool false) := (blk_cell BK134.out 5).trans rfl; have hfz22_0 := blk_frozen BK134.out 0; have hfz22_1 := blk_frozen BK134.out 1; have hfz22_2 := blk_frozen BK134.out 2; have hfz22_3 := blk_frozen BK134.out 3; have hfz22_4 := blk_frozen BK134.out 4; have hfz22_5 := blk_frozen BK134.out 5))
          refine bodyPost_ret (results_cell_row rfl _ _ gb134 25 #[.int .i64 a1_0, .int .i64 a1_1, .string a1_2, .int .i64 a1_3, .int .i64 a1_4, .bool (decide (a1_1 < 16))] (0, 0) _ rfl (by (with_reducible repeat (first | refine blk_drewN ?_ _ | refine blk_drew ?_ | refine blk_alloc ?_ _)); refine blk_put (cs := #[.int .i64 a1_0, .int .i64 a1_1, .string a1_2, .int .i64 a1_3, .int .i64 a1_4, .bool false]) ?_ 5 _ rfl; (with_reducible repeat (first | refine blk_drewN ?_ _ | refine blk_drew ?_ | refine blk_alloc ?_ _)); refine blk_put (cs := #[.int .i64 a1_0, .int .i64 a1_1, .string a1_2, .int .i64 a1_3, .int .i64 0, .bool false]) ?_ 4 _ rfl; (with_reducible repeat (first | refine blk_drewN ?_ _ | refine blk_drew ?_ | refine blk_alloc ?_ _)); refine blk_put (cs := #[.int .i64 a1_0, .int .i64 a1_1, .string a1_2, .int .i64 0, .int .i64 0, .bool false]) ?_ 3 _ rfl; (with_reducible repeat (first | refine blk_drewN ?_ _ | refine blk_drew ?_ | refine blk_alloc ?_ _)); refine blk_put (cs := #[.int .i64 a1_0, .int .i64 a1_1, .string (⟨#[]⟩ : ByteArray), .int .i64 0, .int .i64 0, .bool false]) ?_ 2 _ rfl; (with_reducible repeat (first | refine blk_drewN ?_ _ | refine blk_drew ?_ | refine blk_alloc ?_ _)); refine blk_put (cs := #[.int .i64 a1_0, .int .i64 0, .string (⟨#[]⟩ : ByteArray), .int .i64 0, .int .i64 0, .bool false]) ?_ 1 _ rfl; (with_reducible repeat (first | refine blk_drewN ?_ _ | refine blk_drew ?_ | refine blk_alloc ?_ _)); refine blk_put (cs := #[.int .i64 0, .int .i64 0, .string (⟨#[]⟩ : ByteArray), .int .i64 0, .int .i64 0, .bool false]) ?_ 0 _ rfl; (with_reducible repeat (first | refine blk_drewN ?_ _ | refine blk_drew ?_ | refine blk_alloc ?_ _)); refine blk_far ?_ NB134_133.out _; (with_reducible repeat (first | refine blk_drewN ?_ _ | refine blk_drew ?_ | refine blk_alloc ?_ _)); exact BK134.out) Tryz.underlying25 rfl (by kernel_rfl)) rfl ?_
          exact ⟨by first | rfl | (simp [errW_none, errW_some] <;> rfl) | (simp [*, errW_none, errW_some] <;> rfl), by repeat (first | (with_reducible first | exact HB.out | apply below_alloc | apply pw_below_drewN | apply below_drew1 | refine below_set ?_ GE133.out | refine below_set ?_ GE134.out) | exact HB.out)⟩
        · rw [if_neg c17] at H
          have c17b0 : (a1_0 == 11) = false := beq_eq_false_iff_ne.mpr c17
          have c17b1 : (a1_0 != 11) = true := bne_iff_ne.mpr c17
          simp only [Option.some.injEq, Prod.mk.injEq] at H
          obtain ⟨rfl, rfl, rfl, rfl, rfl, rfl⟩ := H
          go_enter Tryz.func14, Tryz.ntmps14
          go_wp2_with (first | ((with_reducible refine gate_dst (N := 3) rfl ?_); refine box_event ?hg (N := 3) ?hd (cs := #[.int .i64 a1_0, .int .i64 a1_1, .string a1_2, .int .i64 a1_3, .int .i64 a1_4, .bool a1_5]) (t := 25) ?hr ?_; (case hd => rfl); (case hg => rfl); (case hr => first | (go_simp; done) | (go_simp; rfl)); intro gb133 hg w23 hbox hb; have n0_ := Aside0.mk (below_step (by repeat (first | (with_reducible first | exact HB.out | apply below_alloc | apply pw_below_drewN | apply below_drew1) | exact HB.out)) hb); have n1_ := Aside0.mk (hbox); have n2_ := Aside0.mk ((by rw [hg]; exact (below_size (by repeat (first | (with_reducible first | exact HB.out | apply below_alloc | apply pw_below_drewN | apply below_drew1) | exact HB.out))) : w.heap.size ≤ gb133)); have n3_ := Aside0.mk ((by rw [hg]; exact (below_size (by repeat (first | (with_reducible first | exact HB.out | apply below_alloc | apply pw_below_drewN | apply below_drew1) | exact HB.out))) : w.heap.size ≤ gb133)); clear HB; have HB := n0_; have BK133 := n1_; have GW133 := n2_; have GE133 := n3_; clear n0_ n1_ n2_ n3_; clear hb hbox hg) | ((with_reducible refine gate_dst (N := 4) rfl ?_); refine box_event ?hg (N := 4) ?hd (cs := #[.int .i64 0, .int .i64 0, .string (⟨#[]⟩ : ByteArray), .int .i64 0, .int .i64 0, .bool false]) (t := 25) ?hr ?_; (case hd => rfl); (case hg => rfl); (case hr => first | (go_simp; done) | (go_simp; rfl)); intro gb134 hg w24 hbox hb; have n0_ := Aside0.mk (blk_below (g := gb133) (o := .cells #[.int .i64 a1_0, .int .i64 a1_1, .string a1_2, .int .i64 a1_3, .int .i64 a1_4, .bool a1_5] 25 (0, 0)) (by (with_reducible repeat (first | refine blk_drewN ?_ _ | refine blk_drew ?_ | refine blk_alloc ?_ _)); exact BK133.out) hb); have n1_ := Aside0.mk (below_step (by repeat (first | (with_reducible first | exact HB.out | apply below_alloc | apply pw_below_drewN | apply below_drew1 | refine below_set ?_ GE133.out) | exact HB.out)) hb); have n2_ := Aside0.mk (hbox); have n3_ := Aside0.mk ((by rw [hg]; exact (below_size (by repeat (first | (with_reducible first | exact HB.out | apply below_alloc | apply pw_below_drewN | apply below_drew1 | refine below_set ?_ GE133.out) | exact HB.out))) : w.heap.size ≤ gb134)); have n4_ := Aside0.mk ((by rw [hg]; exact (below_size (by repeat (first | (with_reducible first | exact HB.out | apply below_alloc | apply pw_below_drewN | apply below_drew1 | refine below_set ?_ GE133.out) | exact HB.out))) : w.heap.size ≤ gb134)); have n5_ := Aside0.mk ((by rw [hg]; exact Nat.ne_of_lt (blk_lt (g := gb133) (o := .cells #[.int .i64 a1_0, .int .i64 a1_1, .string a1_2, .int .i64 a1_3, .int .i64 a1_4, .bool a1_5] 25 (0, 0)) (by (with_reducible repeat (first | refine blk_drewN ?_ _ | refine blk_drew ?_ | refine blk_alloc ?_ _)); exact BK133.out)) : gb133 ≠ gb134)); have n6_ := Aside0.mk ((by rw [hg]; exact Nat.ne_of_gt (blk_lt (g := gb133) (o := .cells #[.int .i64 a1_0, .int .i64 a1_1, .string a1_2, .int .i64 a1_3, .int .i64 a1_4, .bool a1_5] 25 (0, 0)) (by (with_reducible repeat (first | refine blk_drewN ?_ _ | refine blk_drew ?_ | refine blk_alloc ?_ _)); exact BK133.out)) : gb134 ≠ gb133)); clear BK133; clear HB; have BK133 := n0_; have HB := n1_; have BK134 := n2_; have GW134 := n3_; have GE134 := n4_; have NB133_134 := n5_; have NB134_133 := n6_; clear n0_ n1_ n2_ n3_ n4_ n5_ n6_; clear hb hbox hg; have hnb25 := NB133_134.out; have hnc25 := NB134_133.out; have hcz26_0 : w24.cell? ⟨gb133, 0, none⟩ = some (.int .i64 a1_0) := (blk_cell BK133.out 0).trans rfl; have hcz26_1 : w24.cell? ⟨gb133, 1, none⟩ = some (.int .i64 a1_1) := (blk_cell BK133.out 1).trans rfl; have hcz26_2 : w24.cell? ⟨gb133, 2, none⟩ = some (.string a1_2) := (blk_cell BK133.out 2).trans rfl; have hcz26_3 : w24.cell? ⟨gb133, 3, none⟩ = some (.int .i64 a1_3) := (blk_cell BK133.out 3).trans rfl; have hcz26_4 : w24.cell? ⟨gb133, 4, none⟩ = some (.int .i64 a1_4) := (blk_cell BK133.out 4).trans rfl; have hcz26_5 : w24.cell? ⟨gb133, 5, none⟩ = some (.bool a1_5) := (blk_cell BK133.out 5).trans rfl; have hfz26_0 := blk_frozen BK133.out 0; have hfz26_1 := blk_frozen BK133.out 1; have hfz26_2 := blk_frozen BK133.out 2; have hfz26_3 := blk_frozen BK133.out 3; have hfz26_4 := blk_frozen BK133.out 4; have hfz26_5 := blk_frozen BK133.out 5; have hcz27_0 : w24.cell? ⟨gb134, 0, none⟩ = some (.int .i64 0) := (blk_cell BK134.out 0).trans rfl; have hcz27_1 : w24.cell? ⟨gb134, 1, none⟩ = some (.int .i64 0) := (blk_cell BK134.out 1).trans rfl; have hcz27_2 : w24.cell? ⟨gb134, 2, none⟩ = some (.string (⟨#[]⟩ : ByteArray)) := (blk_cell BK134.out 2).trans rfl; have hcz27_3 : w24.cell? ⟨gb134, 3, none⟩ = some (.int .i64 0) := (blk_cell BK134.out 3).trans rfl; have hcz27_4 : w24.cell? ⟨gb134, 4, none⟩ = some (.int .i64 0) := (blk_cell BK134.out 4).trans rfl; have hcz27_5 : w24.cell? ⟨gb134, 5, none⟩ = some (.bool false) := (blk_cell BK134.out 5).trans rfl; have hfz27_0 := blk_frozen BK134.out 0; have hfz27_1 := blk_frozen BK134.out 1; have hfz27_2 := blk_frozen BK134.out 2; have hfz27_3 := blk_frozen BK134.out 3; have hfz27_4 := blk_frozen BK134.out 4; have hfz27_5 := blk_frozen BK134.out 5))
          refine bodyPost_ret (results_cell_row rfl _ _ gb134 25 #[.int .i64 a1_0, .int .i64 a1_1, .string a1_2, .int .i64 a1_3, .int .i64 a1_4, .bool false] (0, 0) _ rfl (by (with_reducible repeat (first | refine blk_drewN ?_ _ | refine blk_drew ?_ | refine blk_alloc ?_ _)); refine blk_put (cs := #[.int .i64 a1_0, .int .i64 a1_1, .string a1_2, .int .i64 a1_3, .int .i64 a1_4, .bool false]) ?_ 5 _ rfl; (with_reducible repeat (first | refine blk_drewN ?_ _ | refine blk_drew ?_ | refine blk_alloc ?_ _)); refine blk_put (cs := #[.int .i64 a1_0, .int .i64 a1_1, .string a1_2, .int .i64 a1_3, .int .i64 0, .bool false]) ?_ 4 _ rfl; (with_reducible repeat (first | refine blk_drewN ?_ _ | refine blk_drew ?_ | refine blk_alloc ?_ _)); refine blk_put (cs := #[.int .i64 a1_0, .int .i64 a1_1, .string a1_2, .int .i64 0, .int .i64 0, .bool false]) ?_ 3 _ rfl; (with_reducible repeat (first | refine blk_drewN ?_ _ | refine blk_drew ?_ | refine blk_alloc ?_ _)); refine blk_put (cs := #[.int .i64 a1_0, .int .i64 a1_1, .string (⟨#[]⟩ : ByteArray), .int .i64 0, .int .i64 0, .bool false]) ?_ 2 _ rfl; (with_reducible repeat (first | refine blk_drewN ?_ _ | refine blk_drew ?_ | refine blk_alloc ?_ _)); refine blk_put (cs := #[.int .i64 a1_0, .int .i64 0, .string (⟨#[]⟩ : ByteArray), .int .i64 0, .int .i64 0, .bool false]) ?_ 1 _ rfl; (with_reducible repeat (first | refine blk_drewN ?_ _ | refine blk_drew ?_ | refine blk_alloc ?_ _)); refine blk_put (cs := #[.int .i64 0, .int .i64 0, .string (⟨#[]⟩ : ByteArray), .int .i64 0, .int .i64 0, .bool false]) ?_ 0 _ rfl; (with_reducible repeat (first | refine blk_drewN ?_ _ | refine blk_drew ?_ | refine blk_alloc ?_ _)); refine blk_far ?_ NB134_133.out _; (with_reducible repeat (first | refine blk_drewN ?_ _ | refine blk_drew ?_ | refine blk_alloc ?_ _)); exact BK134.out) Tryz.underlying25 rfl (by kernel_rfl)) rfl ?_
          exact ⟨by first | rfl | (simp [errW_none, errW_some] <;> rfl) | (simp [*, errW_none, errW_some] <;> rfl), by repeat (first | (with_reducible first | exact HB.out | apply below_alloc | apply pw_below_drewN | apply below_drew1 | refine below_set ?_ GE133.out | refine below_set ?_ GE134.out) | exact HB.out)⟩
    · rw [if_neg c4] at H
      have c4b0 : (a1_0 == 14) = false := beq_eq_false_iff_ne.mpr c4
      have c4b1 : (a1_0 != 14) = true := bne_iff_ne.mpr c4
      by_cases c28 : a1_0 = 11
      · rw [if_pos c28] at H
        have c28b0 : (a1_0 == 11) = true := beq_iff_eq.mpr c28
        have c28b1 : (a1_0 != 11) = false := bne_eq_false_iff_eq.mpr c28
        clear c28
        simp only [Option.some.injEq, Prod.mk.injEq] at H
        obtain ⟨rfl, rfl, rfl, rfl, rfl, rfl⟩ := H
        go_enter Tryz.func14, Tryz.ntmps14
        go_wp2_with (first | ((with_reducible refine gate_dst (N := 3) rfl ?_); refine box_event ?hg (N := 3) ?hd (cs := #[.int .i64 a1_0, .int .i64 a1_1, .string a1_2, .int .i64 a1_3, .int .i64 a1_4, .bool a1_5]) (t := 25) ?hr ?_; (case hd => rfl); (case hg => rfl); (case hr => first | (go_simp; done) | (go_simp; rfl)); intro gb133 hg w29 hbox hb; have n0_ := Aside0.mk (below_step (by repeat (first | (with_reducible first | exact HB.out | apply below_alloc | apply pw_below_drewN | apply below_drew1) | exact HB.out)) hb); have n1_ := Aside0.mk (hbox); have n2_ := Aside0.mk ((by rw [hg]; exact (below_size (by repeat (first | (with_reducible first | exact HB.out | apply below_alloc | apply pw_below_drewN | apply below_drew1) | exact HB.out))) : w.heap.size ≤ gb133)); have n3_ := Aside0.mk ((by rw [hg]; exact (below_size (by repeat (first | (with_reducible first | exact HB.out | apply below_alloc | apply pw_below_drewN | apply below_drew1) | exact HB.out))) : w.heap.size ≤ gb133)); clear HB; have HB := n0_; have BK133 := n1_; have GW133 := n2_; have GE133 := n3_; clear n0_ n1_ n2_ n3_; clear hb hbox hg) | ((with_reducible refine gate_dst (N := 4) rfl ?_); refine box_event ?hg (N := 4) ?hd (cs := #[.int .i64 0, .int .i64 0, .string (⟨#[]⟩ : ByteArray), .int .i64 0, .int .i64 0, .bool false]) (t := 25) ?hr ?_; (case hd => rfl); (case hg => rfl); (case hr => first | (go_simp; done) | (go_simp; rfl)); intro gb134 hg w30 hbox hb; have n0_ := Aside0.mk (blk_below (g := gb133) (o := .cells #[.int .i64 a1_0, .int .i64 a1_1, .string a1_2, .int .i64 a1_3, .int .i64 a1_4, .bool a1_5] 25 (0, 0)) (by (with_reducible repeat (first | refine blk_drewN ?_ _ | refine blk_drew ?_ | refine blk_alloc ?_ _)); exact BK133.out) hb); have n1_ := Aside0.mk (below_step (by repeat (first | (with_reducible first | exact HB.out | apply below_alloc | apply pw_below_drewN | apply below_drew1 | refine below_set ?_ GE133.out) | exact HB.out)) hb); have n2_ := Aside0.mk (hbox); have n3_ := Aside0.mk ((by rw [hg]; exact (below_size (by repeat (first | (with_reducible first | exact HB.out | apply below_alloc | apply pw_below_drewN | apply below_drew1 | refine below_set ?_ GE133.out) | exact HB.out))) : w.heap.size ≤ gb134)); have n4_ := Aside0.mk ((by rw [hg]; exact (below_size (by repeat (first | (with_reducible first | exact HB.out | apply below_alloc | apply pw_below_drewN | apply below_drew1 | refine below_set ?_ GE133.out) | exact HB.out))) : w.heap.size ≤ gb134)); have n5_ := Aside0.mk ((by rw [hg]; exact Nat.ne_of_lt (blk_lt (g := gb133) (o := .cells #[.int .i64 a1_0, .int .i64 a1_1, .string a1_2, .int .i64 a1_3, .int .i64 a1_4, .bool a1_5] 25 (0, 0)) (by (with_reducible repeat (first | refine blk_drewN ?_ _ | refine blk_drew ?_ | refine blk_alloc ?_ _)); exact BK133.out)) : gb133 ≠ gb134)); have n6_ := Aside0.mk ((by rw [hg]; exact Nat.ne_of_gt (blk_lt (g := gb133) (o := .cells #[.int .i64 a1_0, .int .i64 a1_1, .string a1_2, .int .i64 a1_3, .int .i64 a1_4, .bool a1_5] 25 (0, 0)) (by (with_reducible repeat (first | refine blk_drewN ?_ _ | refine blk_drew ?_ | refine blk_alloc ?_ _)); exact BK133.out)) : gb134 ≠ gb133)); clear BK133; clear HB; have BK133 := n0_; have HB := n1_; have BK134 := n2_; have GW134 := n3_; have GE134 := n4_; have NB133_134 := n5_; have NB134_133 := n6_; clear n0_ n1_ n2_ n3_ n4_ n5_ n6_; clear hb hbox hg; have hnb31 := NB133_134.out; have hnc31 := NB134_133.out; have hcz32_0 : w30.cell? ⟨gb133, 0, none⟩ = some (.int .i64 a1_0) := (blk_cell BK133.out 0).trans rfl; have hcz32_1 : w30.cell? ⟨gb133, 1, none⟩ = some (.int .i64 a1_1) := (blk_cell BK133.out 1).trans rfl; have hcz32_2 : w30.cell? ⟨gb133, 2, none⟩ = some (.string a1_2) := (blk_cell BK133.out 2).trans rfl; have hcz32_3 : w30.cell? ⟨gb133, 3, none⟩ = some (.int .i64 a1_3) := (blk_cell BK133.out 3).trans rfl; have hcz32_4 : w30.cell? ⟨gb133, 4, none⟩ = some (.int .i64 a1_4) := (blk_cell BK133.out 4).trans rfl; have hcz32_5 : w30.cell? ⟨gb133, 5, none⟩ = some (.bool a1_5) := (blk_cell BK133.out 5).trans rfl; have hfz32_0 := blk_frozen BK133.out 0; have hfz32_1 := blk_frozen BK133.out 1; have hfz32_2 := blk_frozen BK133.out 2; have hfz32_3 := blk_frozen BK133.out 3; have hfz32_4 := blk_frozen BK133.out 4; have hfz32_5 := blk_frozen BK133.out 5; have hcz33_0 : w30.cell? ⟨gb134, 0, none⟩ = some (.int .i64 0) := (blk_cell BK134.out 0).trans rfl; have hcz33_1 : w30.cell? ⟨gb134, 1, none⟩ = some (.int .i64 0) := (blk_cell BK134.out 1).trans rfl; have hcz33_2 : w30.cell? ⟨gb134, 2, none⟩ = some (.string (⟨#[]⟩ : ByteArray)) := (blk_cell BK134.out 2).trans rfl; have hcz33_3 : w30.cell? ⟨gb134, 3, none⟩ = some (.int .i64 0) := (blk_cell BK134.out 3).trans rfl; have hcz33_4 : w30.cell? ⟨gb134, 4, none⟩ = some (.int .i64 0) := (blk_cell BK134.out 4).trans rfl; have hcz33_5 : w30.cell? ⟨gb134, 5, none⟩ = some (.bool false) := (blk_cell BK134.out 5).trans rfl; have hfz33_0 := blk_frozen BK134.out 0; have hfz33_1 := blk_frozen BK134.out 1; have hfz33_2 := blk_frozen BK134.out 2; have hfz33_3 := blk_frozen BK134.out 3; have hfz33_4 := blk_frozen BK134.out 4; have hfz33_5 := blk_frozen BK134.out 5))
        refine bodyPost_ret (results_cell_row rfl _ _ gb134 25 #[.int .i64 a1_0, .int .i64 a1_1, .string a1_2, .int .i64 a1_3, .int .i64 a1_4, .bool (decide (a1_1 < 16))] (0, 0) _ rfl (by (with_reducible repeat (first | refine blk_drewN ?_ _ | refine blk_drew ?_ | refine blk_alloc ?_ _)); refine blk_put (cs := #[.int .i64 a1_0, .int .i64 a1_1, .string a1_2, .int .i64 a1_3, .int .i64 a1_4, .bool false]) ?_ 5 _ rfl; (with_reducible repeat (first | refine blk_drewN ?_ _ | refine blk_drew ?_ | refine blk_alloc ?_ _)); refine blk_put (cs := #[.int .i64 a1_0, .int .i64 a1_1, .string a1_2, .int .i64 a1_3, .int .i64 0, .bool false]) ?_ 4 _ rfl; (with_reducible repeat (first | refine blk_drewN ?_ _ | refine blk_drew ?_ | refine blk_alloc ?_ _)); refine blk_put (cs := #[.int .i64 a1_0, .int .i64 a1_1, .string a1_2, .int .i64 0, .int .i64 0, .bool false]) ?_ 3 _ rfl; (with_reducible repeat (first | refine blk_drewN ?_ _ | refine blk_drew ?_ | refine blk_alloc ?_ _)); refine blk_put (cs := #[.int .i64 a1_0, .int .i64 a1_1, .string (⟨#[]⟩ : ByteArray), .int .i64 0, .int .i64 0, .bool false]) ?_ 2 _ rfl; (with_reducible repeat (first | refine blk_drewN ?_ _ | refine blk_drew ?_ | refine blk_alloc ?_ _)); refine blk_put (cs := #[.int .i64 a1_0, .int .i64 0, .string (⟨#[]⟩ : ByteArray), .int .i64 0, .int .i64 0, .bool false]) ?_ 1 _ rfl; (with_reducible repeat (first | refine blk_drewN ?_ _ | refine blk_drew ?_ | refine blk_alloc ?_ _)); refine blk_put (cs := #[.int .i64 0, .int .i64 0, .string (⟨#[]⟩ : ByteArray), .int .i64 0, .int .i64 0, .bool false]) ?_ 0 _ rfl; (with_reducible repeat (first | refine blk_drewN ?_ _ | refine blk_drew ?_ | refine blk_alloc ?_ _)); refine blk_far ?_ NB134_133.out _; (with_reducible repeat (first | refine blk_drewN ?_ _ | refine blk_drew ?_ | refine blk_alloc ?_ _)); exact BK134.out) Tryz.underlying25 rfl (by kernel_rfl)) rfl ?_
        exact ⟨by first | rfl | (simp [errW_none, errW_some] <;> rfl) | (simp [*, errW_none, errW_some] <;> rfl), by repeat (first | (with_reducible first | exact HB.out | apply below_alloc | apply pw_below_drewN | apply below_drew1 | refine below_set ?_ GE133.out | refine below_set ?_ GE134.out) | exact HB.out)⟩
      · rw [if_neg c28] at H
        have c28b0 : (a1_0 == 11) = false := beq_eq_false_iff_ne.mpr c28
        have c28b1 : (a1_0 != 11) = true := bne_iff_ne.mpr c28
        simp only [Option.some.injEq, Prod.mk.injEq] at H
        obtain ⟨rfl, rfl, rfl, rfl, rfl, rfl⟩ := H
        go_enter Tryz.func14, Tryz.ntmps14
        go_wp2_with (first | ((with_reducible refine gate_dst (N := 3) rfl ?_); refine box_event ?hg (N := 3) ?hd (cs := #[.int .i64 a1_0, .int .i64 a1_1, .string a1_2, .int .i64 a1_3, .int .i64 a1_4, .bool a1_5]) (t := 25) ?hr ?_; (case hd => rfl); (case hg => rfl); (case hr => first | (go_simp; done) | (go_simp; rfl)); intro gb133 hg w34 hbox hb; have n0_ := Aside0.mk (below_step (by repeat (first | (with_reducible first | exact HB.out | apply below_alloc | apply pw_below_drewN | apply below_drew1) | exact HB.out)) hb); have n1_ := Aside0.mk (hbox); have n2_ := Aside0.mk ((by rw [hg]; exact (below_size (by repeat (first | (with_reducible first | exact HB.out | apply below_alloc | apply pw_below_drewN | apply below_drew1) | exact HB.out))) : w.heap.size ≤ gb133)); have n3_ := Aside0.mk ((by rw [hg]; exact (below_size (by repeat (first | (with_reducible first | exact HB.out | apply below_alloc | apply pw_below_drewN | apply below_drew1) | exact HB.out))) : w.heap.size ≤ gb133)); clear HB; have HB := n0_; have BK133 := n1_; have GW133 := n2_; have GE133 := n3_; clear n0_ n1_ n2_ n3_; clear hb hbox hg) | ((with_reducible refine gate_dst (N := 4) rfl ?_); refine box_event ?hg (N := 4) ?hd (cs := #[.int .i64 0, .int .i64 0, .string (⟨#[]⟩ : ByteArray), .int .i64 0, .int .i64 0, .bool false]) (t := 25) ?hr ?_; (case hd => rfl); (case hg => rfl); (case hr => first | (go_simp; done) | (go_simp; rfl)); intro gb134 hg w35 hbox hb; have n0_ := Aside0.mk (blk_below (g := gb133) (o := .cells #[.int .i64 a1_0, .int .i64 a1_1, .string a1_2, .int .i64 a1_3, .int .i64 a1_4, .bool a1_5] 25 (0, 0)) (by (with_reducible repeat (first | refine blk_drewN ?_ _ | refine blk_drew ?_ | refine blk_alloc ?_ _)); exact BK133.out) hb); have n1_ := Aside0.mk (below_step (by repeat (first | (with_reducible first | exact HB.out | apply below_alloc | apply pw_below_drewN | apply below_drew1 | refine below_set ?_ GE133.out) | exact HB.out)) hb); have n2_ := Aside0.mk (hbox); have n3_ := Aside0.mk ((by rw [hg]; exact (below_size (by repeat (first | (with_reducible first | exact HB.out | apply below_alloc | apply pw_below_drewN | apply below_drew1 | refine below_set ?_ GE133.out) | exact HB.out))) : w.heap.size ≤ gb134)); have n4_ := Aside0.mk ((by rw [hg]; exact (below_size (by repeat (first | (with_reducible first | exact HB.out | apply below_alloc | apply pw_below_drewN | apply below_drew1 | refine below_set ?_ GE133.out) | exact HB.out))) : w.heap.size ≤ gb134)); have n5_ := Aside0.mk ((by rw [hg]; exact Nat.ne_of_lt (blk_lt (g := gb133) (o := .cells #[.int .i64 a1_0, .int .i64 a1_1, .string a1_2, .int .i64 a1_3, .int .i64 a1_4, .bool a1_5] 25 (0, 0)) (by (with_reducible repeat (first | refine blk_drewN ?_ _ | refine blk_drew ?_ | refine blk_alloc ?_ _)); exact BK133.out)) : gb133 ≠ gb134)); have n6_ := Aside0.mk ((by rw [hg]; exact Nat.ne_of_gt (blk_lt (g := gb133) (o := .cells #[.int .i64 a1_0, .int .i64 a1_1, .string a1_2, .int .i64 a1_3, .int .i64 a1_4, .bool a1_5] 25 (0, 0)) (by (with_reducible repeat (first | refine blk_drewN ?_ _ | refine blk_drew ?_ | refine blk_alloc ?_ _)); exact BK133.out)) : gb134 ≠ gb133)); clear BK133; clear HB; have BK133 := n0_; have HB := n1_; have BK134 := n2_; have GW134 := n3_; have GE134 := n4_; have NB133_134 := n5_; have NB134_133 := n6_; clear n0_ n1_ n2_ n3_ n4_ n5_ n6_; clear hb hbox hg; have hnb36 := NB133_134.out; have hnc36 := NB134_133.out; have hcz37_0 : w35.cell? ⟨gb133, 0, none⟩ = some (.int .i64 a1_0) := (blk_cell BK133.out 0).trans rfl; have hcz37_1 : w35.cell? ⟨gb133, 1, none⟩ = some (.int .i64 a1_1) := (blk_cell BK133.out 1).trans rfl; have hcz37_2 : w35.cell? ⟨gb133, 2, none⟩ = some (.string a1_2) := (blk_cell BK133.out 2).trans rfl; have hcz37_3 : w35.cell? ⟨gb133, 3, none⟩ = some (.int .i64 a1_3) := (blk_cell BK133.out 3).trans rfl; have hcz37_4 : w35.cell? ⟨gb133, 4, none⟩ = some (.int .i64 a1_4) := (blk_cell BK133.out 4).trans rfl; have hcz37_5 : w35.cell? ⟨gb133, 5, none⟩ = some (.bool a1_5) := (blk_cell BK133.out 5).trans rfl; have hfz37_0 := blk_frozen BK133.out 0; have hfz37_1 := blk_frozen BK133.out 1; have hfz37_2 := blk_frozen BK133.out 2; have hfz37_3 := blk_frozen BK133.out 3; have hfz37_4 := blk_frozen BK133.out 4; have hfz37_5 := blk_frozen BK133.out 5; have hcz38_0 : w35.cell? ⟨gb134, 0, none⟩ = some (.int .i64 0) := (blk_cell BK134.out 0).trans rfl; have hcz38_1 : w35.cell? ⟨gb134, 1, none⟩ = some (.int .i64 0) := (blk_cell BK134.out 1).trans rfl; have hcz38_2 : w35.cell? ⟨gb134, 2, none⟩ = some (.string (⟨#[]⟩ : ByteArray)) := (blk_cell BK134.out 2).trans rfl; have hcz38_3 : w35.cell? ⟨gb134, 3, none⟩ = some (.int .i64 0) := (blk_cell BK134.out 3).trans rfl; have hcz38_4 : w35.cell? ⟨gb134, 4, none⟩ = some (.int .i64 0) := (blk_cell BK134.out 4).trans rfl; have hcz38_5 : w35.cell? ⟨gb134, 5, none⟩ = some (.bool false) := (blk_cell BK134.out 5).trans rfl; have hfz38_0 := blk_frozen BK134.out 0; have hfz38_1 := blk_frozen BK134.out 1; have hfz38_2 := blk_frozen BK134.out 2; have hfz38_3 := blk_frozen BK134.out 3; have hfz38_4 := blk_frozen BK134.out 4; have hfz38_5 := blk_frozen BK134.out 5))
        refine bodyPost_ret (results_cell_row rfl _ _ gb134 25 #[.int .i64 a1_0, .int .i64 a1_1, .string a1_2, .int .i64 a1_3, .int .i64 a1_4, .bool false] (0, 0) _ rfl (by (with_reducible repeat (first | refine blk_drewN ?_ _ | refine blk_drew ?_ | refine blk_alloc ?_ _)); refine blk_put (cs := #[.int .i64 a1_0, .int .i64 a1_1, .string a1_2, .int .i64 a1_3, .int .i64 a1_4, .bool false]) ?_ 5 _ rfl; (with_reducible repeat (first | refine blk_drewN ?_ _ | refine blk_drew ?_ | refine blk_alloc ?_ _)); refine blk_put (cs := #[.int .i64 a1_0, .int .i64 a1_1, .string a1_2, .int .i64 a1_3, .int .i64 0, .bool false]) ?_ 4 _ rfl; (with_reducible repeat (first | refine blk_drewN ?_ _ | refine blk_drew ?_ | refine blk_alloc ?_ _)); refine blk_put (cs := #[.int .i64 a1_0, .int .i64 a1_1, .string a1_2, .int .i64 0, .int .i64 0, .bool false]) ?_ 3 _ rfl; (with_reducible repeat (first | refine blk_drewN ?_ _ | refine blk_drew ?_ | refine blk_alloc ?_ _)); refine blk_put (cs := #[.int .i64 a1_0, .int .i64 a1_1, .string (⟨#[]⟩ : ByteArray), .int .i64 0, .int .i64 0, .bool false]) ?_ 2 _ rfl; (with_reducible repeat (first | refine blk_drewN ?_ _ | refine blk_drew ?_ | refine blk_alloc ?_ _)); refine blk_put (cs := #[.int .i64 a1_0, .int .i64 0, .string (⟨#[]⟩ : ByteArray), .int .i64 0, .int .i64 0, .bool false]) ?_ 1 _ rfl; (with_reducible repeat (first | refine blk_drewN ?_ _ | refine blk_drew ?_ | refine blk_alloc ?_ _)); refine blk_put (cs := #[.int .i64 0, .int .i64 0, .string (⟨#[]⟩ : ByteArray), .int .i64 0, .int .i64 0, .bool false]) ?_ 0 _ rfl; (with_reducible repeat (first | refine blk_drewN ?_ _ | refine blk_drew ?_ | refine blk_alloc ?_ _)); refine blk_far ?_ NB134_133.out _; (with_reducible repeat (first | refine blk_drewN ?_ _ | refine blk_drew ?_ | refine blk_alloc ?_ _)); exact BK134.out) Tryz.underlying25 rfl (by kernel_rfl)) rfl ?_
        exact ⟨by first | rfl | (simp [errW_none, errW_some] <;> rfl) | (simp [*, errW_none, errW_some] <;> rfl), by repeat (first | (with_reducible first | exact HB.out | apply below_alloc | apply pw_below_drewN | apply below_drew1 | refine below_set ?_ GE133.out | refine below_set ?_ GE134.out) | exact HB.out)⟩
  · rw [if_neg c3] at H
    have c3b0 : (a0 == 2) = false := beq_eq_false_iff_ne.mpr c3
    have c3b1 : (a0 != 2) = true := bne_iff_ne.mpr c3
    simp only [Option.some.injEq, Prod.mk.injEq] at H
    obtain ⟨rfl, rfl, rfl, rfl, rfl, rfl⟩ := H
    go_enter Tryz.func14, Tryz.ntmps14
    go_wp2_with (first | ((with_reducible refine gate_dst (N := 3) rfl ?_); refine box_event ?hg (N := 3) ?hd (cs := #[.int .i64 a1_0, .int .i64 a1_1, .string a1_2, .int .i64 a1_3, .int .i64 a1_4, .bool a1_5]) (t := 25) ?hr ?_; (case hd => rfl); (case hg => rfl); (case hr => first | (go_simp; done) | (go_simp; rfl)); intro gb133 hg w39 hbox hb; have n0_ := Aside0.mk (below_step (by repeat (first | (with_reducible first | exact HB.out | apply below_alloc | apply pw_below_drewN | apply below_drew1) | exact HB.out)) hb); have n1_ := Aside0.mk (hbox); have n2_ := Aside0.mk ((by rw [hg]; exact (below_size (by repeat (first | (with_reducible first | exact HB.out | apply below_alloc | apply pw_below_drewN | apply below_drew1) | exact HB.out))) : w.heap.size ≤ gb133)); have n3_ := Aside0.mk ((by rw [hg]; exact (below_size (by repeat (first | (with_reducible first | exact HB.out | apply below_alloc | apply pw_below_drewN | apply below_drew1) | exact HB.out))) : w.heap.size ≤ gb133)); clear HB; have HB := n0_; have BK133 := n1_; have GW133 := n2_; have GE133 := n3_; clear n0_ n1_ n2_ n3_; clear hb hbox hg) | ((with_reducible refine gate_dst (N := 4) rfl ?_); refine box_event ?hg (N := 4) ?hd (cs := #[.int .i64 0, .int .i64 0, .string (⟨#[]⟩ : ByteArray), .int .i64 0, .int .i64 0, .bool false]) (t := 25) ?hr ?_; (case hd => rfl); (case hg => rfl); (case hr => first | (go_simp; done) | (go_simp; rfl)); intro gb134 hg w40 hbox hb; have n0_ := Aside0.mk (blk_below (g := gb133) (o := .cells #[.int .i64 a1_0, .int .i64 a1_1, .string a1_2, .int .i64 a1_3, .int .i64 a1_4, .bool a1_5] 25 (0, 0)) (by (with_reducible repeat (first | refine blk_drewN ?_ _ | refine blk_drew ?_ | refine blk_alloc ?_ _)); exact BK133.out) hb); have n1_ := Aside0.mk (below_step (by repeat (first | (with_reducible first | exact HB.out | apply below_alloc | apply pw_below_drewN | apply below_drew1 | refine below_set ?_ GE133.out) | exact HB.out)) hb); have n2_ := Aside0.mk (hbox); have n3_ := Aside0.mk ((by rw [hg]; exact (below_size (by repeat (first | (with_reducible first | exact HB.out | apply below_alloc | apply pw_below_drewN | apply below_drew1 | refine below_set ?_ GE133.out) | exact HB.out))) : w.heap.size ≤ gb134)); have n4_ := Aside0.mk ((by rw [hg]; exact (below_size (by repeat (first | (with_reducible first | exact HB.out | apply below_alloc | apply pw_below_drewN | apply below_drew1 | refine below_set ?_ GE133.out) | exact HB.out))) : w.heap.size ≤ gb134)); have n5_ := Aside0.mk ((by rw [hg]; exact Nat.ne_of_lt (blk_lt (g := gb133) (o := .cells #[.int .i64 a1_0, .int .i64 a1_1, .string a1_2, .int .i64 a1_3, .int .i64 a1_4, .bool a1_5] 25 (0, 0)) (by (with_reducible repeat (first | refine blk_drewN ?_ _ | refine blk_drew ?_ | refine blk_alloc ?_ _)); exact BK133.out)) : gb133 ≠ gb134)); have n6_ := Aside0.mk ((by rw [hg]; exact Nat.ne_of_gt (blk_lt (g := gb133) (o := .cells #[.int .i64 a1_0, .int .i64 a1_1, .string a1_2, .int .i64 a1_3, .int .i64 a1_4, .bool a1_5] 25 (0, 0)) (by (with_reducible repeat (first | refine blk_drewN ?_ _ | refine blk_drew ?_ | refine blk_alloc ?_ _)); exact BK133.out)) : gb134 ≠ gb133)); clear BK133; clear HB; have BK133 := n0_; have HB := n1_; have BK134 := n2_; have GW134 := n3_; have GE134 := n4_; have NB133_134 := n5_; have NB134_133 := n6_; clear n0_ n1_ n2_ n3_ n4_ n5_ n6_; clear hb hbox hg; have hnb41 := NB133_134.out; have hnc41 := NB134_133.out; have hcz42_0 : w40.cell? ⟨gb133, 0, none⟩ = some (.int .i64 a1_0) := (blk_cell BK133.out 0).trans rfl; have hcz42_1 : w40.cell? ⟨gb133, 1, none⟩ = some (.int .i64 a1_1) := (blk_cell BK133.out 1).trans rfl; have hcz42_2 : w40.cell? ⟨gb133, 2, none⟩ = some (.string a1_2) := (blk_cell BK133.out 2).trans rfl; have hcz42_3 : w40.cell? ⟨gb133, 3, none⟩ = some (.int .i64 a1_3) := (blk_cell BK133.out 3).trans rfl; have hcz42_4 : w40.cell? ⟨gb133, 4, none⟩ = some (.int .i64 a1_4) := (blk_cell BK133.out 4).trans rfl; have hcz42_5 : w40.cell? ⟨gb133, 5, none⟩ = some (.bool a1_5) := (blk_cell BK133.out 5).trans rfl; have hfz42_0 := blk_frozen BK133.out 0; have hfz42_1 := blk_frozen BK133.out 1; have hfz42_2 := blk_frozen BK133.out 2; have hfz42_3 := blk_frozen BK133.out 3; have hfz42_4 := blk_frozen BK133.out 4; have hfz42_5 := blk_frozen BK133.out 5; have hcz43_0 : w40.cell? ⟨gb134, 0, none⟩ = some (.int .i64 0) := (blk_cell BK134.out 0).trans rfl; have hcz43_1 : w40.cell? ⟨gb134, 1, none⟩ = some (.int .i64 0) := (blk_cell BK134.out 1).trans rfl; have hcz43_2 : w40.cell? ⟨gb134, 2, none⟩ = some (.string (⟨#[]⟩ : ByteArray)) := (blk_cell BK134.out 2).trans rfl; have hcz43_3 : w40.cell? ⟨gb134, 3, none⟩ = some (.int .i64 0) := (blk_cell BK134.out 3).trans rfl; have hcz43_4 : w40.cell? ⟨gb134, 4, none⟩ = some (.int .i64 0) := (blk_cell BK134.out 4).trans rfl; have hcz43_5 : w40.cell? ⟨gb134, 5, none⟩ = some (.bool false) := (blk_cell BK134.out 5).trans rfl; have hfz43_0 := blk_frozen BK134.out 0; have hfz43_1 := blk_frozen BK134.out 1; have hfz43_2 := blk_frozen BK134.out 2; have hfz43_3 := blk_frozen BK134.out 3; have hfz43_4 := blk_frozen BK134.out 4; have hfz43_5 := blk_frozen BK134.out 5))
    refine bodyPost_ret (results_cell_row rfl _ _ gb134 25 #[.int .i64 a1_0, .int .i64 a1_1, .string a1_2, .int .i64 a1_3, .int .i64 a1_4, .bool false] (0, 0) _ rfl (by (with_reducible repeat (first | refine blk_drewN ?_ _ | refine blk_drew ?_ | refine blk_alloc ?_ _)); refine blk_put (cs := #[.int .i64 a1_0, .int .i64 a1_1, .string a1_2, .int .i64 a1_3, .int .i64 a1_4, .bool false]) ?_ 5 _ rfl; (with_reducible repeat (first | refine blk_drewN ?_ _ | refine blk_drew ?_ | refine blk_alloc ?_ _)); refine blk_put (cs := #[.int .i64 a1_0, .int .i64 a1_1, .string a1_2, .int .i64 a1_3, .int .i64 0, .bool false]) ?_ 4 _ rfl; (with_reducible repeat (first | refine blk_drewN ?_ _ | refine blk_drew ?_ | refine blk_alloc ?_ _)); refine blk_put (cs := #[.int .i64 a1_0, .int .i64 a1_1, .string a1_2, .int .i64 0, .int .i64 0, .bool false]) ?_ 3 _ rfl; (with_reducible repeat (first | refine blk_drewN ?_ _ | refine blk_drew ?_ | refine blk_alloc ?_ _)); refine blk_put (cs := #[.int .i64 a1_0, .int .i64 a1_1, .string (⟨#[]⟩ : ByteArray), .int .i64 0, .int .i64 0, .bool false]) ?_ 2 _ rfl; (with_reducible repeat (first | refine blk_drewN ?_ _ | refine blk_drew ?_ | refine blk_alloc ?_ _)); refine blk_put (cs := #[.int .i64 a1_0, .int .i64 0, .string (⟨#[]⟩ : ByteArray), .int .i64 0, .int .i64 0, .bool false]) ?_ 1 _ rfl; (with_reducible repeat (first | refine blk_drewN ?_ _ | refine blk_drew ?_ | refine blk_alloc ?_ _)); refine blk_put (cs := #[.int .i64 0, .int .i64 0, .string (⟨#[]⟩ : ByteArray), .int .i64 0, .int .i64 0, .bool false]) ?_ 0 _ rfl; (with_reducible repeat (first | refine blk_drewN ?_ _ | refine blk_drew ?_ | refine blk_alloc ?_ _)); refine blk_far ?_ NB134_133.out _; (with_reducible repeat (first | refine blk_drewN ?_ _ | refine blk_drew ?_ | refine blk_alloc ?_ _)); exact BK134.out) Tryz.underlying25 rfl (by kernel_rfl)) rfl ?_
    exact ⟨by first | rfl | (simp [errW_none, errW_some] <;> rfl) | (simp [*, errW_none, errW_some] <;> rfl), by repeat (first | (with_reducible first | exact HB.out | apply below_alloc | apply pw_below_drewN | apply below_drew1 | refine below_set ?_ GE133.out | refine below_set ?_ GE134.out) | exact HB.out)⟩

end Go.Proofs.YtmjilokgpgajjaaGreat.PFnTHScripts

