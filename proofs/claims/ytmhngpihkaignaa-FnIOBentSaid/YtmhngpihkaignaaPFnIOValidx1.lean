-- PRINTED BY print.sh 35421559b90ae4d0a3588c463048766b98c2df88dd9212a6774a882060cdf62d: not written by this session
import Derived.Test.YtmhngpihkaignaaPFnIOValidx0
namespace Go.Proofs.Ytmhngpihkaignaa.PFnIOValid
open Go.RowKit Go.Proofs.YtmhngpihkaignaaW.PrintWords Go.Proofs.YtmhngpihkaignaaW.PrintLast Go.Proofs.YtmhngpihkaignaaW.PrintMore
attribute [local go_sem] max2_int min2_int max_two min_two max_three min_three max_four min_four   -- for this text's walks alone
set_option linter.unusedVariables false
set_option linter.unusedSimpArgs false

/-! ### spec_IODays: function 57 -/
def spec_IODays.f (a0 : Int) (a1 : Int) : Option (Int) := if a1 = 2 then (if (Int.tmod a0 4) = 0 then (if (Int.tmod a0 100) = 0 then (if (Int.tmod a0 400) = 0 then (some 29) else (some 28)) else (some 29)) else (some 28)) else (if a1 = 4 then (some 30) else (if a1 = 6 then (some 30) else (if a1 = 9 then (some 30) else (if a1 = 11 then (some 30) else (some 31)))))
set_option maxHeartbeats 8000000 in
set_option maxRecDepth 100000 in
theorem spec_IODays.calls (a0 : Int) (a1 : Int) (r : Int) (w : World) (h : spec_IODays.f a0 a1 = some r) :
    Calls Try.prog 57 #[.int .i64 a0, .int .i64 a1] w fun e w' => e = .returned (.int .i64 r) ∧ Drawn0 w w' := by
  have H : (if a1 = 2 then (if (Int.tmod a0 4) = 0 then (if (Int.tmod a0 100) = 0 then (if (Int.tmod a0 400) = 0 then (some 29) else (some 28)) else (some 29)) else (some 28)) else (if a1 = 4 then (some 30) else (if a1 = 6 then (some 30) else (if a1 = 9 then (some 30) else (if a1 = 11 then (some 30) else (some 31)))))) = some r := h
  clear h
  by_cases c3 : a1 = 2
  · rw [if_pos c3] at H
    have c3b0 : (a1 == 2) = true := beq_iff_eq.mpr c3
    have c3b1 : (a1 != 2) = false := bne_eq_false_iff_eq.mpr c3
    clear c3
    by_cases c4 : (Int.tmod a0 4) = 0
    · rw [if_pos c4] at H
      have c4b0 : ((Int.tmod a0 4) == 0) = true := beq_iff_eq.mpr c4
      have c4b1 : ((Int.tmod a0 4) != 0) = false := bne_eq_false_iff_eq.mpr c4
      clear c4
      by_cases c5 : (Int.tmod a0 100) = 0
      · rw [if_pos c5] at H
        have c5b0 : ((Int.tmod a0 100) == 0) = true := beq_iff_eq.mpr c5
        have c5b1 : ((Int.tmod a0 100) != 0) = false := bne_eq_false_iff_eq.mpr c5
        clear c5
        by_cases c6 : (Int.tmod a0 400) = 0
        · rw [if_pos c6] at H
          have c6b0 : ((Int.tmod a0 400) == 0) = true := beq_iff_eq.mpr c6
          have c6b1 : ((Int.tmod a0 400) != 0) = false := bne_eq_false_iff_eq.mpr c6
          clear c6
          obtain rfl := Option.some.inj H
          go_enter Try.func57, Try.ntmps57
          go_wp2
          go_ret
          exact ⟨by first | rfl | (simp; done) | (simp [*]; done), by repeat (first | exact Drawn0.refl _ | apply Drawn0.step)⟩
        · rw [if_neg c6] at H
          have c6b0 : ((Int.tmod a0 400) == 0) = false := beq_eq_false_iff_ne.mpr c6
          have c6b1 : ((Int.tmod a0 400) != 0) = true := bne_iff_ne.mpr c6
          obtain rfl := Option.some.inj H
          go_enter Try.func57, Try.ntmps57
          go_wp2
          go_ret
          exact ⟨by first | rfl | (simp; done) | (simp [*]; done), by repeat (first | exact Drawn0.refl _ | apply Drawn0.step)⟩
      · rw [if_neg c5] at H
        have c5b0 : ((Int.tmod a0 100) == 0) = false := beq_eq_false_iff_ne.mpr c5
        have c5b1 : ((Int.tmod a0 100) != 0) = true := bne_iff_ne.mpr c5
        obtain rfl := Option.some.inj H
        go_enter Try.func57, Try.ntmps57
        go_wp2
        go_ret
        exact ⟨by first | rfl | (simp; done) | (simp [*]; done), by repeat (first | exact Drawn0.refl _ | apply Drawn0.step)⟩
    · rw [if_neg c4] at H
      have c4b0 : ((Int.tmod a0 4) == 0) = false := beq_eq_false_iff_ne.mpr c4
      have c4b1 : ((Int.tmod a0 4) != 0) = true := bne_iff_ne.mpr c4
      obtain rfl := Option.some.inj H
      go_enter Try.func57, Try.ntmps57
      go_wp2
      go_ret
      exact ⟨by first | rfl | (simp; done) | (simp [*]; done), by repeat (first | exact Drawn0.refl _ | apply Drawn0.step)⟩
  · rw [if_neg c3] at H
    have c3b0 : (a1 == 2) = false := beq_eq_false_iff_ne.mpr c3
    have c3b1 : (a1 != 2) = true := bne_iff_ne.mpr c3
    by_cases c7 : a1 = 4
    · rw [if_pos c7] at H
      have c7b0 : (a1 == 4) = true := beq_iff_eq.mpr c7
      have c7b1 : (a1 != 4) = false := bne_eq_false_iff_eq.mpr c7
      clear c7
      obtain rfl := Option.some.inj H
      go_enter Try.func57, Try.ntmps57
      go_wp2
      go_ret
      exact ⟨by first | rfl | (simp; done) | (simp [*]; done), by repeat (first | exact Drawn0.refl _ | apply Drawn0.step)⟩
    · rw [if_neg c7] at H
      have c7b0 : (a1 == 4) = false := beq_eq_false_iff_ne.mpr c7
      have c7b1 : (a1 != 4) = true := bne_iff_ne.mpr c7
      by_cases c8 : a1 = 6
      · rw [if_pos c8] at H
        have c8b0 : (a1 == 6) = true := beq_iff_eq.mpr c8
        have c8b1 : (a1 != 6) = false := bne_eq_false_iff_eq.mpr c8
        clear c8
        obtain rfl := Option.some.inj H
        go_enter Try.func57, Try.ntmps57
        go_wp2
        go_ret
        exact ⟨by first | rfl | (simp; done) | (simp [*]; done), by repeat (first | exact Drawn0.refl _ | apply Drawn0.step)⟩
      · rw [if_neg c8] at H
        have c8b0 : (a1 == 6) = false := beq_eq_false_iff_ne.mpr c8
        have c8b1 : (a1 != 6) = true := bne_iff_ne.mpr c8
        by_cases c9 : a1 = 9
        · rw [if_pos c9] at H
          have c9b0 : (a1 == 9) = true := beq_iff_eq.mpr c9
          have c9b1 : (a1 != 9) = false := bne_eq_false_iff_eq.mpr c9
          clear c9
          obtain rfl := Option.some.inj H
          go_enter Try.func57, Try.ntmps57
          go_wp2
          go_ret
          exact ⟨by first | rfl | (simp; done) | (simp [*]; done), by repeat (first | exact Drawn0.refl _ | apply Drawn0.step)⟩
        · rw [if_neg c9] at H
          have c9b0 : (a1 == 9) = false := beq_eq_false_iff_ne.mpr c9
          have c9b1 : (a1 != 9) = true := bne_iff_ne.mpr c9
          by_cases c10 : a1 = 11
          · rw [if_pos c10] at H
            have c10b0 : (a1 == 11) = true := beq_iff_eq.mpr c10
            have c10b1 : (a1 != 11) = false := bne_eq_false_iff_eq.mpr c10
            clear c10
            obtain rfl := Option.some.inj H
            go_enter Try.func57, Try.ntmps57
            go_wp2
            go_ret
            exact ⟨by first | rfl | (simp; done) | (simp [*]; done), by repeat (first | exact Drawn0.refl _ | apply Drawn0.step)⟩
          · rw [if_neg c10] at H
            have c10b0 : (a1 == 11) = false := beq_eq_false_iff_ne.mpr c10
            have c10b1 : (a1 != 11) = true := bne_iff_ne.mpr c10
            obtain rfl := Option.some.inj H
            go_enter Try.func57, Try.ntmps57
            go_wp2
            go_ret
            exact ⟨by first | rfl | (simp; done) | (simp [*]; done), by repeat (first | exact Drawn0.refl _ | apply Drawn0.step)⟩

-- NOT PRINTED: function 33 (laws_ioTime)

/-! ### spec_ioTwo: function 58 -/
def spec_ioTwo.f (a0 : Int) : Option (ByteArray) := some (strOfNums (([(wrap64 (48 + (Int.tmod (wrap64 (Int.tdiv a0 10)) 10))) % 256, (wrap64 (48 + (Int.tmod a0 10))) % 256] : List Int)))
set_option maxHeartbeats 8000000 in
set_option maxRecDepth 100000 in
theorem spec_ioTwo.calls (a0 : Int) (r : ByteArray) (w : World) (h : spec_ioTwo.f a0 = some r) :
    Calls Try.prog 58 #[.int .i64 a0] w fun e w' => e = .returned (.string r) ∧ Below w.heap.size w w' := by
  have HB := Aside0.mk (Below.refl w.heap.size w)
  have H : (some (strOfNums (([(wrap64 (48 + (Int.tmod (wrap64 (Int.tdiv a0 10)) 10))) % 256, (wrap64 (48 + (Int.tmod a0 10))) % 256] : List Int)))) = some r := h
  clear h
  obtain ⟨y101, hy101⟩ : ∃ y_ : List Int, y_ = (([(wrap64 (48 + (Int.tmod (wrap64 (Int.tdiv a0 10)) 10))) % 256, (wrap64 (48 + (Int.tmod a0 10))) % 256] : List Int)) := ⟨_, rfl⟩
  replace H : (some (strOfNums y101)) = some r := by first | (rw [hy101]; with_reducible exact H) | (have H2_ := (Option.bind_some _ _).symm.trans H; rw [hy101]; with_reducible exact H2_) | (have H2_ := (Option.bind_some _ _).symm.trans H; with_reducible exact H2_) | with_reducible exact H | (rw [hy101]; exact H) | exact H
  have Ny101 := Aside0.mk hy101
  clear hy101
  obtain rfl := Option.some.inj H
  go_enter Try.func58, Try.ntmps58
  go_wp2_with (first | ((with_reducible refine gate_dst (N := 12) rfl ?_); refine Kd.R_lit (Kd.int .u8) _ 5 ?hg (N := 12) ?hd (xs := ([(wrap64 (48 + (Int.tmod (wrap64 (Int.tdiv a0 10)) 10))) % 256, (wrap64 (48 + (Int.tmod a0 10))) % 256] : List Int)) (inner := [.int .u8 ((wrap64 (48 + (Int.tmod (wrap64 (Int.tdiv a0 10)) 10))) % 256), .int .u8 ((wrap64 (48 + (Int.tmod a0 10))) % 256)]) (ok := fun _ => True) (okp := fun _ => True) ?hr ?hp (fun _ hk => hk) trivial (Below.refl _ _) (Nat.le_refl _) (by simp) ?_; (case hd => rfl); (case hg => rfl); (case hr => first | (go_simp; done) | (go_simp; rfl)); (case hp => exact (Reps.one (show Kd.M (Kd.int .u8) _ _ _ ((wrap64 (48 + (Int.tmod (wrap64 (Int.tdiv a0 10)) 10))) % 256) [.int .u8 ((wrap64 (48 + (Int.tmod (wrap64 (Int.tdiv a0 10)) 10))) % 256)] from rfl) (Reps.one (show Kd.M (Kd.int .u8) _ _ _ ((wrap64 (48 + (Int.tmod a0 10))) % 256) [.int .u8 ((wrap64 (48 + (Int.tmod a0 10))) % 256)] from rfl) (Reps.none _ _)))); intro v102 w2 ho3 hb hg_ hnew_; clear hg_ hnew_; (first | rw [← Ny101.out] at ho3 | (simp only [Int.reduceToNat] at ho3; rw [← Ny101.out] at ho3)); have n0_ := Aside0.mk (Kd.R_lower ho3 (below_size (by repeat (first | (with_reducible first | exact HB.out | apply below_alloc | apply pw_below_drewN | apply below_drew1) | exact HB.out)))); have n1_ := Aside0.mk (below_step (by repeat (first | (with_reducible first | exact HB.out | apply below_alloc | apply pw_below_drewN | apply below_drew1) | exact HB.out)) hb); clear HB; have HO103 := n0_; have HB := n1_; clear n0_ n1_; clear hb ho3; have hcv4 := own_string (P := Try.prog) Try.underlying31 Try.underlying5 Try.underlying9 (Kd.own_of_R HO103.out)))
  go_ret
  exact ⟨by first | rfl | (simp [errW_none, errW_some] <;> rfl) | (simp [*, errW_none, errW_some] <;> rfl), by repeat (first | (with_reducible first | exact HB.out | apply below_alloc | apply pw_below_drewN | apply below_drew1) | exact HB.out)⟩

end Go.Proofs.Ytmhngpihkaignaa.PFnIOValid
