-- PRINTED BY print.sh 35421559b90ae4d0a3588c463048766b98c2df88dd9212a6774a882060cdf62d: not written by this session
import Derived.Test.YtmhngpihkaignaaPFnIOValidx0
namespace Go.Proofs.Ytmhngpihkaignaa.PFnIOValid
open Go.RowKit Go.Proofs.YtmhngpihkaignaaW.PrintWords Go.Proofs.YtmhngpihkaignaaW.PrintLast Go.Proofs.YtmhngpihkaignaaW.PrintMore
attribute [local go_sem] max2_int min2_int max_two min_two max_three min_three max_four min_four   -- for this text's walks alone
set_option linter.unusedVariables false
set_option linter.unusedSimpArgs false

/-! ### iso8601_isDigit: function 80 -/
def iso8601_isDigit.f (a0 : Int) : Option (Bool) := if 48 ≤ a0 then (some (decide (a0 ≤ 57))) else (some false)
set_option maxHeartbeats 8000000 in
set_option maxRecDepth 100000 in
theorem iso8601_isDigit.calls (a0 : Int) (r : Bool) (w : World) (h : iso8601_isDigit.f a0 = some r) :
    Calls Try.prog 80 #[.int .u8 a0] w fun e w' => e = .returned (.bool r) ∧ Drawn0 w w' := by
  have H : (if 48 ≤ a0 then (some (decide (a0 ≤ 57))) else (some false)) = some r := h
  clear h
  by_cases c2 : 48 ≤ a0
  · rw [if_pos c2] at H
    have c2b0 : decide (48 ≤ a0) = true := decide_eq_true c2
    clear c2
    obtain rfl := Option.some.inj H
    go_enter Try.func80, Try.ntmps80
    go_wp2
    go_ret
    exact ⟨by first | rfl | (simp; done) | (simp [*]; done), by repeat (first | exact Drawn0.refl _ | apply Drawn0.step)⟩
  · rw [if_neg c2] at H
    have c2b0 : decide (48 ≤ a0) = false := decide_eq_false c2
    clear c2
    obtain rfl := Option.some.inj H
    go_enter Try.func80, Try.ntmps80
    go_wp2
    go_ret
    exact ⟨by first | rfl | (simp; done) | (simp [*]; done), by repeat (first | exact Drawn0.refl _ | apply Drawn0.step)⟩

/-! ### iso8601_readDigits: function 77 -/
def iso8601_readDigits.l0 : Nat → ByteArray → Int → Int → Int → Option (ByteArray × Bool)
  | 0, _, _, _, _ => none
  | k + 1, x0, x1, x2, x8 => if x8 < x2 then (if x8 < (x0.size : Int) then (if 0 ≤ x8 then ((iso8601_isDigit.f (bt x0 x8)).bind fun t118 => (if t118 = true then (iso8601_readDigits.l0 k x0 x1 x2 (wrap64 (x8 + 1))) else (if x8 < x1 then (some (x0, false)) else (if x8 ≤ (x0.size : Int) then (some (x0.extract (x8 : Int).toNat x0.size, true)) else (none))))) else (none)) else (if x8 < x1 then (some (x0, false)) else (if 0 ≤ x8 then (if x8 ≤ (x0.size : Int) then (some (x0.extract (x8 : Int).toNat x0.size, true)) else (none)) else (none)))) else (if 0 ≤ x8 then (if x8 ≤ (x0.size : Int) then (some (x0.extract (x8 : Int).toNat x0.size, true)) else (none)) else (none))
def iso8601_readDigits.f (k : Nat) (a0 : ByteArray) (a1 : Int) (a2 : Int) : Option (ByteArray × Bool) := if (a0.size : Int) < a1 then (some (a0, false)) else (iso8601_readDigits.l0 k a0 a1 a2 0)
theorem iso8601_readDigits.mono_l : ∀ k, (∀ y0 y1 y2 y3, LeO (iso8601_readDigits.l0 k y0 y1 y2 y3) (iso8601_readDigits.l0 (k + 1) y0 y1 y2 y3))
  | 0 => fun _ _ _ _ r h => by simp [iso8601_readDigits.l0] at h
  | k + 1 => by
    have ih0 := iso8601_readDigits.mono_l k
    · intro y0 y1 y2 y3
      unfold iso8601_readDigits.l0
      repeat' first
      | (with_reducible exact ih0 _ _ _ _)
      | (with_reducible exact LeO.refl _)
      | (with_reducible exact LeO.none _)
      | (with_reducible refine LeO.ite ?_ ?_)
      | (with_reducible refine LeO.bind ?_ (fun _ => ?_))
      | exact ih0 _ _ _ _
      | exact LeO.none _
      | refine LeO.ite ?_ ?_
      | refine LeO.bind ?_ (fun _ => ?_)
theorem iso8601_readDigits.mono : ∀ a0 a1 a2 k, LeO (iso8601_readDigits.f k a0 a1 a2) (iso8601_readDigits.f (k + 1) a0 a1 a2) := by
  intro a0 a1 a2 k
  have ih0 := iso8601_readDigits.mono_l k
  unfold iso8601_readDigits.f
  repeat' first
      | (with_reducible exact ih0 _ _ _ _)
      | (with_reducible exact LeO.refl _)
      | (with_reducible exact LeO.none _)
      | (with_reducible refine LeO.ite ?_ ?_)
      | (with_reducible refine LeO.bind ?_ (fun _ => ?_))
      | exact ih0 _ _ _ _
      | exact LeO.none _
      | refine LeO.ite ?_ ?_
      | refine LeO.bind ?_ (fun _ => ?_)
set_option maxHeartbeats 8000000 in
set_option maxRecDepth 100000 in
theorem iso8601_readDigits.calls (k : Nat) (a0 : ByteArray) (a1 : Int) (a2 : Int) (r1 : ByteArray) (r2 : Bool) (w : World) (h : iso8601_readDigits.f k a0 a1 a2 = some (r1, r2)) :
    Calls Try.prog 77 #[.string a0, .int .i64 a1, .int .i64 a2] w fun e w' => e = .returned (.tuple #[.string r1, .bool r2]) ∧ Drawn0 w w' := by
  have H : (if (a0.size : Int) < a1 then (some (a0, false)) else (iso8601_readDigits.l0 k a0 a1 a2 0)) = some (r1, r2) := h
  clear h
  by_cases c4 : (a0.size : Int) < a1
  · rw [if_pos c4] at H
    have c4b0 : decide ((a0.size : Int) < a1) = true := decide_eq_true c4
    clear c4
    simp only [Option.some.injEq, Prod.mk.injEq] at H
    obtain ⟨rfl, rfl⟩ := H
    go_enter Try.func77, Try.ntmps77
    go_wp2
    go_ret2
    exact ⟨by first | rfl | (simp; done) | (simp [*]; done), by repeat (first | exact Drawn0.refl _ | apply Drawn0.step)⟩
  · rw [if_neg c4] at H
    have c4b0 : decide ((a0.size : Int) < a1) = false := decide_eq_false c4
    clear c4
    have H' := Aside0.mk H
    clear H
    go_enter Try.func77, Try.ntmps77
    go_wp2
    go_loopg [8] k (fun kq v8 w' => ∃ (x8_1 : Int), v8 = .int .i64 x8_1 ∧ Aside0 (iso8601_readDigits.l0 kq a0 a1 a2 x8_1 = some (r1, r2)) ∧ Aside0 (kq ≤ k) ∧ Drawn0 w w')
    case atStart => exact ⟨(0), (by first | rfl | (simp; done) | (simp [*]; done)), H', ⟨Nat.le_refl _⟩, by repeat (first | exact Drawn0.refl _ | apply Drawn0.step)⟩
    case round =>
      clear H'
      try clear p2
      try clear c4
      try clear c4b0
      obtain ⟨x8_1, rfl, HA, HK1, ⟨m1, rfl⟩⟩ := hrel
      cases gk with
      | zero => exact absurd HA.out (by simp [iso8601_readDigits.l0])
      | succ k1 =>
        have H := HA.out
        clear HA
        simp only [iso8601_readDigits.l0] at H
        by_cases c5 : x8_1 < a2
        · rw [if_pos c5] at H
          have c5b0 : decide (x8_1 < a2) = true := decide_eq_true c5
          clear c5
          by_cases c6 : x8_1 < (a0.size : Int)
          · rw [if_pos c6] at H
            have c6b0 : decide (x8_1 < (a0.size : Int)) = true := decide_eq_true c6
            clear c6
            by_cases c7 : 0 ≤ x8_1
            · rw [if_pos c7] at H
              have c7b0 : decide (0 ≤ x8_1) = true := decide_eq_true c7
              clear c7
              replace H := Option.bind_eq_some_iff.mp H
              obtain ⟨t118, A90, H⟩ := H
              replace H : (if t118 = true then (iso8601_readDigits.l0 k1 a0 a1 a2 (wrap64 (x8_1 + 1))) else (if x8_1 < a1 then (some (a0, false)) else (if x8_1 ≤ (a0.size : Int) then (some (a0.extract (x8_1 : Int).toNat a0.size, true)) else (none)))) = some (r1, r2) := H
              have A9 := Aside0.mk A90
              clear A90
              by_cases c10 : t118 = true
              · subst c10
                have H1 : (iso8601_readDigits.l0 k1 a0 a1 a2 (wrap64 (x8_1 + 1))) = some (r1, r2) := by rw [if_pos rfl] at H; exact H
                clear H
                have H := H1
                clear H1
                have H' := Aside0.mk H
                clear H
                have p8 : 0 ≤ (x8_1 : Int) := of_decide_eq_true (by first | (with_reducible assumption) | assumption)
                have q8 : x8_1 < (a0.size : Int) := of_decide_eq_true (by first | (with_reducible assumption) | assumption)
                have hx8 := bt_at a0 x8_1
                replace p8 := eq_true p8
                replace q8 := eq_true q8
                go_wp2_with (first | (go_at_call 80; (with_reducible refine (iso8601_isDigit.calls (bt a0 x8_1) true _ A9.out).mono ?_); rintro e w' ⟨rfl, ⟨nd, rfl⟩⟩))
                go_roundg k1
                case measure => have := HK1.out; omega
                case rel => exact ⟨(wrap64 (x8_1 + 1)), (by first | rfl | (simp; done) | (simp [*]; done)), H', ⟨by have := HK1.out; omega⟩, by repeat (first | exact Drawn0.refl _ | apply Drawn0.step)⟩
              · replace c10 := Bool.eq_false_iff.mpr c10
                subst c10
                have H1 : (if x8_1 < a1 then (some (a0, false)) else (if x8_1 ≤ (a0.size : Int) then (some (a0.extract (x8_1 : Int).toNat a0.size, true)) else (none))) = some (r1, r2) := by rw [if_neg (show ¬ (false = true) by decide)] at H; exact H
                clear H
                have H := H1
                clear H1
                by_cases c11 : x8_1 < a1
                · rw [if_pos c11] at H
                  have c11b0 : decide (x8_1 < a1) = true := decide_eq_true c11
                  clear c11
                  simp only [Option.some.injEq, Prod.mk.injEq] at H
                  obtain ⟨rfl, rfl⟩ := H
                  have p8 : 0 ≤ (x8_1 : Int) := of_decide_eq_true (by first | (with_reducible assumption) | assumption)
                  have q8 : x8_1 < (a0.size : Int) := of_decide_eq_true (by first | (with_reducible assumption) | assumption)
                  have hx8 := bt_at a0 x8_1
                  replace p8 := eq_true p8
                  replace q8 := eq_true q8
                  go_wp2_with (first | (go_at_call 80; (with_reducible refine (iso8601_isDigit.calls (bt a0 x8_1) false _ A9.out).mono ?_); rintro e w' ⟨rfl, ⟨nd, rfl⟩⟩))
                  go_ret2
                  exact ⟨by first | rfl | (simp; done) | (simp [*]; done), by repeat (first | exact Drawn0.refl _ | apply Drawn0.step)⟩
                · rw [if_neg c11] at H
                  have c11b0 : decide (x8_1 < a1) = false := decide_eq_false c11
                  clear c11
                  have c12b0 := eq_true (of_decide_eq_true (by first | (with_reducible assumption) | assumption) : 0 ≤ x8_1)
                  by_cases c13 : x8_1 ≤ (a0.size : Int)
                  · rw [if_pos c13] at H
                    have c13b0 := eq_true c13
                    have c13b1 : decide (x8_1 ≤ (a0.size : Int)) = true := decide_eq_true c13
                    clear c13
                    simp only [Option.some.injEq, Prod.mk.injEq] at H
                    obtain ⟨rfl, rfl⟩ := H
                    have p8 : 0 ≤ (x8_1 : Int) := of_decide_eq_true (by first | (with_reducible assumption) | assumption)
                    have q8 : x8_1 < (a0.size : Int) := of_decide_eq_true (by first | (with_reducible assumption) | assumption)
                    have hx8 := bt_at a0 x8_1
                    replace p8 := eq_true p8
                    replace q8 := eq_true q8
                    go_wp2_with (first | (go_at_call 80; (with_reducible refine (iso8601_isDigit.calls (bt a0 x8_1) false _ A9.out).mono ?_); rintro e w' ⟨rfl, ⟨nd, rfl⟩⟩))
                    go_ret2
                    exact ⟨by first | rfl | (simp; done) | (simp [*]; done), by repeat (first | exact Drawn0.refl _ | apply Drawn0.step)⟩
                  · rw [if_neg c13] at H
                    exact absurd H (by simp)
            · rw [if_neg c7] at H
              exact absurd H (by simp)
          · rw [if_neg c6] at H
            have c6b0 : decide (x8_1 < (a0.size : Int)) = false := decide_eq_false c6
            clear c6
            by_cases c14 : x8_1 < a1
            · rw [if_pos c14] at H
              have c14b0 : decide (x8_1 < a1) = true := decide_eq_true c14
              clear c14
              simp only [Option.some.injEq, Prod.mk.injEq] at H
              obtain ⟨rfl, rfl⟩ := H
              go_wp2
              go_ret2
              exact ⟨by first | rfl | (simp; done) | (simp [*]; done), by repeat (first | exact Drawn0.refl _ | apply Drawn0.step)⟩
            · rw [if_neg c14] at H
              have c14b0 : decide (x8_1 < a1) = false := decide_eq_false c14
              clear c14
              by_cases c15 : 0 ≤ x8_1
              · rw [if_pos c15] at H
                have c15b0 := eq_true c15
                have c15b1 : decide (0 ≤ x8_1) = true := decide_eq_true c15
                clear c15
                by_cases c16 : x8_1 ≤ (a0.size : Int)
                · rw [if_pos c16] at H
                  have c16b0 := eq_true c16
                  have c16b1 : decide (x8_1 ≤ (a0.size : Int)) = true := decide_eq_true c16
                  clear c16
                  simp only [Option.some.injEq, Prod.mk.injEq] at H
                  obtain ⟨rfl, rfl⟩ := H
                  go_wp2
                  go_ret2
                  exact ⟨by first | rfl | (simp; done) | (simp [*]; done), by repeat (first | exact Drawn0.refl _ | apply Drawn0.step)⟩
                · rw [if_neg c16] at H
                  exact absurd H (by simp)
              · rw [if_neg c15] at H
                exact absurd H (by simp)
        · rw [if_neg c5] at H
          have c5b0 : decide (x8_1 < a2) = false := decide_eq_false c5
          clear c5
          by_cases c17 : 0 ≤ x8_1
          · rw [if_pos c17] at H
            have c17b0 := eq_true c17
            have c17b1 : decide (0 ≤ x8_1) = true := decide_eq_true c17
            clear c17
            by_cases c18 : x8_1 ≤ (a0.size : Int)
            · rw [if_pos c18] at H
              have c18b0 := eq_true c18
              have c18b1 : decide (x8_1 ≤ (a0.size : Int)) = true := decide_eq_true c18
              clear c18
              simp only [Option.some.injEq, Prod.mk.injEq] at H
              obtain ⟨rfl, rfl⟩ := H
              go_wp2
              go_ret2
              exact ⟨by first | rfl | (simp; done) | (simp [*]; done), by repeat (first | exact Drawn0.refl _ | apply Drawn0.step)⟩
            · rw [if_neg c18] at H
              exact absurd H (by simp)
          · rw [if_neg c17] at H
            exact absurd H (by simp)

/-! ### iso8601_readByte: function 78 -/
def iso8601_readByte.f (a0 : ByteArray) (a1 : Int) : Option (ByteArray × Bool) := if (a0.size : Int) = 0 then (some (a0, false)) else (if 0 < (a0.size : Int) then (if (bt a0 0) = a1 then (if 1 ≤ (a0.size : Int) then (some (a0.extract 1 a0.size, true)) else (none)) else (some (a0, false))) else (none))
set_option maxHeartbeats 8000000 in
set_option maxRecDepth 100000 in
theorem iso8601_readByte.calls (a0 : ByteArray) (a1 : Int) (r1 : ByteArray) (r2 : Bool) (w : World) (h : iso8601_readByte.f a0 a1 = some (r1, r2)) :
    Calls Try.prog 78 #[.string a0, .int .u8 a1] w fun e w' => e = .returned (.tuple #[.string r1, .bool r2]) ∧ Drawn0 w w' := by
  have H : (if (a0.size : Int) = 0 then (some (a0, false)) else (if 0 < (a0.size : Int) then (if (bt a0 0) = a1 then (if 1 ≤ (a0.size : Int) then (some (a0.extract 1 a0.size, true)) else (none)) else (some (a0, false))) else (none))) = some (r1, r2) := h
  clear h
  by_cases c3 : (a0.size : Int) = 0
  · rw [if_pos c3] at H
    have c3b0 : ((a0.size : Int) == 0) = true := beq_iff_eq.mpr c3
    have c3b1 : ((a0.size : Int) != 0) = false := bne_eq_false_iff_eq.mpr c3
    clear c3
    simp only [Option.some.injEq, Prod.mk.injEq] at H
    obtain ⟨rfl, rfl⟩ := H
    go_enter Try.func78, Try.ntmps78
    go_wp2
    go_ret2
    exact ⟨by first | rfl | (simp; done) | (simp [*]; done), by repeat (first | exact Drawn0.refl _ | apply Drawn0.step)⟩
  · rw [if_neg c3] at H
    have c3b0 : ((a0.size : Int) == 0) = false := beq_eq_false_iff_ne.mpr c3
    have c3b1 : ((a0.size : Int) != 0) = true := bne_iff_ne.mpr c3
    by_cases c4 : 0 < (a0.size : Int)
    · rw [if_pos c4] at H
      have c4b0 : decide (0 < (a0.size : Int)) = true := decide_eq_true c4
      have c4b1 : decide (0 < a0.size) = true := decide_eq_true (by omega)
      clear c4
      by_cases c6 : (bt a0 0) = a1
      · rw [if_pos c6] at H
        have c6b0 : ((bt a0 0) == a1) = true := beq_iff_eq.mpr c6
        have c6b1 : ((bt a0 0) != a1) = false := bne_eq_false_iff_eq.mpr c6
        clear c6
        by_cases c7 : 1 ≤ (a0.size : Int)
        · rw [if_pos c7] at H
          have c7b0 := eq_true c7
          have c7b1 : decide (1 ≤ (a0.size : Int)) = true := decide_eq_true c7
          clear c7
          simp only [Option.some.injEq, Prod.mk.injEq] at H
          obtain ⟨rfl, rfl⟩ := H
          have p5 : 0 ≤ (0 : Int) := (by omega)
          have q5 : 0 < a0.size := (by have : (0 : Int) < (a0.size : Int) := of_decide_eq_true (by first | (with_reducible assumption) | assumption); omega)
          have hx5 : ∀ h : 0 < a0.size, ((a0[0]'h).toNat : Int) = bt a0 0 := bt_at a0 0
          clear p5
          have qi5 : (0 < (a0.size : Int)) = True := eq_true (of_decide_eq_true (by first | (with_reducible assumption) | assumption))
          replace q5 := eq_true q5
          go_enter Try.func78, Try.ntmps78
          go_wp2
          go_ret2
          exact ⟨by first | rfl | (simp; done) | (simp [*]; done), by repeat (first | exact Drawn0.refl _ | apply Drawn0.step)⟩
        · rw [if_neg c7] at H
          exact absurd H (by simp)
      · rw [if_neg c6] at H
        have c6b0 : ((bt a0 0) == a1) = false := beq_eq_false_iff_ne.mpr c6
        have c6b1 : ((bt a0 0) != a1) = true := bne_iff_ne.mpr c6
        simp only [Option.some.injEq, Prod.mk.injEq] at H
        obtain ⟨rfl, rfl⟩ := H
        have p5 : 0 ≤ (0 : Int) := (by omega)
        have q5 : 0 < a0.size := (by have : (0 : Int) < (a0.size : Int) := of_decide_eq_true (by first | (with_reducible assumption) | assumption); omega)
        have hx5 : ∀ h : 0 < a0.size, ((a0[0]'h).toNat : Int) = bt a0 0 := bt_at a0 0
        clear p5
        have qi5 : (0 < (a0.size : Int)) = True := eq_true (of_decide_eq_true (by first | (with_reducible assumption) | assumption))
        replace q5 := eq_true q5
        go_enter Try.func78, Try.ntmps78
        go_wp2
        go_ret2
        exact ⟨by first | rfl | (simp; done) | (simp [*]; done), by repeat (first | exact Drawn0.refl _ | apply Drawn0.step)⟩
    · rw [if_neg c4] at H
      exact absurd H (by simp)

end Go.Proofs.Ytmhngpihkaignaa.PFnIOValid
