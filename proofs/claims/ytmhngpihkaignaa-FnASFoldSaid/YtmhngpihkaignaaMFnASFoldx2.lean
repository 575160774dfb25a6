/- Written by mend.py (wip/) out of the print's text of this law: the functions of the law from 'asAwake' on, each with what it comes to; with no condition. -/
import Derived.Test.YtmhngpihkaignaaPFnASFoldx0
import Derived.Test.YtmhngpihkaignaaPFnASFoldx1
import Derived.Test.YtmhngpihkaignaaOwnMark
namespace Go.Proofs.Ytmhngpihkaignaa.PFnASFold
open Go.Proofs.Ytmhngpihkaignaa.OwnMark Go.RowKit Go.Proofs.YtmhngpihkaignaaW.PrintWords Go.Proofs.YtmhngpihkaignaaW.PrintLast Go.Proofs.YtmhngpihkaignaaW.PrintMore
attribute [local go_sem] max2_int min2_int max_two min_two max_three min_three max_four min_four   -- for this text's walks alone
set_option linter.unusedVariables false
set_option linter.unusedSimpArgs false

/-! ### ascii_Valid_46: function 46 -/
def ascii_Valid_46.f (k : Nat) (l0 : List Int) : Option (Bool) := (ascii_Valid_66.f k l0).bind fun t127 => (some t127)
theorem ascii_Valid_46.mono : ∀ a0 k, LeO (ascii_Valid_46.f k a0) (ascii_Valid_46.f (k + 1) a0) := by
  intro a0 k
  unfold ascii_Valid_46.f
  repeat' first
      | (with_reducible exact ascii_Valid_66.mono _ _)
      | (with_reducible exact LeO.refl _)
      | (with_reducible exact LeO.none _)
      | (with_reducible refine LeO.ite ?_ ?_)
      | (with_reducible refine LeO.bind ?_ (fun _ => ?_))
      | exact ascii_Valid_66.mono _ _
      | exact LeO.none _
      | refine LeO.ite ?_ ?_
      | refine LeO.bind ?_ (fun _ => ?_)
set_option maxHeartbeats 8000000 in
set_option maxRecDepth 100000 in
theorem ascii_Valid_46.calls (k : Nat) (A0 : Option Addr) (c0 : Nat) (l0 : List Int) (r : Bool) (w : World) (hr0 : Kd.C (Kd.int .u8) w A0 l0.length l0) (hc0 : l0.length ≤ c0) (h : ascii_Valid_46.f k l0 = some r) :
    Calls Try.prog 46 #[.slice A0 l0.length c0] w fun e w' => e = .returned (.bool r) ∧ Drawn0 w w' := by
  have HR0 := Aside0.mk hr0
  have HC0 := Aside0.mk hc0
  clear hr0 hc0
  have H : ((ascii_Valid_66.f k l0).bind fun t127 => (some t127)) = some r := h
  clear h
  replace H := Option.bind_eq_some_iff.mp H
  obtain ⟨t127, A20, H⟩ := H
  replace H : (some t127) = some r := H
  have A2 := Aside0.mk A20
  clear A20
  obtain rfl := Option.some.inj H
  go_enter Try.func46, Try.ntmps46
  go_wp2_with (first | ((with_reducible refine gate_callee (f := 66) rfl ?_); refine goesL_ (some 4) rfl rfl Try.func66 (by kernel_rfl) rfl #[.slice A0 l0.length c0] rfl (by (try simp only [List.map_toArray, List.map_cons, List.map_nil]); first | done | rfl | (simp only [List.length_drop, List.length_take]; rfl)) ?_; (with_reducible refine (ascii_Valid_66.calls k _ _ l0 t127 _ ?side1 ?side2 A2.out).mono ?_); (case side1 => repeat (first | exact HR0.out | (with_reducible refine Kd.C_alloc ?_ _) | (with_reducible refine Kd.C_drewN ?_ _) | (with_reducible refine Kd.C_drew ?_))); (case side2 => exact HC0.out); rintro e w' ⟨rfl, ⟨nd, rfl⟩⟩; refine ⟨_, rfl, ?_⟩))
  go_ret
  exact ⟨by first | rfl | (simp; done) | (simp [*]; done), by repeat (first | exact Drawn0.refl _ | apply Drawn0.step)⟩

/-! ### impl_ASValid: function 23 -/
def impl_ASValid.f (k : Nat) (l0 : List Int) (a1 : Bool) : Option (Bool) := if a1 = true then ((ascii_ValidString_45.f k (strOfNums l0)).bind fun t128 => (some t128)) else ((ascii_Valid_46.f k l0).bind fun t129 => (some t129))
theorem impl_ASValid.mono : ∀ a0 a1 k, LeO (impl_ASValid.f k a0 a1) (impl_ASValid.f (k + 1) a0 a1) := by
  intro a0 a1 k
  unfold impl_ASValid.f
  repeat' first
      | (with_reducible exact ascii_ValidString_45.mono _ _)
      | (with_reducible exact ascii_Valid_46.mono _ _)
      | (with_reducible exact LeO.refl _)
      | (with_reducible exact LeO.none _)
      | (with_reducible refine LeO.ite ?_ ?_)
      | (with_reducible refine LeO.bind ?_ (fun _ => ?_))
      | exact ascii_ValidString_45.mono _ _
      | exact ascii_Valid_46.mono _ _
      | exact LeO.none _
      | refine LeO.ite ?_ ?_
      | refine LeO.bind ?_ (fun _ => ?_)
set_option maxHeartbeats 8000000 in
set_option maxRecDepth 100000 in
theorem impl_ASValid.calls (k : Nat) (A0 : Option Addr) (c0 : Nat) (l0 : List Int) (a1 : Bool) (r : Bool) (w : World) (hr0 : Kd.C (Kd.int .u8) w A0 l0.length l0) (hc0 : l0.length ≤ c0) (h : impl_ASValid.f k l0 a1 = some r) :
    Calls Try.prog 23 #[.slice A0 l0.length c0, .bool a1] w fun e w' => e = .returned (.bool r) ∧ Drawn0 w w' := by
  have HR0 := Aside0.mk hr0
  have HC0 := Aside0.mk hc0
  clear hr0 hc0
  have H : (if a1 = true then ((ascii_ValidString_45.f k (strOfNums l0)).bind fun t128 => (some t128)) else ((ascii_Valid_46.f k l0).bind fun t129 => (some t129))) = some r := h
  clear h
  by_cases c3 : a1 = true
  · subst c3
    have H1 : ((ascii_ValidString_45.f k (strOfNums l0)).bind fun t128 => (some t128)) = some r := by rw [if_pos rfl] at H; exact H
    clear H
    have H := H1
    clear H1
    replace H := Option.bind_eq_some_iff.mp H
    obtain ⟨t128, A40, H⟩ := H
    replace H : (some t128) = some r := H
    have A4 := Aside0.mk A40
    clear A40
    obtain rfl := Option.some.inj H
    have hcv5 := Kd.C_string (P := Try.prog) (A := A0) (c := c0) Try.underlying31 Try.underlying5 Try.underlying9 HR0.out
    go_enter Try.func23, Try.ntmps23
    go_wp2_with (first | ((with_reducible refine gate_callee (f := 45) rfl ?_); refine goesL_ (some 8) rfl rfl Try.func45 (by kernel_rfl) rfl #[.string (strOfNums l0)] rfl (by (try simp only [List.map_toArray, List.map_cons, List.map_nil]); first | done | rfl | (simp only [List.length_drop, List.length_take]; rfl)) ?_; (with_reducible refine (ascii_ValidString_45.calls k (strOfNums l0) t128 _ A4.out).mono ?_); rintro e w' ⟨rfl, ⟨nd, rfl⟩⟩; refine ⟨_, rfl, ?_⟩))
    go_ret
    exact ⟨by first | rfl | (simp; done) | (simp [*]; done), by repeat (first | exact Drawn0.refl _ | apply Drawn0.step)⟩
  · replace c3 := Bool.eq_false_iff.mpr c3
    subst c3
    have H1 : ((ascii_Valid_46.f k l0).bind fun t129 => (some t129)) = some r := by rw [if_neg (show ¬ (false = true) by decide)] at H; exact H
    clear H
    have H := H1
    clear H1
    replace H := Option.bind_eq_some_iff.mp H
    obtain ⟨t129, A60, H⟩ := H
    replace H : (some t129) = some r := H
    have A6 := Aside0.mk A60
    clear A60
    obtain rfl := Option.some.inj H
    go_enter Try.func23, Try.ntmps23
    go_wp2_with (first | ((with_reducible refine gate_callee (f := 46) rfl ?_); refine goesL_ (some 10) rfl rfl Try.func46 (by kernel_rfl) rfl #[.slice A0 l0.length c0] rfl (by (try simp only [List.map_toArray, List.map_cons, List.map_nil]); first | done | rfl | (simp only [List.length_drop, List.length_take]; rfl)) ?_; (with_reducible refine (ascii_Valid_46.calls k _ _ l0 t129 _ ?side1 ?side2 A6.out).mono ?_); (case side1 => repeat (first | exact HR0.out | (with_reducible refine Kd.C_alloc ?_ _) | (with_reducible refine Kd.C_drewN ?_ _) | (with_reducible refine Kd.C_drew ?_))); (case side2 => exact HC0.out); rintro e w' ⟨rfl, ⟨nd, rfl⟩⟩; refine ⟨_, rfl, ?_⟩))
    go_ret
    exact ⟨by first | rfl | (simp; done) | (simp [*]; done), by repeat (first | exact Drawn0.refl _ | apply Drawn0.step)⟩

/-! ### ascii_ValidPrintByte: function 70 -/
def ascii_ValidPrintByte.f (a0 : Int) : Option (Bool) := if 32 ≤ a0 then (some (decide (a0 ≤ 126))) else (some false)
set_option maxHeartbeats 8000000 in
set_option maxRecDepth 100000 in
theorem ascii_ValidPrintByte.calls (a0 : Int) (r : Bool) (w : World) (h : ascii_ValidPrintByte.f a0 = some r) :
    Calls Try.prog 70 #[.int .u8 a0] w fun e w' => e = .returned (.bool r) ∧ Drawn0 w w' := by
  have H : (if 32 ≤ a0 then (some (decide (a0 ≤ 126))) else (some false)) = some r := h
  clear h
  by_cases c2 : 32 ≤ a0
  · rw [if_pos c2] at H
    have c2b0 : decide (32 ≤ a0) = true := decide_eq_true c2
    clear c2
    obtain rfl := Option.some.inj H
    go_enter Try.func70, Try.ntmps70
    go_wp2
    go_ret
    exact ⟨by first | rfl | (simp; done) | (simp [*]; done), by repeat (first | exact Drawn0.refl _ | apply Drawn0.step)⟩
  · rw [if_neg c2] at H
    have c2b0 : decide (32 ≤ a0) = false := decide_eq_false c2
    clear c2
    obtain rfl := Option.some.inj H
    go_enter Try.func70, Try.ntmps70
    go_wp2
    go_ret
    exact ⟨by first | rfl | (simp; done) | (simp [*]; done), by repeat (first | exact Drawn0.refl _ | apply Drawn0.step)⟩

/-! ### ascii_ValidPrintString_67: function 67 -/
def ascii_ValidPrintString_67.l0 : Nat → ByteArray → Int → Option (Bool)
  | 0, _, _ => none
  | k + 1, x0, x3 => if x3 < (x0.size : Int) then (if 0 ≤ x3 then ((ascii_ValidPrintByte.f (bt x0 x3)).bind fun t130 => (if t130 = true then (ascii_ValidPrintString_67.l0 k x0 (wrap64 (x3 + 1))) else (some false))) else (none)) else (some true)
def ascii_ValidPrintString_67.f (k : Nat) (a0 : ByteArray) : Option (Bool) := ascii_ValidPrintString_67.l0 k a0 0
theorem ascii_ValidPrintString_67.mono_l : ∀ k, (∀ y0 y1, LeO (ascii_ValidPrintString_67.l0 k y0 y1) (ascii_ValidPrintString_67.l0 (k + 1) y0 y1))
  | 0 => fun _ _ r h => by simp [ascii_ValidPrintString_67.l0] at h
  | k + 1 => by
    have ih0 := ascii_ValidPrintString_67.mono_l k
    · intro y0 y1
      unfold ascii_ValidPrintString_67.l0
      repeat' first
      | (with_reducible exact ih0 _ _)
      | (with_reducible exact LeO.refl _)
      | (with_reducible exact LeO.none _)
      | (with_reducible refine LeO.ite ?_ ?_)
      | (with_reducible refine LeO.bind ?_ (fun _ => ?_))
      | exact ih0 _ _
      | exact LeO.none _
      | refine LeO.ite ?_ ?_
      | refine LeO.bind ?_ (fun _ => ?_)
theorem ascii_ValidPrintString_67.mono : ∀ a0 k, LeO (ascii_ValidPrintString_67.f k a0) (ascii_ValidPrintString_67.f (k + 1) a0) := by
  intro a0 k
  have ih0 := ascii_ValidPrintString_67.mono_l k
  unfold ascii_ValidPrintString_67.f
  repeat' first
      | (with_reducible exact ih0 _ _)
      | (with_reducible exact LeO.refl _)
      | (with_reducible exact LeO.none _)
      | (with_reducible refine LeO.ite ?_ ?_)
      | (with_reducible refine LeO.bind ?_ (fun _ => ?_))
      | exact ih0 _ _
      | exact LeO.none _
      | refine LeO.ite ?_ ?_
      | refine LeO.bind ?_ (fun _ => ?_)
set_option maxHeartbeats 8000000 in
set_option maxRecDepth 100000 in
theorem ascii_ValidPrintString_67.calls (k : Nat) (a0 : ByteArray) (r : Bool) (w : World) (h : ascii_ValidPrintString_67.f k a0 = some r) :
    Calls Try.prog 67 #[.string a0] w fun e w' => e = .returned (.bool r) ∧ Drawn0 w w' := by
  have H : (ascii_ValidPrintString_67.l0 k a0 0) = some r := h
  clear h
  have H' := Aside0.mk H
  clear H
  go_enter Try.func67, Try.ntmps67
  go_wp2
  go_loopg [3] k (fun kq v3 w' => ∃ (x3_1 : Int), v3 = .int .i64 x3_1 ∧ Aside0 (ascii_ValidPrintString_67.l0 kq a0 x3_1 = some r) ∧ Aside0 (kq ≤ k) ∧ Drawn0 w w')
  case atStart => exact ⟨(0), (by first | rfl | (simp; done) | (simp [*]; done)), H', ⟨Nat.le_refl _⟩, by repeat (first | exact Drawn0.refl _ | apply Drawn0.step)⟩
  case round =>
    clear H'
    obtain ⟨x3_1, rfl, HA, HK1, ⟨m1, rfl⟩⟩ := hrel
    cases gk with
    | zero => exact absurd HA.out (by simp [ascii_ValidPrintString_67.l0])
    | succ k1 =>
      have H := HA.out
      clear HA
      simp only [ascii_ValidPrintString_67.l0] at H
      by_cases c2 : x3_1 < (a0.size : Int)
      · rw [if_pos c2] at H
        have c2b0 : decide (x3_1 < (a0.size : Int)) = true := decide_eq_true c2
        clear c2
        by_cases c3 : 0 ≤ x3_1
        · rw [if_pos c3] at H
          have c3b0 : decide (0 ≤ x3_1) = true := decide_eq_true c3
          clear c3
          replace H := Option.bind_eq_some_iff.mp H
          obtain ⟨t130, A50, H⟩ := H
          replace H : (if t130 = true then (ascii_ValidPrintString_67.l0 k1 a0 (wrap64 (x3_1 + 1))) else (some false)) = some r := H
          have A5 := Aside0.mk A50
          clear A50
          by_cases c6 : t130 = true
          · subst c6
            have H1 : (ascii_ValidPrintString_67.l0 k1 a0 (wrap64 (x3_1 + 1))) = some r := by rw [if_pos rfl] at H; exact H
            clear H
            have H := H1
            clear H1
            have H' := Aside0.mk H
            clear H
            have p4 : 0 ≤ (x3_1 : Int) := of_decide_eq_true (by first | (with_reducible assumption) | assumption)
            have q4 : x3_1 < (a0.size : Int) := of_decide_eq_true (by first | (with_reducible assumption) | assumption)
            have hx4 := bt_at a0 x3_1
            replace p4 := eq_true p4
            replace q4 := eq_true q4
            go_wp2_with (first | ((with_reducible refine gate_callee (f := 70) rfl ?_); refine goesL_ (some 13) rfl rfl Try.func70 (by kernel_rfl) rfl #[.int .u8 (bt a0 x3_1)] rfl (by (try simp only [List.map_toArray, List.map_cons, List.map_nil]); first | done | rfl | (simp only [List.length_drop, List.length_take]; rfl)) ?_; (with_reducible refine (ascii_ValidPrintByte.calls (bt a0 x3_1) true _ A5.out).mono ?_); rintro e w' ⟨rfl, ⟨nd, rfl⟩⟩; refine ⟨_, rfl, ?_⟩))
            go_roundg k1
            case measure => have := HK1.out; omega
            case rel => exact ⟨(wrap64 (x3_1 + 1)), (by first | rfl | (simp; done) | (simp [*]; done)), H', ⟨by have := HK1.out; omega⟩, by repeat (first | exact Drawn0.refl _ | apply Drawn0.step)⟩
          · replace c6 := Bool.eq_false_iff.mpr c6
            subst c6
            have H1 : (some false) = some r := by rw [if_neg (show ¬ (false = true) by decide)] at H; exact H
            clear H
            have H := H1
            clear H1
            obtain rfl := Option.some.inj H
            have p4 : 0 ≤ (x3_1 : Int) := of_decide_eq_true (by first | (with_reducible assumption) | assumption)
            have q4 : x3_1 < (a0.size : Int) := of_decide_eq_true (by first | (with_reducible assumption) | assumption)
            have hx4 := bt_at a0 x3_1
            replace p4 := eq_true p4
            replace q4 := eq_true q4
            go_wp2_with (first | ((with_reducible refine gate_callee (f := 70) rfl ?_); refine goesL_ (some 13) rfl rfl Try.func70 (by kernel_rfl) rfl #[.int .u8 (bt a0 x3_1)] rfl (by (try simp only [List.map_toArray, List.map_cons, List.map_nil]); first | done | rfl | (simp only [List.length_drop, List.length_take]; rfl)) ?_; (with_reducible refine (ascii_ValidPrintByte.calls (bt a0 x3_1) false _ A5.out).mono ?_); rintro e w' ⟨rfl, ⟨nd, rfl⟩⟩; refine ⟨_, rfl, ?_⟩))
            go_ret
            exact ⟨by first | rfl | (simp; done) | (simp [*]; done), by repeat (first | exact Drawn0.refl _ | apply Drawn0.step)⟩
        · rw [if_neg c3] at H
          exact absurd H (by simp)
      · rw [if_neg c2] at H
        have c2b0 : decide (x3_1 < (a0.size : Int)) = false := decide_eq_false c2
        clear c2
        obtain rfl := Option.some.inj H
        go_wp2
        go_ret
        exact ⟨by first | rfl | (simp; done) | (simp [*]; done), by repeat (first | exact Drawn0.refl _ | apply Drawn0.step)⟩

/-! ### ascii_ValidPrintString_47: function 47 -/
def ascii_ValidPrintString_47.f (k : Nat) (a0 : ByteArray) : Option (Bool) := (ascii_ValidPrintString_67.f k a0).bind fun t131 => (some t131)
theorem ascii_ValidPrintString_47.mono : ∀ a0 k, LeO (ascii_ValidPrintString_47.f k a0) (ascii_ValidPrintString_47.f (k + 1) a0) := by
  intro a0 k
  unfold ascii_ValidPrintString_47.f
  repeat' first
      | (with_reducible exact ascii_ValidPrintString_67.mono _ _)
      | (with_reducible exact LeO.refl _)
      | (with_reducible exact LeO.none _)
      | (with_reducible refine LeO.ite ?_ ?_)
      | (with_reducible refine LeO.bind ?_ (fun _ => ?_))
      | exact ascii_ValidPrintString_67.mono _ _
      | exact LeO.none _
      | refine LeO.ite ?_ ?_
      | refine LeO.bind ?_ (fun _ => ?_)
set_option maxHeartbeats 8000000 in
set_option maxRecDepth 100000 in
theorem ascii_ValidPrintString_47.calls (k : Nat) (a0 : ByteArray) (r : Bool) (w : World) (h : ascii_ValidPrintString_47.f k a0 = some r) :
    Calls Try.prog 47 #[.string a0] w fun e w' => e = .returned (.bool r) ∧ Drawn0 w w' := by
  have H : ((ascii_ValidPrintString_67.f k a0).bind fun t131 => (some t131)) = some r := h
  clear h
  replace H := Option.bind_eq_some_iff.mp H
  obtain ⟨t131, A20, H⟩ := H
  replace H : (some t131) = some r := H
  have A2 := Aside0.mk A20
  clear A20
  obtain rfl := Option.some.inj H
  go_enter Try.func47, Try.ntmps47
  go_wp2_with (first | ((with_reducible refine gate_callee (f := 67) rfl ?_); refine goesL_ (some 4) rfl rfl Try.func67 (by kernel_rfl) rfl #[.string a0] rfl (by (try simp only [List.map_toArray, List.map_cons, List.map_nil]); first | done | rfl | (simp only [List.length_drop, List.length_take]; rfl)) ?_; (with_reducible refine (ascii_ValidPrintString_67.calls k a0 t131 _ A2.out).mono ?_); rintro e w' ⟨rfl, ⟨nd, rfl⟩⟩; refine ⟨_, rfl, ?_⟩))
  go_ret
  exact ⟨by first | rfl | (simp; done) | (simp [*]; done), by repeat (first | exact Drawn0.refl _ | apply Drawn0.step)⟩

/-! ### ascii_ValidPrint_68: function 68 -/
def ascii_ValidPrint_68.f (k : Nat) (l0 : List Int) : Option (Bool) := (ascii_ValidPrintString_67.f k (strOfNums l0)).bind fun t132 => (some t132)
theorem ascii_ValidPrint_68.mono : ∀ a0 k, LeO (ascii_ValidPrint_68.f k a0) (ascii_ValidPrint_68.f (k + 1) a0) := by
  intro a0 k
  unfold ascii_ValidPrint_68.f
  repeat' first
      | (with_reducible exact ascii_ValidPrintString_67.mono _ _)
      | (with_reducible exact LeO.refl _)
      | (with_reducible exact LeO.none _)
      | (with_reducible refine LeO.ite ?_ ?_)
      | (with_reducible refine LeO.bind ?_ (fun _ => ?_))
      | exact ascii_ValidPrintString_67.mono _ _
      | exact LeO.none _
      | refine LeO.ite ?_ ?_
      | refine LeO.bind ?_ (fun _ => ?_)
set_option maxHeartbeats 8000000 in
set_option maxRecDepth 100000 in
theorem ascii_ValidPrint_68.calls (k : Nat) (A0 : Option Addr) (c0 : Nat) (l0 : List Int) (r : Bool) (w : World) (hr0 : Kd.C (Kd.int .u8) w A0 l0.length l0) (hc0 : l0.length ≤ c0) (h : ascii_ValidPrint_68.f k l0 = some r) :
    Calls Try.prog 68 #[.slice A0 l0.length c0] w fun e w' => e = .returned (.bool r) ∧ Drawn0 w w' := by
  have HR0 := Aside0.mk hr0
  have HC0 := Aside0.mk hc0
  clear hr0 hc0
  have H : ((ascii_ValidPrintString_67.f k (strOfNums l0)).bind fun t132 => (some t132)) = some r := h
  clear h
  replace H := Option.bind_eq_some_iff.mp H
  obtain ⟨t132, A20, H⟩ := H
  replace H : (some t132) = some r := H
  have A2 := Aside0.mk A20
  clear A20
  obtain rfl := Option.some.inj H
  have hcv3 := Kd.C_string (P := Try.prog) (A := A0) (c := c0) Try.underlying31 Try.underlying5 Try.underlying9 HR0.out
  go_enter Try.func68, Try.ntmps68
  go_wp2_with (first | ((with_reducible refine gate_callee (f := 67) rfl ?_); refine goesL_ (some 5) rfl rfl Try.func67 (by kernel_rfl) rfl #[.string (strOfNums l0)] rfl (by (try simp only [List.map_toArray, List.map_cons, List.map_nil]); first | done | rfl | (simp only [List.length_drop, List.length_take]; rfl)) ?_; (with_reducible refine (ascii_ValidPrintString_67.calls k (strOfNums l0) t132 _ A2.out).mono ?_); rintro e w' ⟨rfl, ⟨nd, rfl⟩⟩; refine ⟨_, rfl, ?_⟩))
  go_ret
  exact ⟨by first | rfl | (simp; done) | (simp [*]; done), by repeat (first | exact Drawn0.refl _ | apply Drawn0.step)⟩

/-! ### ascii_ValidPrint_48: function 48 -/
def ascii_ValidPrint_48.f (k : Nat) (l0 : List Int) : Option (Bool) := (ascii_ValidPrint_68.f k l0).bind fun t133 => (some t133)
theorem ascii_ValidPrint_48.mono : ∀ a0 k, LeO (ascii_ValidPrint_48.f k a0) (ascii_ValidPrint_48.f (k + 1) a0) := by
  intro a0 k
  unfold ascii_ValidPrint_48.f
  repeat' first
      | (with_reducible exact ascii_ValidPrint_68.mono _ _)
      | (with_reducible exact LeO.refl _)
      | (with_reducible exact LeO.none _)
      | (with_reducible refine LeO.ite ?_ ?_)
      | (with_reducible refine LeO.bind ?_ (fun _ => ?_))
      | exact ascii_ValidPrint_68.mono _ _
      | exact LeO.none _
      | refine LeO.ite ?_ ?_
      | refine LeO.bind ?_ (fun _ => ?_)
set_option maxHeartbeats 8000000 in
set_option maxRecDepth 100000 in
theorem ascii_ValidPrint_48.calls (k : Nat) (A0 : Option Addr) (c0 : Nat) (l0 : List Int) (r : Bool) (w : World) (hr0 : Kd.C (Kd.int .u8) w A0 l0.length l0) (hc0 : l0.length ≤ c0) (h : ascii_ValidPrint_48.f k l0 = some r) :
    Calls Try.prog 48 #[.slice A0 l0.length c0] w fun e w' => e = .returned (.bool r) ∧ Drawn0 w w' := by
  have HR0 := Aside0.mk hr0
  have HC0 := Aside0.mk hc0
  clear hr0 hc0
  have H : ((ascii_ValidPrint_68.f k l0).bind fun t133 => (some t133)) = some r := h
  clear h
  replace H := Option.bind_eq_some_iff.mp H
  obtain ⟨t133, A20, H⟩ := H
  replace H : (some t133) = some r := H
  have A2 := Aside0.mk A20
  clear A20
  obtain rfl := Option.some.inj H
  go_enter Try.func48, Try.ntmps48
  go_wp2_with (first | ((with_reducible refine gate_callee (f := 68) rfl ?_); refine goesL_ (some 4) rfl rfl Try.func68 (by kernel_rfl) rfl #[.slice A0 l0.length c0] rfl (by (try simp only [List.map_toArray, List.map_cons, List.map_nil]); first | done | rfl | (simp only [List.length_drop, List.length_take]; rfl)) ?_; (with_reducible refine (ascii_ValidPrint_68.calls k _ _ l0 t133 _ ?side1 ?side2 A2.out).mono ?_); (case side1 => repeat (first | exact HR0.out | (with_reducible refine Kd.C_alloc ?_ _) | (with_reducible refine Kd.C_drewN ?_ _) | (with_reducible refine Kd.C_drew ?_))); (case side2 => exact HC0.out); rintro e w' ⟨rfl, ⟨nd, rfl⟩⟩; refine ⟨_, rfl, ?_⟩))
  go_ret
  exact ⟨by first | rfl | (simp; done) | (simp [*]; done), by repeat (first | exact Drawn0.refl _ | apply Drawn0.step)⟩

/-! ### impl_ASPrint: function 25 -/
def impl_ASPrint.f (k : Nat) (l0 : List Int) (a1 : Bool) : Option (Bool) := if a1 = true then ((ascii_ValidPrintString_47.f k (strOfNums l0)).bind fun t134 => (some t134)) else ((ascii_ValidPrint_48.f k l0).bind fun t135 => (some t135))
theorem impl_ASPrint.mono : ∀ a0 a1 k, LeO (impl_ASPrint.f k a0 a1) (impl_ASPrint.f (k + 1) a0 a1) := by
  intro a0 a1 k
  unfold impl_ASPrint.f
  repeat' first
      | (with_reducible exact ascii_ValidPrintString_47.mono _ _)
      | (with_reducible exact ascii_ValidPrint_48.mono _ _)
      | (with_reducible exact LeO.refl _)
      | (with_reducible exact LeO.none _)
      | (with_reducible refine LeO.ite ?_ ?_)
      | (with_reducible refine LeO.bind ?_ (fun _ => ?_))
      | exact ascii_ValidPrintString_47.mono _ _
      | exact ascii_ValidPrint_48.mono _ _
      | exact LeO.none _
      | refine LeO.ite ?_ ?_
      | refine LeO.bind ?_ (fun _ => ?_)
set_option maxHeartbeats 8000000 in
set_option maxRecDepth 100000 in
theorem impl_ASPrint.calls (k : Nat) (A0 : Option Addr) (c0 : Nat) (l0 : List Int) (a1 : Bool) (r : Bool) (w : World) (hr0 : Kd.C (Kd.int .u8) w A0 l0.length l0) (hc0 : l0.length ≤ c0) (h : impl_ASPrint.f k l0 a1 = some r) :
    Calls Try.prog 25 #[.slice A0 l0.length c0, .bool a1] w fun e w' => e = .returned (.bool r) ∧ Drawn0 w w' := by
  have HR0 := Aside0.mk hr0
  have HC0 := Aside0.mk hc0
  clear hr0 hc0
  have H : (if a1 = true then ((ascii_ValidPrintString_47.f k (strOfNums l0)).bind fun t134 => (some t134)) else ((ascii_ValidPrint_48.f k l0).bind fun t135 => (some t135))) = some r := h
  clear h
  by_cases c3 : a1 = true
  · subst c3
    have H1 : ((ascii_ValidPrintString_47.f k (strOfNums l0)).bind fun t134 => (some t134)) = some r := by rw [if_pos rfl] at H; exact H
    clear H
    have H := H1
    clear H1
    replace H := Option.bind_eq_some_iff.mp H
    obtain ⟨t134, A40, H⟩ := H
    replace H : (some t134) = some r := H
    have A4 := Aside0.mk A40
    clear A40
    obtain rfl := Option.some.inj H
    have hcv5 := Kd.C_string (P := Try.prog) (A := A0) (c := c0) Try.underlying31 Try.underlying5 Try.underlying9 HR0.out
    go_enter Try.func25, Try.ntmps25
    go_wp2_with (first | ((with_reducible refine gate_callee (f := 47) rfl ?_); refine goesL_ (some 8) rfl rfl Try.func47 (by kernel_rfl) rfl #[.string (strOfNums l0)] rfl (by (try simp only [List.map_toArray, List.map_cons, List.map_nil]); first | done | rfl | (simp only [List.length_drop, List.length_take]; rfl)) ?_; (with_reducible refine (ascii_ValidPrintString_47.calls k (strOfNums l0) t134 _ A4.out).mono ?_); rintro e w' ⟨rfl, ⟨nd, rfl⟩⟩; refine ⟨_, rfl, ?_⟩))
    go_ret
    exact ⟨by first | rfl | (simp; done) | (simp [*]; done), by repeat (first | exact Drawn0.refl _ | apply Drawn0.step)⟩
  · replace c3 := Bool.eq_false_iff.mpr c3
    subst c3
    have H1 : ((ascii_ValidPrint_48.f k l0).bind fun t135 => (some t135)) = some r := by rw [if_neg (show ¬ (false = true) by decide)] at H; exact H
    clear H
    have H := H1
    clear H1
    replace H := Option.bind_eq_some_iff.mp H
    obtain ⟨t135, A60, H⟩ := H
    replace H : (some t135) = some r := H
    have A6 := Aside0.mk A60
    clear A60
    obtain rfl := Option.some.inj H
    go_enter Try.func25, Try.ntmps25
    go_wp2_with (first | ((with_reducible refine gate_callee (f := 48) rfl ?_); refine goesL_ (some 10) rfl rfl Try.func48 (by kernel_rfl) rfl #[.slice A0 l0.length c0] rfl (by (try simp only [List.map_toArray, List.map_cons, List.map_nil]); first | done | rfl | (simp only [List.length_drop, List.length_take]; rfl)) ?_; (with_reducible refine (ascii_ValidPrint_48.calls k _ _ l0 t135 _ ?side1 ?side2 A6.out).mono ?_); (case side1 => repeat (first | exact HR0.out | (with_reducible refine Kd.C_alloc ?_ _) | (with_reducible refine Kd.C_drewN ?_ _) | (with_reducible refine Kd.C_drew ?_))); (case side2 => exact HC0.out); rintro e w' ⟨rfl, ⟨nd, rfl⟩⟩; refine ⟨_, rfl, ?_⟩))
    go_ret
    exact ⟨by first | rfl | (simp; done) | (simp [*]; done), by repeat (first | exact Drawn0.refl _ | apply Drawn0.step)⟩

/-! ### laws_asAwake: function 21 -/
def laws_asAwake.f (k : Nat)  : Option (Bool) := (impl_ASValid.f k (([97, 98, 99] : List Int)) true).bind fun t139 => (if t139 = true then ((impl_ASValid.f k (([97, 98, 255] : List Int)) false).bind fun t143 => (if t143 = true then (some false) else ((impl_ASFold.f k (([97, 66] : List Int)) (([65, 98] : List Int)) false).bind fun t150 => (if t150 = true then ((impl_ASPrint.f k (([97, 32, 98] : List Int)) false).bind fun t154 => (some t154)) else (some false))))) else (some false))
theorem laws_asAwake.mono : ∀ k, LeO (laws_asAwake.f k ) (laws_asAwake.f (k + 1) ) := by
  intro  k
  unfold laws_asAwake.f
  repeat' first
      | (with_reducible exact impl_ASFold.mono _ _ _ _)
      | (with_reducible exact impl_ASPrint.mono _ _ _)
      | (with_reducible exact impl_ASValid.mono _ _ _)
      | (with_reducible exact LeO.refl _)
      | (with_reducible exact LeO.none _)
      | (with_reducible refine LeO.ite ?_ ?_)
      | (with_reducible refine LeO.bind ?_ (fun _ => ?_))
      | exact impl_ASFold.mono _ _ _ _
      | exact impl_ASPrint.mono _ _ _
      | exact impl_ASValid.mono _ _ _
      | exact LeO.none _
      | refine LeO.ite ?_ ?_
      | refine LeO.bind ?_ (fun _ => ?_)
theorem awake_true (k : Nat) (r : Bool) (h : laws_asAwake.f k = some r) : r = true := by
  have h6 : laws_asAwake.f 6 = some true := by decide +kernel
  have up : ∀ n, laws_asAwake.f (6 + n) = some true := by
    intro n; induction n with
    | zero => exact h6
    | succ n ih => exact laws_asAwake.mono (6 + n) _ ih
  have up2 : ∀ n, laws_asAwake.f (k + n) = some r := by
    intro n; induction n with
    | zero => exact h
    | succ n ih => exact laws_asAwake.mono (k + n) _ ih
  have e := up k; rw [Nat.add_comm, up2 6] at e; injection e
set_option maxHeartbeats 8000000 in
set_option maxRecDepth 100000 in
theorem laws_asAwake.calls (k : Nat) (r : Bool) (w : World) (h : laws_asAwake.f k = some r) :
    Calls Try.prog 21 #[] w fun e w' => e = .returned (.bool r) ∧ Below w.heap.size w w' := by
  obtain rfl := awake_true k r h
  clear h
  have HB := Aside0.mk (Below.refl w.heap.size w)
  obtain ⟨y0, N0⟩ : ∃ y : List Int, Aside0 (y = [97, 98, 99]) := ⟨_, ⟨rfl⟩⟩
  obtain ⟨y1, N1⟩ : ∃ y : List Int, Aside0 (y = [97, 98, 255]) := ⟨_, ⟨rfl⟩⟩
  obtain ⟨y2, N2⟩ : ∃ y : List Int, Aside0 (y = [97, 66]) := ⟨_, ⟨rfl⟩⟩
  obtain ⟨y3, N3⟩ : ∃ y : List Int, Aside0 (y = [65, 98]) := ⟨_, ⟨rfl⟩⟩
  obtain ⟨y4, N4⟩ : ∃ y : List Int, Aside0 (y = [97, 32, 98]) := ⟨_, ⟨rfl⟩⟩
  have Fa0 : Aside0 (impl_ASValid.f 6 y0 true = some true) := ⟨by rw [N0.out]; decide +kernel⟩
  have Fa1 : Aside0 (impl_ASValid.f 6 y1 false = some false) := ⟨by rw [N1.out]; decide +kernel⟩
  have Fa2 : Aside0 (impl_ASFold.f 6 y2 y3 false = some true) := ⟨by rw [N2.out, N3.out]; decide +kernel⟩
  have Fa3 : Aside0 (impl_ASPrint.f 6 y4 false = some true) := ⟨by rw [N4.out]; decide +kernel⟩
  go_enter Try.func21, Try.ntmps21
  go_wp2_with (first | ((with_reducible refine gate_dst (N := 1) rfl ?_); (try (refine gate_guard (by rfl) ?_; dsimp only)); refine mark_lit (xs := y0) (w0 := w) Try.underlying31 Try.underlying5 (by rw [N0.out]; simp) (by rw [N0.out]; simp) ?hg (N := 1) ?hd (by repeat (first | (with_reducible first | exact HB.out | apply below_alloc | apply pw_below_drewN | apply below_drew1) | exact HB.out)) ?hr ?_; (case hd => rfl); (case hg => rfl); (case hr => rw [N0.out]; first | (go_simp; done) | (go_simp; rfl)); intro A0 c0 w1 w0 hcv0 hC hle hb hB2; have HC0 := Aside0.mk hC; have HL0 := Aside0.mk hle; clear HB; have HB := Aside0.mk hB2; clear hB2 hb hC hle) | (go_at_call 23; (with_reducible refine (impl_ASValid.calls 6 _ _ y0 true true _ ?s0 ?s1 Fa0.out).mono ?_); (case s0 => repeat (first | exact HC0.out | (with_reducible refine Kd.C_alloc ?_ _) | (with_reducible refine Kd.C_drewN ?_ _) | (with_reducible refine Kd.C_drew ?_))); (case s1 => exact HL0.out); rintro e w' ⟨rfl, ⟨nd, rfl⟩⟩) | ((with_reducible refine gate_dst (N := 5) rfl ?_); (try (refine gate_guard (by rfl) ?_; dsimp only)); refine mark_lit (xs := y1) (w0 := w) Try.underlying31 Try.underlying5 (by rw [N1.out]; simp) (by rw [N1.out]; simp) ?hg (N := 5) ?hd (by repeat (first | (with_reducible first | exact HB.out | apply below_alloc | apply pw_below_drewN | apply below_drew1) | exact HB.out)) ?hr ?_; (case hd => rfl); (case hg => rfl); (case hr => rw [N1.out]; first | (go_simp; done) | (go_simp; rfl)); intro A1 c1 w1 w1 hcv1 hC hle hb hB2; have HC1 := Aside0.mk hC; have HL1 := Aside0.mk hle; clear HB; have HB := Aside0.mk hB2; clear hB2 hb hC hle) | (go_at_call 23; (with_reducible refine (impl_ASValid.calls 6 _ _ y1 false false _ ?s0 ?s1 Fa1.out).mono ?_); (case s0 => repeat (first | exact HC1.out | (with_reducible refine Kd.C_alloc ?_ _) | (with_reducible refine Kd.C_drewN ?_ _) | (with_reducible refine Kd.C_drew ?_))); (case s1 => exact HL1.out); rintro e w' ⟨rfl, ⟨nd, rfl⟩⟩) | ((with_reducible refine gate_dst (N := 11) rfl ?_); (try (refine gate_guard (by rfl) ?_; dsimp only)); refine mark_lit (xs := y2) (w0 := w) Try.underlying31 Try.underlying5 (by rw [N2.out]; simp) (by rw [N2.out]; simp) ?hg (N := 11) ?hd (by repeat (first | (with_reducible first | exact HB.out | apply below_alloc | apply pw_below_drewN | apply below_drew1) | exact HB.out)) ?hr ?_; (case hd => rfl); (case hg => rfl); (case hr => rw [N2.out]; first | (go_simp; done) | (go_simp; rfl)); intro A2 c2 w1 w2 hcv2 hC hle hb hB2; have HC2 := Aside0.mk hC; have HL2 := Aside0.mk hle; clear HB; have HB := Aside0.mk hB2; clear hB2 hb hC hle) | ((with_reducible refine gate_dst (N := 13) rfl ?_); (try (refine gate_guard (by rfl) ?_; dsimp only)); refine mark_lit (xs := y3) (w0 := w) Try.underlying31 Try.underlying5 (by rw [N3.out]; simp) (by rw [N3.out]; simp) ?hg (N := 13) ?hd (by repeat (first | (with_reducible first | exact HB.out | apply below_alloc | apply pw_below_drewN | apply below_drew1) | exact HB.out)) ?hr ?_; (case hd => rfl); (case hg => rfl); (case hr => rw [N3.out]; first | (go_simp; done) | (go_simp; rfl)); intro A3 c3 w1 w3 hcv3 hC hle hb hB2; have HC3 := Aside0.mk hC; have HL3 := Aside0.mk hle; have n_ := Aside0.mk (Kd.C_below HC2.out hb); clear HC2; have HC2 := n_; clear n_; clear HB; have HB := Aside0.mk hB2; clear hB2 hb hC hle) | (go_at_call 19; (with_reducible refine (impl_ASFold.calls 6 _ _ y2 _ _ y3 false true _ ?s0 ?s1 ?s2 ?s3 Fa2.out).mono ?_); (case s0 => repeat (first | exact HC2.out | (with_reducible refine Kd.C_alloc ?_ _) | (with_reducible refine Kd.C_drewN ?_ _) | (with_reducible refine Kd.C_drew ?_))); (case s1 => exact HL2.out); (case s2 => repeat (first | exact HC3.out | (with_reducible refine Kd.C_alloc ?_ _) | (with_reducible refine Kd.C_drewN ?_ _) | (with_reducible refine Kd.C_drew ?_))); (case s3 => exact HL3.out); rintro e w' ⟨rfl, ⟨nd, rfl⟩⟩) | ((with_reducible refine gate_dst (N := 18) rfl ?_); (try (refine gate_guard (by rfl) ?_; dsimp only)); refine mark_lit (xs := y4) (w0 := w) Try.underlying31 Try.underlying5 (by rw [N4.out]; simp) (by rw [N4.out]; simp) ?hg (N := 18) ?hd (by repeat (first | (with_reducible first | exact HB.out | apply below_alloc | apply pw_below_drewN | apply below_drew1) | exact HB.out)) ?hr ?_; (case hd => rfl); (case hg => rfl); (case hr => rw [N4.out]; first | (go_simp; done) | (go_simp; rfl)); intro A4 c4 w1 w4 hcv4 hC hle hb hB2; have HC4 := Aside0.mk hC; have HL4 := Aside0.mk hle; clear HB; have HB := Aside0.mk hB2; clear hB2 hb hC hle) | (go_at_call 25; (with_reducible refine (impl_ASPrint.calls 6 _ _ y4 false true _ ?s0 ?s1 Fa3.out).mono ?_); (case s0 => repeat (first | exact HC4.out | (with_reducible refine Kd.C_alloc ?_ _) | (with_reducible refine Kd.C_drewN ?_ _) | (with_reducible refine Kd.C_drew ?_))); (case s1 => exact HL4.out); rintro e w' ⟨rfl, ⟨nd, rfl⟩⟩))
  go_ret
  exact ⟨rfl, (by repeat (first | (with_reducible first | exact HB.out | apply below_alloc | apply pw_below_drewN | apply below_drew1) | exact HB.out))⟩

end Go.Proofs.Ytmhngpihkaignaa.PFnASFold
