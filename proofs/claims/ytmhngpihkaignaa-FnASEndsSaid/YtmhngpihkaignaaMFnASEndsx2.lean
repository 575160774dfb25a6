/- Written by mend.py (wip/) out of the print's text of this law: the functions of the law from 'asAwake' on, each with what it comes to; with no condition. -/
import Derived.Test.YtmhngpihkaignaaPFnASEndsx0
import Derived.Test.YtmhngpihkaignaaPFnASEndsx1
import Derived.Test.YtmhngpihkaignaaOwnMark
namespace Go.Proofs.Ytmhngpihkaignaa.PFnASEnds
open Go.Proofs.Ytmhngpihkaignaa.OwnMark Go.RowKit Go.Proofs.YtmhngpihkaignaaW.PrintWords Go.Proofs.YtmhngpihkaignaaW.PrintLast Go.Proofs.YtmhngpihkaignaaW.PrintMore
attribute [local go_sem] max2_int min2_int max_two min_two max_three min_three max_four min_four   -- for this text's walks alone
set_option linter.unusedVariables false
set_option linter.unusedSimpArgs false

/-! ### ascii_ValidPrintString_67: function 67 -/
def ascii_ValidPrintString_67.l0 : Nat → ByteArray → Int → Option (Bool)
  | 0, _, _ => none
  | k + 1, x0, x3 => if x3 < (x0.size : Int) then (if 0 ≤ x3 then ((ascii_ValidPrintByte.f (bt x0 x3)).bind fun t126 => (if t126 = true then (ascii_ValidPrintString_67.l0 k x0 (wrap64 (x3 + 1))) else (some false))) else (none)) else (some true)
def ascii_ValidPrintString_67.f (k : Nat) (a0 : ByteArray) : Option (Bool) := ascii_ValidPrintString_67.l0 k a0 0
theorem ascii_ValidPrintString_67.mono_l : ∀ k, (∀ y0 y1, LeO (ascii_ValidPrintString_67.l0 k y0 y1) (ascii_ValidPrintString_67.l0 (k + 1) y0 y1))
  | 0 => fun _ _ r h => by simp [ascii_ValidPrintString_67.l0] at h
  | k + 1 => by
    have ih0 := ascii_ValidPrintString_67.mono_l k
    · intro y0 y1
      unfold ascii_ValidPrintString_67.l0
      repeat' first
      | (with_reducible exact ih0 _ _)
      | (with_reducible exact LeO.refl _)
      | (with_reducible exact LeO.none _)
      | (with_reducible refine LeO.ite ?_ ?_)
      | (with_reducible refine LeO.bind ?_ (fun _ => ?_))
      | exact ih0 _ _
      | exact LeO.none _
      | refine LeO.ite ?_ ?_
      | refine LeO.bind ?_ (fun _ => ?_)
theorem ascii_ValidPrintString_67.mono : ∀ a0 k, LeO (ascii_ValidPrintString_67.f k a0) (ascii_ValidPrintString_67.f (k + 1) a0) := by
  intro a0 k
  have ih0 := ascii_ValidPrintString_67.mono_l k
  unfold ascii_ValidPrintString_67.f
  repeat' first
      | (with_reducible exact ih0 _ _)
      | (with_reducible exact LeO.refl _)
      | (with_reducible exact LeO.none _)
      | (with_reducible refine LeO.ite ?_ ?_)
      | (with_reducible refine LeO.bind ?_ (fun _ => ?_))
      | exact ih0 _ _
      | exact LeO.none _
      | refine LeO.ite ?_ ?_
      | refine LeO.bind ?_ (fun _ => ?_)
set_option maxHeartbeats 8000000 in
set_option maxRecDepth 100000 in
theorem ascii_ValidPrintString_67.calls (k : Nat) (a0 : ByteArray) (r : Bool) (w : World) (h : ascii_ValidPrintString_67.f k a0 = some r) :
    Calls Try.prog 67 #[.string a0] w fun e w' => e = .returned (.bool r) ∧ Drawn0 w w' := by
  have H : (ascii_ValidPrintString_67.l0 k a0 0) = some r := h
  clear h
  have H' := Aside0.mk H
  clear H
  go_enter Try.func67, Try.ntmps67
  go_wp2
  go_loopg [3] k (fun kq v3 w' => ∃ (x3_1 : Int), v3 = .int .i64 x3_1 ∧ Aside0 (ascii_ValidPrintString_67.l0 kq a0 x3_1 = some r) ∧ Aside0 (kq ≤ k) ∧ Drawn0 w w')
  case atStart => exact ⟨(0), (by first | rfl | (simp; done) | (simp [*]; done)), H', ⟨Nat.le_refl _⟩, by repeat (first | exact Drawn0.refl _ | apply Drawn0.step)⟩
  case round =>
    clear H'
    obtain ⟨x3_1, rfl, HA, HK1, ⟨m1, rfl⟩⟩ := hrel
    cases gk with
    | zero => exact absurd HA.out (by simp [ascii_ValidPrintString_67.l0])
    | succ k1 =>
      have H := HA.out
      clear HA
      simp only [ascii_ValidPrintString_67.l0] at H
      by_cases c2 : x3_1 < (a0.size : Int)
      · rw [if_pos c2] at H
        have c2b0 : decide (x3_1 < (a0.size : Int)) = true := decide_eq_true c2
        clear c2
        by_cases c3 : 0 ≤ x3_1
        · rw [if_pos c3] at H
          have c3b0 : decide (0 ≤ x3_1) = true := decide_eq_true c3
          clear c3
          replace H := Option.bind_eq_some_iff.mp H
          obtain ⟨t126, A50, H⟩ := H
          replace H : (if t126 = true then (ascii_ValidPrintString_67.l0 k1 a0 (wrap64 (x3_1 + 1))) else (some false)) = some r := H
          have A5 := Aside0.mk A50
          clear A50
          by_cases c6 : t126 = true
          · subst c6
            have H1 : (ascii_ValidPrintString_67.l0 k1 a0 (wrap64 (x3_1 + 1))) = some r := by rw [if_pos rfl] at H; exact H
            clear H
            have H := H1
            clear H1
            have H' := Aside0.mk H
            clear H
            have p4 : 0 ≤ (x3_1 : Int) := of_decide_eq_true (by first | (with_reducible assumption) | assumption)
            have q4 : x3_1 < (a0.size : Int) := of_decide_eq_true (by first | (with_reducible assumption) | assumption)
            have hx4 := bt_at a0 x3_1
            replace p4 := eq_true p4
            replace q4 := eq_true q4
            go_wp2_with (first | ((with_reducible refine gate_callee (f := 70) rfl ?_); refine goesL_ (some 13) rfl rfl Try.func70 (by kernel_rfl) rfl #[.int .u8 (bt a0 x3_1)] rfl (by (try simp only [List.map_toArray, List.map_cons, List.map_nil]); first | done | rfl | (simp only [List.length_drop, List.length_take]; rfl)) ?_; (with_reducible refine (ascii_ValidPrintByte.calls (bt a0 x3_1) true _ A5.out).mono ?_); rintro e w' ⟨rfl, ⟨nd, rfl⟩⟩; refine ⟨_, rfl, ?_⟩))
            go_roundg k1
            case measure => have := HK1.out; omega
            case rel => exact ⟨(wrap64 (x3_1 + 1)), (by first | rfl | (simp; done) | (simp [*]; done)), H', ⟨by have := HK1.out; omega⟩, by repeat (first | exact Drawn0.refl _ | apply Drawn0.step)⟩
          · replace c6 := Bool.eq_false_iff.mpr c6
            subst c6
            have H1 : (some false) = some r := by rw [if_neg (show ¬ (false = true) by decide)] at H; exact H
            clear H
            have H := H1
            clear H1
            obtain rfl := Option.some.inj H
            have p4 : 0 ≤ (x3_1 : Int) := of_decide_eq_true (by first | (with_reducible assumption) | assumption)
            have q4 : x3_1 < (a0.size : Int) := of_decide_eq_true (by first | (with_reducible assumption) | assumption)
            have hx4 := bt_at a0 x3_1
            replace p4 := eq_true p4
            replace q4 := eq_true q4
            go_wp2_with (first | ((with_reducible refine gate_callee (f := 70) rfl ?_); refine goesL_ (some 13) rfl rfl Try.func70 (by kernel_rfl) rfl #[.int .u8 (bt a0 x3_1)] rfl (by (try simp only [List.map_toArray, List.map_cons, List.map_nil]); first | done | rfl | (simp only [List.length_drop, List.length_take]; rfl)) ?_; (with_reducible refine (ascii_ValidPrintByte.calls (bt a0 x3_1) false _ A5.out).mono ?_); rintro e w' ⟨rfl, ⟨nd, rfl⟩⟩; refine ⟨_, rfl, ?_⟩))
            go_ret
            exact ⟨by first | rfl | (simp; done) | (simp [*]; done), by repeat (first | exact Drawn0.refl _ | apply Drawn0.step)⟩
        · rw [if_neg c3] at H
          exact absurd H (by simp)
      · rw [if_neg c2] at H
        have c2b0 : decide (x3_1 < (a0.size : Int)) = false := decide_eq_false c2
        clear c2
        obtain rfl := Option.some.inj H
        go_wp2
        go_ret
        exact ⟨by first | rfl | (simp; done) | (simp [*]; done), by repeat (first | exact Drawn0.refl _ | apply Drawn0.step)⟩

/-! ### ascii_ValidPrintString_47: function 47 -/
def ascii_ValidPrintString_47.f (k : Nat) (a0 : ByteArray) : Option (Bool) := (ascii_ValidPrintString_67.f k a0).bind fun t127 => (some t127)
theorem ascii_ValidPrintString_47.mono : ∀ a0 k, LeO (ascii_ValidPrintString_47.f k a0) (ascii_ValidPrintString_47.f (k + 1) a0) := by
  intro a0 k
  unfold ascii_ValidPrintString_47.f
  repeat' first
      | (with_reducible exact ascii_ValidPrintString_67.mono _ _)
      | (with_reducible exact LeO.refl _)
      | (with_reducible exact LeO.none _)
      | (with_reducible refine LeO.ite ?_ ?_)
      | (with_reducible refine LeO.bind ?_ (fun _ => ?_))
      | exact ascii_ValidPrintString_67.mono _ _
      | exact LeO.none _
      | refine LeO.ite ?_ ?_
      | refine LeO.bind ?_ (fun _ => ?_)
set_option maxHeartbeats 8000000 in
set_option maxRecDepth 100000 in
theorem ascii_ValidPrintString_47.calls (k : Nat) (a0 : ByteArray) (r : Bool) (w : World) (h : ascii_ValidPrintString_47.f k a0 = some r) :
    Calls Try.prog 47 #[.string a0] w fun e w' => e = .returned (.bool r) ∧ Drawn0 w w' := by
  have H : ((ascii_ValidPrintString_67.f k a0).bind fun t127 => (some t127)) = some r := h
  clear h
  replace H := Option.bind_eq_some_iff.mp H
  obtain ⟨t127, A20, H⟩ := H
  replace H : (some t127) = some r := H
  have A2 := Aside0.mk A20
  clear A20
  obtain rfl := Option.some.inj H
  go_enter Try.func47, Try.ntmps47
  go_wp2_with (first | ((with_reducible refine gate_callee (f := 67) rfl ?_); refine goesL_ (some 4) rfl rfl Try.func67 (by kernel_rfl) rfl #[.string a0] rfl (by (try simp only [List.map_toArray, List.map_cons, List.map_nil]); first | done | rfl | (simp only [List.length_drop, List.length_take]; rfl)) ?_; (with_reducible refine (ascii_ValidPrintString_67.calls k a0 t127 _ A2.out).mono ?_); rintro e w' ⟨rfl, ⟨nd, rfl⟩⟩; refine ⟨_, rfl, ?_⟩))
  go_ret
  exact ⟨by first | rfl | (simp; done) | (simp [*]; done), by repeat (first | exact Drawn0.refl _ | apply Drawn0.step)⟩

/-! ### ascii_ValidPrint_68: function 68 -/
def ascii_ValidPrint_68.f (k : Nat) (l0 : List Int) : Option (Bool) := (ascii_ValidPrintString_67.f k (strOfNums l0)).bind fun t128 => (some t128)
theorem ascii_ValidPrint_68.mono : ∀ a0 k, LeO (ascii_ValidPrint_68.f k a0) (ascii_ValidPrint_68.f (k + 1) a0) := by
  intro a0 k
  unfold ascii_ValidPrint_68.f
  repeat' first
      | (with_reducible exact ascii_ValidPrintString_67.mono _ _)
      | (with_reducible exact LeO.refl _)
      | (with_reducible exact LeO.none _)
      | (with_reducible refine LeO.ite ?_ ?_)
      | (with_reducible refine LeO.bind ?_ (fun _ => ?_))
      | exact ascii_ValidPrintString_67.mono _ _
      | exact LeO.none _
      | refine LeO.ite ?_ ?_
      | refine LeO.bind ?_ (fun _ => ?_)
set_option maxHeartbeats 8000000 in
set_option maxRecDepth 100000 in
theorem ascii_ValidPrint_68.calls (k : Nat) (A0 : Option Addr) (c0 : Nat) (l0 : List Int) (r : Bool) (w : World) (hr0 : Kd.C (Kd.int .u8) w A0 l0.length l0) (hc0 : l0.length ≤ c0) (h : ascii_ValidPrint_68.f k l0 = some r) :
    Calls Try.prog 68 #[.slice A0 l0.length c0] w fun e w' => e = .returned (.bool r) ∧ Drawn0 w w' := by
  have HR0 := Aside0.mk hr0
  have HC0 := Aside0.mk hc0
  clear hr0 hc0
  have H : ((ascii_ValidPrintString_67.f k (strOfNums l0)).bind fun t128 => (some t128)) = some r := h
  clear h
  replace H := Option.bind_eq_some_iff.mp H
  obtain ⟨t128, A20, H⟩ := H
  replace H : (some t128) = some r := H
  have A2 := Aside0.mk A20
  clear A20
  obtain rfl := Option.some.inj H
  have hcv3 := Kd.C_string (P := Try.prog) (A := A0) (c := c0) Try.underlying31 Try.underlying5 Try.underlying9 HR0.out
  go_enter Try.func68, Try.ntmps68
  go_wp2_with (first | ((with_reducible refine gate_callee (f := 67) rfl ?_); refine goesL_ (some 5) rfl rfl Try.func67 (by kernel_rfl) rfl #[.string (strOfNums l0)] rfl (by (try simp only [List.map_toArray, List.map_cons, List.map_nil]); first | done | rfl | (simp only [List.length_drop, List.length_take]; rfl)) ?_; (with_reducible refine (ascii_ValidPrintString_67.calls k (strOfNums l0) t128 _ A2.out).mono ?_); rintro e w' ⟨rfl, ⟨nd, rfl⟩⟩; refine ⟨_, rfl, ?_⟩))
  go_ret
  exact ⟨by first | rfl | (simp; done) | (simp [*]; done), by repeat (first | exact Drawn0.refl _ | apply Drawn0.step)⟩

/-! ### ascii_ValidPrint_48: function 48 -/
def ascii_ValidPrint_48.f (k : Nat) (l0 : List Int) : Option (Bool) := (ascii_ValidPrint_68.f k l0).bind fun t129 => (some t129)
theorem ascii_ValidPrint_48.mono : ∀ a0 k, LeO (ascii_ValidPrint_48.f k a0) (ascii_ValidPrint_48.f (k + 1) a0) := by
  intro a0 k
  unfold ascii_ValidPrint_48.f
  repeat' first
      | (with_reducible exact ascii_ValidPrint_68.mono _ _)
      | (with_reducible exact LeO.refl _)
      | (with_reducible exact LeO.none _)
      | (with_reducible refine LeO.ite ?_ ?_)
      | (with_reducible refine LeO.bind ?_ (fun _ => ?_))
      | exact ascii_ValidPrint_68.mono _ _
      | exact LeO.none _
      | refine LeO.ite ?_ ?_
      | refine LeO.bind ?_ (fun _ => ?_)
set_option maxHeartbeats 8000000 in
set_option maxRecDepth 100000 in
theorem ascii_ValidPrint_48.calls (k : Nat) (A0 : Option Addr) (c0 : Nat) (l0 : List Int) (r : Bool) (w : World) (hr0 : Kd.C (Kd.int .u8) w A0 l0.length l0) (hc0 : l0.length ≤ c0) (h : ascii_ValidPrint_48.f k l0 = some r) :
    Calls Try.prog 48 #[.slice A0 l0.length c0] w fun e w' => e = .returned (.bool r) ∧ Drawn0 w w' := by
  have HR0 := Aside0.mk hr0
  have HC0 := Aside0.mk hc0
  clear hr0 hc0
  have H : ((ascii_ValidPrint_68.f k l0).bind fun t129 => (some t129)) = some r := h
  clear h
  replace H := Option.bind_eq_some_iff.mp H
  obtain ⟨t129, A20, H⟩ := H
  replace H : (some t129) = some r := H
  have A2 := Aside0.mk A20
  clear A20
  obtain rfl := Option.some.inj H
  go_enter Try.func48, Try.ntmps48
  go_wp2_with (first | ((with_reducible refine gate_callee (f := 68) rfl ?_); refine goesL_ (some 4) rfl rfl Try.func68 (by kernel_rfl) rfl #[.slice A0 l0.length c0] rfl (by (try simp only [List.map_toArray, List.map_cons, List.map_nil]); first | done | rfl | (simp only [List.length_drop, List.length_take]; rfl)) ?_; (with_reducible refine (ascii_ValidPrint_68.calls k _ _ l0 t129 _ ?side1 ?side2 A2.out).mono ?_); (case side1 => repeat (first | exact HR0.out | (with_reducible refine Kd.C_alloc ?_ _) | (with_reducible refine Kd.C_drewN ?_ _) | (with_reducible refine Kd.C_drew ?_))); (case side2 => exact HC0.out); rintro e w' ⟨rfl, ⟨nd, rfl⟩⟩; refine ⟨_, rfl, ?_⟩))
  go_ret
  exact ⟨by first | rfl | (simp; done) | (simp [*]; done), by repeat (first | exact Drawn0.refl _ | apply Drawn0.step)⟩

/-! ### impl_ASPrint: function 25 -/
def impl_ASPrint.f (k : Nat) (l0 : List Int) (a1 : Bool) : Option (Bool) := if a1 = true then ((ascii_ValidPrintString_47.f k (strOfNums l0)).bind fun t130 => (some t130)) else ((ascii_ValidPrint_48.f k l0).bind fun t131 => (some t131))
theorem impl_ASPrint.mono : ∀ a0 a1 k, LeO (impl_ASPrint.f k a0 a1) (impl_ASPrint.f (k + 1) a0 a1) := by
  intro a0 a1 k
  unfold impl_ASPrint.f
  repeat' first
      | (with_reducible exact ascii_ValidPrintString_47.mono _ _)
      | (with_reducible exact ascii_ValidPrint_48.mono _ _)
      | (with_reducible exact LeO.refl _)
      | (with_reducible exact LeO.none _)
      | (with_reducible refine LeO.ite ?_ ?_)
      | (with_reducible refine LeO.bind ?_ (fun _ => ?_))
      | exact ascii_ValidPrintString_47.mono _ _
      | exact ascii_ValidPrint_48.mono _ _
      | exact LeO.none _
      | refine LeO.ite ?_ ?_
      | refine LeO.bind ?_ (fun _ => ?_)
set_option maxHeartbeats 8000000 in
set_option maxRecDepth 100000 in
theorem impl_ASPrint.calls (k : Nat) (A0 : Option Addr) (c0 : Nat) (l0 : List Int) (a1 : Bool) (r : Bool) (w : World) (hr0 : Kd.C (Kd.int .u8) w A0 l0.length l0) (hc0 : l0.length ≤ c0) (h : impl_ASPrint.f k l0 a1 = some r) :
    Calls Try.prog 25 #[.slice A0 l0.length c0, .bool a1] w fun e w' => e = .returned (.bool r) ∧ Drawn0 w w' := by
  have HR0 := Aside0.mk hr0
  have HC0 := Aside0.mk hc0
  clear hr0 hc0
  have H : (if a1 = true then ((ascii_ValidPrintString_47.f k (strOfNums l0)).bind fun t130 => (some t130)) else ((ascii_ValidPrint_48.f k l0).bind fun t131 => (some t131))) = some r := h
  clear h
  by_cases c3 : a1 = true
  · subst c3
    have H1 : ((ascii_ValidPrintString_47.f k (strOfNums l0)).bind fun t130 => (some t130)) = some r := by rw [if_pos rfl] at H; exact H
    clear H
    have H := H1
    clear H1
    replace H := Option.bind_eq_some_iff.mp H
    obtain ⟨t130, A40, H⟩ := H
    replace H : (some t130) = some r := H
    have A4 := Aside0.mk A40
    clear A40
    obtain rfl := Option.some.inj H
    have hcv5 := Kd.C_string (P := Try.prog) (A := A0) (c := c0) Try.underlying31 Try.underlying5 Try.underlying9 HR0.out
    go_enter Try.func25, Try.ntmps25
    go_wp2_with (first | ((with_reducible refine gate_callee (f := 47) rfl ?_); refine goesL_ (some 8) rfl rfl Try.func47 (by kernel_rfl) rfl #[.string (strOfNums l0)] rfl (by (try simp only [List.map_toArray, List.map_cons, List.map_nil]); first | done | rfl | (simp only [List.length_drop, List.length_take]; rfl)) ?_; (with_reducible refine (ascii_ValidPrintString_47.calls k (strOfNums l0) t130 _ A4.out).mono ?_); rintro e w' ⟨rfl, ⟨nd, rfl⟩⟩; refine ⟨_, rfl, ?_⟩))
    go_ret
    exact ⟨by first | rfl | (simp; done) | (simp [*]; done), by repeat (first | exact Drawn0.refl _ | apply Drawn0.step)⟩
  · replace c3 := Bool.eq_false_iff.mpr c3
    subst c3
    have H1 : ((ascii_ValidPrint_48.f k l0).bind fun t131 => (some t131)) = some r := by rw [if_neg (show ¬ (false = true) by decide)] at H; exact H
    clear H
    have H := H1
    clear H1
    replace H := Option.bind_eq_some_iff.mp H
    obtain ⟨t131, A60, H⟩ := H
    replace H : (some t131) = some r := H
    have A6 := Aside0.mk A60
    clear A60
    obtain rfl := Option.some.inj H
    go_enter Try.func25, Try.ntmps25
    go_wp2_with (first | ((with_reducible refine gate_callee (f := 48) rfl ?_); refine goesL_ (some 10) rfl rfl Try.func48 (by kernel_rfl) rfl #[.slice A0 l0.length c0] rfl (by (try simp only [List.map_toArray, List.map_cons, List.map_nil]); first | done | rfl | (simp only [List.length_drop, List.length_take]; rfl)) ?_; (with_reducible refine (ascii_ValidPrint_48.calls k _ _ l0 t131 _ ?side1 ?side2 A6.out).mono ?_); (case side1 => repeat (first | exact HR0.out | (with_reducible refine Kd.C_alloc ?_ _) | (with_reducible refine Kd.C_drewN ?_ _) | (with_reducible refine Kd.C_drew ?_))); (case side2 => exact HC0.out); rintro e w' ⟨rfl, ⟨nd, rfl⟩⟩; refine ⟨_, rfl, ?_⟩))
    go_ret
    exact ⟨by first | rfl | (simp; done) | (simp [*]; done), by repeat (first | exact Drawn0.refl _ | apply Drawn0.step)⟩

/-! ### laws_asAwake: function 21 -/
def laws_asAwake.f (k : Nat)  : Option (Bool) := (impl_ASValid.f k (([97, 98, 99] : List Int)) true).bind fun t135 => (if t135 = true then ((impl_ASValid.f k (([97, 98, 255] : List Int)) false).bind fun t139 => (if t139 = true then (some false) else ((impl_ASFold.f k (([97, 66] : List Int)) (([65, 98] : List Int)) false).bind fun t146 => (if t146 = true then ((impl_ASPrint.f k (([97, 32, 98] : List Int)) false).bind fun t150 => (some t150)) else (some false))))) else (some false))
theorem laws_asAwake.mono : ∀ k, LeO (laws_asAwake.f k ) (laws_asAwake.f (k + 1) ) := by
  intro  k
  unfold laws_asAwake.f
  repeat' first
      | (with_reducible exact impl_ASFold.mono _ _ _ _)
      | (with_reducible exact impl_ASPrint.mono _ _ _)
      | (with_reducible exact impl_ASValid.mono _ _ _)
      | (with_reducible exact LeO.refl _)
      | (with_reducible exact LeO.none _)
      | (with_reducible refine LeO.ite ?_ ?_)
      | (with_reducible refine LeO.bind ?_ (fun _ => ?_))
      | exact impl_ASFold.mono _ _ _ _
      | exact impl_ASPrint.mono _ _ _
      | exact impl_ASValid.mono _ _ _
      | exact LeO.none _
      | refine LeO.ite ?_ ?_
      | refine LeO.bind ?_ (fun _ => ?_)
theorem awake_true (k : Nat) (r : Bool) (h : laws_asAwake.f k = some r) : r = true := by
  have h6 : laws_asAwake.f 6 = some true := by decide +kernel
  have up : ∀ n, laws_asAwake.f (6 + n) = some true := by
    intro n; induction n with
    | zero => exact h6
    | succ n ih => exact laws_asAwake.mono (6 + n) _ ih
  have up2 : ∀ n, laws_asAwake.f (k + n) = some r := by
    intro n; induction n with
    | zero => exact h
    | succ n ih => exact laws_asAwake.mono (k + n) _ ih
  have e := up k; rw [Nat.add_comm, up2 6] at e; injection e
set_option maxHeartbeats 8000000 in
set_option maxRecDepth 100000 in
theorem laws_asAwake.calls (k : Nat) (r : Bool) (w : World) (h : laws_asAwake.f k = some r) :
    Calls Try.prog 21 #[] w fun e w' => e = .returned (.bool r) ∧ Below w.heap.size w w' := by
  obtain rfl := awake_true k r h
  clear h
  have HB := Aside0.mk (Below.refl w.heap.size w)
  obtain ⟨y0, N0⟩ : ∃ y : List Int, Aside0 (y = [97, 98, 99]) := ⟨_, ⟨rfl⟩⟩
  obtain ⟨y1, N1⟩ : ∃ y : List Int, Aside0 (y = [97, 98, 255]) := ⟨_, ⟨rfl⟩⟩
  obtain ⟨y2, N2⟩ : ∃ y : List Int, Aside0 (y = [97, 66]) := ⟨_, ⟨rfl⟩⟩
  obtain ⟨y3, N3⟩ : ∃ y : List Int, Aside0 (y = [65, 98]) := ⟨_, ⟨rfl⟩⟩
  obtain ⟨y4, N4⟩ : ∃ y : List Int, Aside0 (y = [97, 32, 98]) := ⟨_, ⟨rfl⟩⟩
  have Fa0 : Aside0 (impl_ASValid.f 6 y0 true = some true) := ⟨by rw [N0.out]; decide +kernel⟩
  have Fa1 : Aside0 (impl_ASValid.f 6 y1 false = some false) := ⟨by rw [N1.out]; decide +kernel⟩
  have Fa2 : Aside0 (impl_ASFold.f 6 y2 y3 false = some true) := ⟨by rw [N2.out, N3.out]; decide +kernel⟩
  have Fa3 : Aside0 (impl_ASPrint.f 6 y4 false = some true) := ⟨by rw [N4.out]; decide +kernel⟩
  go_enter Try.func21, Try.ntmps21
  go_wp2_with (first | ((with_reducible refine gate_dst (N := 1) rfl ?_); (try (refine gate_guard (by rfl) ?_; dsimp only)); refine mark_lit (xs := y0) (w0 := w) Try.underlying31 Try.underlying5 (by rw [N0.out]; simp) (by rw [N0.out]; simp) ?hg (N := 1) ?hd (by repeat (first | (with_reducible first | exact HB.out | apply below_alloc | apply pw_below_drewN | apply below_drew1) | exact HB.out)) ?hr ?_; (case hd => rfl); (case hg => rfl); (case hr => rw [N0.out]; first | (go_simp; done) | (go_simp; rfl)); intro A0 c0 w1 w0 hcv0 hC hle hb hB2; have HC0 := Aside0.mk hC; have HL0 := Aside0.mk hle; clear HB; have HB := Aside0.mk hB2; clear hB2 hb hC hle) | (go_at_call 23; (with_reducible refine (impl_ASValid.calls 6 _ _ y0 true true _ ?s0 ?s1 Fa0.out).mono ?_); (case s0 => repeat (first | exact HC0.out | (with_reducible refine Kd.C_alloc ?_ _) | (with_reducible refine Kd.C_drewN ?_ _) | (with_reducible refine Kd.C_drew ?_))); (case s1 => exact HL0.out); rintro e w' ⟨rfl, ⟨nd, rfl⟩⟩) | ((with_reducible refine gate_dst (N := 5) rfl ?_); (try (refine gate_guard (by rfl) ?_; dsimp only)); refine mark_lit (xs := y1) (w0 := w) Try.underlying31 Try.underlying5 (by rw [N1.out]; simp) (by rw [N1.out]; simp) ?hg (N := 5) ?hd (by repeat (first | (with_reducible first | exact HB.out | apply below_alloc | apply pw_below_drewN | apply below_drew1) | exact HB.out)) ?hr ?_; (case hd => rfl); (case hg => rfl); (case hr => rw [N1.out]; first | (go_simp; done) | (go_simp; rfl)); intro A1 c1 w1 w1 hcv1 hC hle hb hB2; have HC1 := Aside0.mk hC; have HL1 := Aside0.mk hle; clear HB; have HB := Aside0.mk hB2; clear hB2 hb hC hle) | (go_at_call 23; (with_reducible refine (impl_ASValid.calls 6 _ _ y1 false false _ ?s0 ?s1 Fa1.out).mono ?_); (case s0 => repeat (first | exact HC1.out | (with_reducible refine Kd.C_alloc ?_ _) | (with_reducible refine Kd.C_drewN ?_ _) | (with_reducible refine Kd.C_drew ?_))); (case s1 => exact HL1.out); rintro e w' ⟨rfl, ⟨nd, rfl⟩⟩) | ((with_reducible refine gate_dst (N := 11) rfl ?_); (try (refine gate_guard (by rfl) ?_; dsimp only)); refine mark_lit (xs := y2) (w0 := w) Try.underlying31 Try.underlying5 (by rw [N2.out]; simp) (by rw [N2.out]; simp) ?hg (N := 11) ?hd (by repeat (first | (with_reducible first | exact HB.out | apply below_alloc | apply pw_below_drewN | apply below_drew1) | exact HB.out)) ?hr ?_; (case hd => rfl); (case hg => rfl); (case hr => rw [N2.out]; first | (go_simp; done) | (go_simp; rfl)); intro A2 c2 w1 w2 hcv2 hC hle hb hB2; have HC2 := Aside0.mk hC; have HL2 := Aside0.mk hle; clear HB; have HB := Aside0.mk hB2; clear hB2 hb hC hle) | ((with_reducible refine gate_dst (N := 13) rfl ?_); (try (refine gate_guard (by rfl) ?_; dsimp only)); refine mark_lit (xs := y3) (w0 := w) Try.underlying31 Try.underlying5 (by rw [N3.out]; simp) (by rw [N3.out]; simp) ?hg (N := 13) ?hd (by repeat (first | (with_reducible first | exact HB.out | apply below_alloc | apply pw_below_drewN | apply below_drew1) | exact HB.out)) ?hr ?_; (case hd => rfl); (case hg => rfl); (case hr => rw [N3.out]; first | (go_simp; done) | (go_simp; rfl)); intro A3 c3 w1 w3 hcv3 hC hle hb hB2; have HC3 := Aside0.mk hC; have HL3 := Aside0.mk hle; have n_ := Aside0.mk (Kd.C_below HC2.out hb); clear HC2; have HC2 := n_; clear n_; clear HB; have HB := Aside0.mk hB2; clear hB2 hb hC hle) | (go_at_call 19; (with_reducible refine (impl_ASFold.calls 6 _ _ y2 _ _ y3 false true _ ?s0 ?s1 ?s2 ?s3 Fa2.out).mono ?_); (case s0 => repeat (first | exact HC2.out | (with_reducible refine Kd.C_alloc ?_ _) | (with_reducible refine Kd.C_drewN ?_ _) | (with_reducible refine Kd.C_drew ?_))); (case s1 => exact HL2.out); (case s2 => repeat (first | exact HC3.out | (with_reducible refine Kd.C_alloc ?_ _) | (with_reducible refine Kd.C_drewN ?_ _) | (with_reducible refine Kd.C_drew ?_))); (case s3 => exact HL3.out); rintro e w' ⟨rfl, ⟨nd, rfl⟩⟩) | ((with_reducible refine gate_dst (N := 18) rfl ?_); (try (refine gate_guard (by rfl) ?_; dsimp only)); refine mark_lit (xs := y4) (w0 := w) Try.underlying31 Try.underlying5 (by rw [N4.out]; simp) (by rw [N4.out]; simp) ?hg (N := 18) ?hd (by repeat (first | (with_reducible first | exact HB.out | apply below_alloc | apply pw_below_drewN | apply below_drew1) | exact HB.out)) ?hr ?_; (case hd => rfl); (case hg => rfl); (case hr => rw [N4.out]; first | (go_simp; done) | (go_simp; rfl)); intro A4 c4 w1 w4 hcv4 hC hle hb hB2; have HC4 := Aside0.mk hC; have HL4 := Aside0.mk hle; clear HB; have HB := Aside0.mk hB2; clear hB2 hb hC hle) | (go_at_call 25; (with_reducible refine (impl_ASPrint.calls 6 _ _ y4 false true _ ?s0 ?s1 Fa3.out).mono ?_); (case s0 => repeat (first | exact HC4.out | (with_reducible refine Kd.C_alloc ?_ _) | (with_reducible refine Kd.C_drewN ?_ _) | (with_reducible refine Kd.C_drew ?_))); (case s1 => exact HL4.out); rintro e w' ⟨rfl, ⟨nd, rfl⟩⟩))
  go_ret
  exact ⟨rfl, (by repeat (first | (with_reducible first | exact HB.out | apply below_alloc | apply pw_below_drewN | apply below_drew1) | exact HB.out))⟩

/-! ### ascii_HasPrefixFoldString_73: function 73 -/
def ascii_HasPrefixFoldString_73.f (k : Nat) (a0 : ByteArray) (a1 : ByteArray) : Option (Bool) := if (a0.size : Int) ≥ (a1.size : Int) then (if 0 ≤ (a1.size : Int) then (if (a1.size : Int) ≤ (a0.size : Int) then ((ascii_EqualFoldString_63.f k (a0.extract 0 ((a1.size : Int) : Int).toNat) a1).bind fun t151 => (some t151)) else (none)) else (none)) else (some false)
theorem ascii_HasPrefixFoldString_73.mono : ∀ a0 a1 k, LeO (ascii_HasPrefixFoldString_73.f k a0 a1) (ascii_HasPrefixFoldString_73.f (k + 1) a0 a1) := by
  intro a0 a1 k
  unfold ascii_HasPrefixFoldString_73.f
  repeat' first
      | (with_reducible exact ascii_EqualFoldString_63.mono _ _ _)
      | (with_reducible exact LeO.refl _)
      | (with_reducible exact LeO.none _)
      | (with_reducible refine LeO.ite ?_ ?_)
      | (with_reducible refine LeO.bind ?_ (fun _ => ?_))
      | exact ascii_EqualFoldString_63.mono _ _ _
      | exact LeO.none _
      | refine LeO.ite ?_ ?_
      | refine LeO.bind ?_ (fun _ => ?_)
set_option maxHeartbeats 8000000 in
set_option maxRecDepth 100000 in
theorem ascii_HasPrefixFoldString_73.calls (k : Nat) (a0 : ByteArray) (a1 : ByteArray) (r : Bool) (w : World) (h : ascii_HasPrefixFoldString_73.f k a0 a1 = some r) :
    Calls Try.prog 73 #[.string a0, .string a1] w fun e w' => e = .returned (.bool r) ∧ Drawn0 w w' := by
  have H : (if (a0.size : Int) ≥ (a1.size : Int) then (if 0 ≤ (a1.size : Int) then (if (a1.size : Int) ≤ (a0.size : Int) then ((ascii_EqualFoldString_63.f k (a0.extract 0 a1.size) a1).bind fun t151 => (some t151)) else (none)) else (none)) else (some false)) = some r := h
  clear h
  by_cases c3 : (a0.size : Int) ≥ (a1.size : Int)
  · rw [if_pos c3] at H
    have c3b0 : decide ((a1.size : Int) ≤ (a0.size : Int)) = true := decide_eq_true c3
    have c3b1 : decide (a1.size ≤ a0.size) = true := decide_eq_true (Int.ofNat_le.mp c3)
    clear c3
    by_cases c4 : 0 ≤ (a1.size : Int)
    · rw [if_pos c4] at H
      have c4b0 := eq_true c4
      have c4b1 : decide (0 ≤ (a1.size : Int)) = true := decide_eq_true c4
      clear c4
      by_cases c5 : (a1.size : Int) ≤ (a0.size : Int)
      · rw [if_pos c5] at H
        have c5b0 := eq_true c5
        have c5b1 : decide ((a1.size : Int) ≤ (a0.size : Int)) = true := decide_eq_true c5
        clear c5
        replace H := Option.bind_eq_some_iff.mp H
        obtain ⟨t151, A60, H⟩ := H
        replace H : (some t151) = some r := H
        have A6 := Aside0.mk A60
        clear A60
        obtain rfl := Option.some.inj H
        go_enter Try.func73, Try.ntmps73
        go_wp2_with (first | (go_at_call 63; (with_reducible refine (ascii_EqualFoldString_63.calls k (a0.extract 0 a1.size) a1 t151 _ A6.out).mono ?_); rintro e w' ⟨rfl, ⟨nd, rfl⟩⟩))
        go_ret
        exact ⟨by first | rfl | (simp; done) | (simp [*]; done), by repeat (first | exact Drawn0.refl _ | apply Drawn0.step)⟩
      · rw [if_neg c5] at H
        exact absurd H (by simp)
    · rw [if_neg c4] at H
      exact absurd H (by simp)
  · rw [if_neg c3] at H
    have c3b0 : decide ((a1.size : Int) ≤ (a0.size : Int)) = false := decide_eq_false c3
    have c3b1 : decide (a1.size ≤ a0.size) = false := decide_eq_false (fun h => c3 (Int.ofNat_le.mpr h))
    clear c3
    obtain rfl := Option.some.inj H
    go_enter Try.func73, Try.ntmps73
    go_wp2
    go_ret
    exact ⟨by first | rfl | (simp; done) | (simp [*]; done), by repeat (first | exact Drawn0.refl _ | apply Drawn0.step)⟩

/-! ### ascii_HasPrefixFoldString_53: function 53 -/
def ascii_HasPrefixFoldString_53.f (k : Nat) (a0 : ByteArray) (a1 : ByteArray) : Option (Bool) := (ascii_HasPrefixFoldString_73.f k a0 a1).bind fun t152 => (some t152)
theorem ascii_HasPrefixFoldString_53.mono : ∀ a0 a1 k, LeO (ascii_HasPrefixFoldString_53.f k a0 a1) (ascii_HasPrefixFoldString_53.f (k + 1) a0 a1) := by
  intro a0 a1 k
  unfold ascii_HasPrefixFoldString_53.f
  repeat' first
      | (with_reducible exact ascii_HasPrefixFoldString_73.mono _ _ _)
      | (with_reducible exact LeO.refl _)
      | (with_reducible exact LeO.none _)
      | (with_reducible refine LeO.ite ?_ ?_)
      | (with_reducible refine LeO.bind ?_ (fun _ => ?_))
      | exact ascii_HasPrefixFoldString_73.mono _ _ _
      | exact LeO.none _
      | refine LeO.ite ?_ ?_
      | refine LeO.bind ?_ (fun _ => ?_)
set_option maxHeartbeats 8000000 in
set_option maxRecDepth 100000 in
theorem ascii_HasPrefixFoldString_53.calls (k : Nat) (a0 : ByteArray) (a1 : ByteArray) (r : Bool) (w : World) (h : ascii_HasPrefixFoldString_53.f k a0 a1 = some r) :
    Calls Try.prog 53 #[.string a0, .string a1] w fun e w' => e = .returned (.bool r) ∧ Drawn0 w w' := by
  have H : ((ascii_HasPrefixFoldString_73.f k a0 a1).bind fun t152 => (some t152)) = some r := h
  clear h
  replace H := Option.bind_eq_some_iff.mp H
  obtain ⟨t152, A30, H⟩ := H
  replace H : (some t152) = some r := H
  have A3 := Aside0.mk A30
  clear A30
  obtain rfl := Option.some.inj H
  go_enter Try.func53, Try.ntmps53
  go_wp2_with (first | ((with_reducible refine gate_callee (f := 73) rfl ?_); refine goesL_ (some 7) rfl rfl Try.func73 (by kernel_rfl) rfl #[.string a0, .string a1] rfl (by (try simp only [List.map_toArray, List.map_cons, List.map_nil]); first | done | rfl | (simp only [List.length_drop, List.length_take]; rfl)) ?_; (with_reducible refine (ascii_HasPrefixFoldString_73.calls k a0 a1 t152 _ A3.out).mono ?_); rintro e w' ⟨rfl, ⟨nd, rfl⟩⟩; refine ⟨_, rfl, ?_⟩))
  go_ret
  exact ⟨by first | rfl | (simp; done) | (simp [*]; done), by repeat (first | exact Drawn0.refl _ | apply Drawn0.step)⟩

/-! ### ascii_HasPrefixFold_74: function 74 -/
def ascii_HasPrefixFold_74.f (k : Nat) (l0 : List Int) (l1 : List Int) : Option (Bool) := (ascii_HasPrefixFoldString_73.f k (strOfNums l0) (strOfNums l1)).bind fun t153 => (some t153)
theorem ascii_HasPrefixFold_74.mono : ∀ a0 a1 k, LeO (ascii_HasPrefixFold_74.f k a0 a1) (ascii_HasPrefixFold_74.f (k + 1) a0 a1) := by
  intro a0 a1 k
  unfold ascii_HasPrefixFold_74.f
  repeat' first
      | (with_reducible exact ascii_HasPrefixFoldString_73.mono _ _ _)
      | (with_reducible exact LeO.refl _)
      | (with_reducible exact LeO.none _)
      | (with_reducible refine LeO.ite ?_ ?_)
      | (with_reducible refine LeO.bind ?_ (fun _ => ?_))
      | exact ascii_HasPrefixFoldString_73.mono _ _ _
      | exact LeO.none _
      | refine LeO.ite ?_ ?_
      | refine LeO.bind ?_ (fun _ => ?_)
set_option maxHeartbeats 8000000 in
set_option maxRecDepth 100000 in
theorem ascii_HasPrefixFold_74.calls (k : Nat) (A0 : Option Addr) (c0 : Nat) (l0 : List Int) (A1 : Option Addr) (c1 : Nat) (l1 : List Int) (r : Bool) (w : World) (hr0 : Kd.C (Kd.int .u8) w A0 l0.length l0) (hc0 : l0.length ≤ c0) (hr1 : Kd.C (Kd.int .u8) w A1 l1.length l1) (hc1 : l1.length ≤ c1) (h : ascii_HasPrefixFold_74.f k l0 l1 = some r) :
    Calls Try.prog 74 #[.slice A0 l0.length c0, .slice A1 l1.length c1] w fun e w' => e = .returned (.bool r) ∧ Drawn0 w w' := by
  have HR0 := Aside0.mk hr0
  have HC0 := Aside0.mk hc0
  clear hr0 hc0
  have HR1 := Aside0.mk hr1
  have HC1 := Aside0.mk hc1
  clear hr1 hc1
  have H : ((ascii_HasPrefixFoldString_73.f k (strOfNums l0) (strOfNums l1)).bind fun t153 => (some t153)) = some r := h
  clear h
  replace H := Option.bind_eq_some_iff.mp H
  obtain ⟨t153, A30, H⟩ := H
  replace H : (some t153) = some r := H
  have A3 := Aside0.mk A30
  clear A30
  obtain rfl := Option.some.inj H
  have hcv4 := Kd.C_string (P := Try.prog) (A := A0) (c := c0) Try.underlying31 Try.underlying5 Try.underlying9 HR0.out
  have hcv5 := Kd.C_string (P := Try.prog) (A := A1) (c := c1) Try.underlying31 Try.underlying5 Try.underlying9 HR1.out
  go_enter Try.func74, Try.ntmps74
  go_wp2_with (first | ((with_reducible refine gate_callee (f := 73) rfl ?_); refine goesL_ (some 9) rfl rfl Try.func73 (by kernel_rfl) rfl #[.string (strOfNums l0), .string (strOfNums l1)] rfl (by (try simp only [List.map_toArray, List.map_cons, List.map_nil]); first | done | rfl | (simp only [List.length_drop, List.length_take]; rfl)) ?_; (with_reducible refine (ascii_HasPrefixFoldString_73.calls k (strOfNums l0) (strOfNums l1) t153 _ A3.out).mono ?_); rintro e w' ⟨rfl, ⟨nd, rfl⟩⟩; refine ⟨_, rfl, ?_⟩))
  go_ret
  exact ⟨by first | rfl | (simp; done) | (simp [*]; done), by repeat (first | exact Drawn0.refl _ | apply Drawn0.step)⟩

/-! ### ascii_HasPrefixFold_54: function 54 -/
def ascii_HasPrefixFold_54.f (k : Nat) (l0 : List Int) (l1 : List Int) : Option (Bool) := (ascii_HasPrefixFold_74.f k l0 l1).bind fun t154 => (some t154)
theorem ascii_HasPrefixFold_54.mono : ∀ a0 a1 k, LeO (ascii_HasPrefixFold_54.f k a0 a1) (ascii_HasPrefixFold_54.f (k + 1) a0 a1) := by
  intro a0 a1 k
  unfold ascii_HasPrefixFold_54.f
  repeat' first
      | (with_reducible exact ascii_HasPrefixFold_74.mono _ _ _)
      | (with_reducible exact LeO.refl _)
      | (with_reducible exact LeO.none _)
      | (with_reducible refine LeO.ite ?_ ?_)
      | (with_reducible refine LeO.bind ?_ (fun _ => ?_))
      | exact ascii_HasPrefixFold_74.mono _ _ _
      | exact LeO.none _
      | refine LeO.ite ?_ ?_
      | refine LeO.bind ?_ (fun _ => ?_)
set_option maxHeartbeats 8000000 in
set_option maxRecDepth 100000 in
theorem ascii_HasPrefixFold_54.calls (k : Nat) (A0 : Option Addr) (c0 : Nat) (l0 : List Int) (A1 : Option Addr) (c1 : Nat) (l1 : List Int) (r : Bool) (w : World) (hr0 : Kd.C (Kd.int .u8) w A0 l0.length l0) (hc0 : l0.length ≤ c0) (hr1 : Kd.C (Kd.int .u8) w A1 l1.length l1) (hc1 : l1.length ≤ c1) (h : ascii_HasPrefixFold_54.f k l0 l1 = some r) :
    Calls Try.prog 54 #[.slice A0 l0.length c0, .slice A1 l1.length c1] w fun e w' => e = .returned (.bool r) ∧ Drawn0 w w' := by
  have HR0 := Aside0.mk hr0
  have HC0 := Aside0.mk hc0
  clear hr0 hc0
  have HR1 := Aside0.mk hr1
  have HC1 := Aside0.mk hc1
  clear hr1 hc1
  have H : ((ascii_HasPrefixFold_74.f k l0 l1).bind fun t154 => (some t154)) = some r := h
  clear h
  replace H := Option.bind_eq_some_iff.mp H
  obtain ⟨t154, A30, H⟩ := H
  replace H : (some t154) = some r := H
  have A3 := Aside0.mk A30
  clear A30
  obtain rfl := Option.some.inj H
  go_enter Try.func54, Try.ntmps54
  go_wp2_with (first | ((with_reducible refine gate_callee (f := 74) rfl ?_); refine goesL_ (some 7) rfl rfl Try.func74 (by kernel_rfl) rfl #[.slice A0 l0.length c0, .slice A1 l1.length c1] rfl (by (try simp only [List.map_toArray, List.map_cons, List.map_nil]); first | done | rfl | (simp only [List.length_drop, List.length_take]; rfl)) ?_; (with_reducible refine (ascii_HasPrefixFold_74.calls k _ _ l0 _ _ l1 t154 _ ?side1 ?side2 ?side3 ?side4 A3.out).mono ?_); (case side1 => repeat (first | exact HR0.out | (with_reducible refine Kd.C_alloc ?_ _) | (with_reducible refine Kd.C_drewN ?_ _) | (with_reducible refine Kd.C_drew ?_))); (case side2 => exact HC0.out); (case side3 => repeat (first | exact HR1.out | (with_reducible refine Kd.C_alloc ?_ _) | (with_reducible refine Kd.C_drewN ?_ _) | (with_reducible refine Kd.C_drew ?_))); (case side4 => exact HC1.out); rintro e w' ⟨rfl, ⟨nd, rfl⟩⟩; refine ⟨_, rfl, ?_⟩))
  go_ret
  exact ⟨by first | rfl | (simp; done) | (simp [*]; done), by repeat (first | exact Drawn0.refl _ | apply Drawn0.step)⟩

/-! ### impl_ASPrefix: function 29 -/
def impl_ASPrefix.f (k : Nat) (l0 : List Int) (l1 : List Int) (a2 : Bool) : Option (Bool) := if a2 = true then ((ascii_HasPrefixFoldString_53.f k (strOfNums l0) (strOfNums l1)).bind fun t155 => (some t155)) else ((ascii_HasPrefixFold_54.f k l0 l1).bind fun t156 => (some t156))
theorem impl_ASPrefix.mono : ∀ a0 a1 a2 k, LeO (impl_ASPrefix.f k a0 a1 a2) (impl_ASPrefix.f (k + 1) a0 a1 a2) := by
  intro a0 a1 a2 k
  unfold impl_ASPrefix.f
  repeat' first
      | (with_reducible exact ascii_HasPrefixFoldString_53.mono _ _ _)
      | (with_reducible exact ascii_HasPrefixFold_54.mono _ _ _)
      | (with_reducible exact LeO.refl _)
      | (with_reducible exact LeO.none _)
      | (with_reducible refine LeO.ite ?_ ?_)
      | (with_reducible refine LeO.bind ?_ (fun _ => ?_))
      | exact ascii_HasPrefixFoldString_53.mono _ _ _
      | exact ascii_HasPrefixFold_54.mono _ _ _
      | exact LeO.none _
      | refine LeO.ite ?_ ?_
      | refine LeO.bind ?_ (fun _ => ?_)
set_option maxHeartbeats 8000000 in
set_option maxRecDepth 100000 in
theorem impl_ASPrefix.calls (k : Nat) (A0 : Option Addr) (c0 : Nat) (l0 : List Int) (A1 : Option Addr) (c1 : Nat) (l1 : List Int) (a2 : Bool) (r : Bool) (w : World) (hr0 : Kd.C (Kd.int .u8) w A0 l0.length l0) (hc0 : l0.length ≤ c0) (hr1 : Kd.C (Kd.int .u8) w A1 l1.length l1) (hc1 : l1.length ≤ c1) (h : impl_ASPrefix.f k l0 l1 a2 = some r) :
    Calls Try.prog 29 #[.slice A0 l0.length c0, .slice A1 l1.length c1, .bool a2] w fun e w' => e = .returned (.bool r) ∧ Drawn0 w w' := by
  have HR0 := Aside0.mk hr0
  have HC0 := Aside0.mk hc0
  clear hr0 hc0
  have HR1 := Aside0.mk hr1
  have HC1 := Aside0.mk hc1
  clear hr1 hc1
  have H : (if a2 = true then ((ascii_HasPrefixFoldString_53.f k (strOfNums l0) (strOfNums l1)).bind fun t155 => (some t155)) else ((ascii_HasPrefixFold_54.f k l0 l1).bind fun t156 => (some t156))) = some r := h
  clear h
  by_cases c4 : a2 = true
  · subst c4
    have H1 : ((ascii_HasPrefixFoldString_53.f k (strOfNums l0) (strOfNums l1)).bind fun t155 => (some t155)) = some r := by rw [if_pos rfl] at H; exact H
    clear H
    have H := H1
    clear H1
    replace H := Option.bind_eq_some_iff.mp H
    obtain ⟨t155, A50, H⟩ := H
    replace H : (some t155) = some r := H
    have A5 := Aside0.mk A50
    clear A50
    obtain rfl := Option.some.inj H
    have hcv6 := Kd.C_string (P := Try.prog) (A := A0) (c := c0) Try.underlying31 Try.underlying5 Try.underlying9 HR0.out
    have hcv7 := Kd.C_string (P := Try.prog) (A := A1) (c := c1) Try.underlying31 Try.underlying5 Try.underlying9 HR1.out
    go_enter Try.func29, Try.ntmps29
    go_wp2_with (first | ((with_reducible refine gate_callee (f := 53) rfl ?_); refine goesL_ (some 12) rfl rfl Try.func53 (by kernel_rfl) rfl #[.string (strOfNums l0), .string (strOfNums l1)] rfl (by (try simp only [List.map_toArray, List.map_cons, List.map_nil]); first | done | rfl | (simp only [List.length_drop, List.length_take]; rfl)) ?_; (with_reducible refine (ascii_HasPrefixFoldString_53.calls k (strOfNums l0) (strOfNums l1) t155 _ A5.out).mono ?_); rintro e w' ⟨rfl, ⟨nd, rfl⟩⟩; refine ⟨_, rfl, ?_⟩))
    go_ret
    exact ⟨by first | rfl | (simp; done) | (simp [*]; done), by repeat (first | exact Drawn0.refl _ | apply Drawn0.step)⟩
  · replace c4 := Bool.eq_false_iff.mpr c4
    subst c4
    have H1 : ((ascii_HasPrefixFold_54.f k l0 l1).bind fun t156 => (some t156)) = some r := by rw [if_neg (show ¬ (false = true) by decide)] at H; exact H
    clear H
    have H := H1
    clear H1
    replace H := Option.bind_eq_some_iff.mp H
    obtain ⟨t156, A80, H⟩ := H
    replace H : (some t156) = some r := H
    have A8 := Aside0.mk A80
    clear A80
    obtain rfl := Option.some.inj H
    go_enter Try.func29, Try.ntmps29
    go_wp2_with (first | ((with_reducible refine gate_callee (f := 54) rfl ?_); refine goesL_ (some 15) rfl rfl Try.func54 (by kernel_rfl) rfl #[.slice A0 l0.length c0, .slice A1 l1.length c1] rfl (by (try simp only [List.map_toArray, List.map_cons, List.map_nil]); first | done | rfl | (simp only [List.length_drop, List.length_take]; rfl)) ?_; (with_reducible refine (ascii_HasPrefixFold_54.calls k _ _ l0 _ _ l1 t156 _ ?side1 ?side2 ?side3 ?side4 A8.out).mono ?_); (case side1 => repeat (first | exact HR0.out | (with_reducible refine Kd.C_alloc ?_ _) | (with_reducible refine Kd.C_drewN ?_ _) | (with_reducible refine Kd.C_drew ?_))); (case side2 => exact HC0.out); (case side3 => repeat (first | exact HR1.out | (with_reducible refine Kd.C_alloc ?_ _) | (with_reducible refine Kd.C_drewN ?_ _) | (with_reducible refine Kd.C_drew ?_))); (case side4 => exact HC1.out); rintro e w' ⟨rfl, ⟨nd, rfl⟩⟩; refine ⟨_, rfl, ?_⟩))
    go_ret
    exact ⟨by first | rfl | (simp; done) | (simp [*]; done), by repeat (first | exact Drawn0.refl _ | apply Drawn0.step)⟩

/-! ### spec_ASLower: function 44 -/
def spec_ASLower.f (a0 : Int) : Option (Int) := if a0 ≥ 65 then (if a0 ≤ 90 then (some ((a0 + 32) % 256)) else (some a0)) else (some a0)
set_option maxHeartbeats 8000000 in
set_option maxRecDepth 100000 in
theorem spec_ASLower.calls (a0 : Int) (r : Int) (w : World) (h : spec_ASLower.f a0 = some r) :
    Calls Try.prog 44 #[.int .u8 a0] w fun e w' => e = .returned (.int .u8 r) ∧ Drawn0 w w' := by
  have H : (if a0 ≥ 65 then (if a0 ≤ 90 then (some ((a0 + 32) % 256)) else (some a0)) else (some a0)) = some r := h
  clear h
  by_cases c2 : a0 ≥ 65
  · rw [if_pos c2] at H
    have c2b0 : decide (65 ≤ a0) = true := decide_eq_true c2
    clear c2
    by_cases c3 : a0 ≤ 90
    · rw [if_pos c3] at H
      have c3b0 : decide (a0 ≤ 90) = true := decide_eq_true c3
      clear c3
      obtain rfl := Option.some.inj H
      go_enter Try.func44, Try.ntmps44
      go_wp2
      go_ret
      exact ⟨by first | rfl | (simp; done) | (simp [*]; done), by repeat (first | exact Drawn0.refl _ | apply Drawn0.step)⟩
    · rw [if_neg c3] at H
      have c3b0 : decide (a0 ≤ 90) = false := decide_eq_false c3
      clear c3
      obtain rfl := Option.some.inj H
      go_enter Try.func44, Try.ntmps44
      go_wp2
      go_ret
      exact ⟨by first | rfl | (simp; done) | (simp [*]; done), by repeat (first | exact Drawn0.refl _ | apply Drawn0.step)⟩
  · rw [if_neg c2] at H
    have c2b0 : decide (65 ≤ a0) = false := decide_eq_false c2
    clear c2
    obtain rfl := Option.some.inj H
    go_enter Try.func44, Try.ntmps44
    go_wp2
    go_ret
    exact ⟨by first | rfl | (simp; done) | (simp [*]; done), by repeat (first | exact Drawn0.refl _ | apply Drawn0.step)⟩

/-! ### spec_ASFold: function 20 -/
def spec_ASFold.l0 : Nat → List Int → List Int → Int → Option (Bool)
  | 0, _, _, _ => none
  | k + 1, x0, x1, x5 => if x5 < (x0.length : Int) then (if 0 ≤ x5 then ((spec_ASLower.f (rd x0 x5)).bind fun t158 => (if x5 < (x1.length : Int) then ((spec_ASLower.f (rd x1 x5)).bind fun t160 => (if t158 = t160 then (spec_ASFold.l0 k x0 x1 (wrap64 (x5 + 1))) else (some false))) else (none))) else (none)) else (some true)
def spec_ASFold.f (k : Nat) (l0 : List Int) (l1 : List Int) : Option (Bool) := if (l0.length : Int) = (l1.length : Int) then (spec_ASFold.l0 k l0 l1 0) else (some false)
theorem spec_ASFold.mono_l : ∀ k, (∀ y0 y1 y2, LeO (spec_ASFold.l0 k y0 y1 y2) (spec_ASFold.l0 (k + 1) y0 y1 y2))
  | 0 => fun _ _ _ r h => by simp [spec_ASFold.l0] at h
  | k + 1 => by
    have ih0 := spec_ASFold.mono_l k
    · intro y0 y1 y2
      unfold spec_ASFold.l0
      repeat' first
      | (with_reducible exact ih0 _ _ _)
      | (with_reducible exact LeO.refl _)
      | (with_reducible exact LeO.none _)
      | (with_reducible refine LeO.ite ?_ ?_)
      | (with_reducible refine LeO.bind ?_ (fun _ => ?_))
      | exact ih0 _ _ _
      | exact LeO.none _
      | refine LeO.ite ?_ ?_
      | refine LeO.bind ?_ (fun _ => ?_)
theorem spec_ASFold.mono : ∀ a0 a1 k, LeO (spec_ASFold.f k a0 a1) (spec_ASFold.f (k + 1) a0 a1) := by
  intro a0 a1 k
  have ih0 := spec_ASFold.mono_l k
  unfold spec_ASFold.f
  repeat' first
      | (with_reducible exact ih0 _ _ _)
      | (with_reducible exact LeO.refl _)
      | (with_reducible exact LeO.none _)
      | (with_reducible refine LeO.ite ?_ ?_)
      | (with_reducible refine LeO.bind ?_ (fun _ => ?_))
      | exact ih0 _ _ _
      | exact LeO.none _
      | refine LeO.ite ?_ ?_
      | refine LeO.bind ?_ (fun _ => ?_)
set_option maxHeartbeats 8000000 in
set_option maxRecDepth 100000 in
theorem spec_ASFold.calls (k : Nat) (A0 : Option Addr) (c0 : Nat) (l0 : List Int) (A1 : Option Addr) (c1 : Nat) (l1 : List Int) (r : Bool) (w : World) (hr0 : Kd.C (Kd.int .u8) w A0 l0.length l0) (hc0 : l0.length ≤ c0) (hr1 : Kd.C (Kd.int .u8) w A1 l1.length l1) (hc1 : l1.length ≤ c1) (h : spec_ASFold.f k l0 l1 = some r) :
    Calls Try.prog 20 #[.slice A0 l0.length c0, .slice A1 l1.length c1] w fun e w' => e = .returned (.bool r) ∧ Drawn0 w w' := by
  have HR0 := Aside0.mk hr0
  have HC0 := Aside0.mk hc0
  clear hr0 hc0
  have HR1 := Aside0.mk hr1
  have HC1 := Aside0.mk hc1
  clear hr1 hc1
  have H : (if (l0.length : Int) = (l1.length : Int) then (spec_ASFold.l0 k l0 l1 0) else (some false)) = some r := h
  clear h
  by_cases c3 : (l0.length : Int) = (l1.length : Int)
  · rw [if_pos c3] at H
    have c3b0 : ((l0.length : Int) == (l1.length : Int)) = true := beq_iff_eq.mpr c3
    have c3b1 : ((l0.length : Int) != (l1.length : Int)) = false := bne_eq_false_iff_eq.mpr c3
    have c3b2 : (l0.length == l1.length) = true := by first | simpa using c3 | (simp at c3 ⊢; omega)
    clear c3
    have H' := Aside0.mk H
    clear H
    go_enter Try.func20, Try.ntmps20
    go_wp2
    repeat (go_quiet (fail); try go_wp2)
    go_loopg [5] k (fun kq v5 w' => ∃ (x5_1 : Int), v5 = .int .i64 x5_1 ∧ Aside0 (spec_ASFold.l0 kq l0 l1 x5_1 = some r) ∧ Aside0 (kq ≤ k) ∧ Drawn0 w w')
    case atStart => exact ⟨(0), (by first | rfl | (simp; done) | (simp [*]; done)), H', ⟨Nat.le_refl _⟩, by repeat (first | exact Drawn0.refl _ | apply Drawn0.step)⟩
    case round =>
      clear H'
      try clear c1
      try clear c2
      try clear p2
      try clear c3
      try clear c3b0
      try clear c3b1
      try clear c3b2
      obtain ⟨x5_1, rfl, HA, HK1, ⟨m1, rfl⟩⟩ := hrel
      cases gk with
      | zero => exact absurd HA.out (by simp [spec_ASFold.l0])
      | succ k1 =>
        have H := HA.out
        clear HA
        simp only [spec_ASFold.l0] at H
        by_cases c4 : x5_1 < (l0.length : Int)
        · rw [if_pos c4] at H
          have c4b0 : decide (x5_1 < (l0.length : Int)) = true := decide_eq_true c4
          clear c4
          by_cases c5 : 0 ≤ x5_1
          · rw [if_pos c5] at H
            have c5b0 : decide (0 ≤ x5_1) = true := decide_eq_true c5
            clear c5
            replace H := Option.bind_eq_some_iff.mp H
            obtain ⟨t158, A60, H⟩ := H
            replace H : (if x5_1 < (l1.length : Int) then ((spec_ASLower.f (rd l1 x5_1)).bind fun t160 => (if t158 = t160 then (spec_ASFold.l0 k1 l0 l1 (wrap64 (x5_1 + 1))) else (some false))) else (none)) = some r := H
            have A6 := Aside0.mk A60
            clear A60
            by_cases c7 : x5_1 < (l1.length : Int)
            · rw [if_pos c7] at H
              have c7b0 : decide (x5_1 < (l1.length : Int)) = true := decide_eq_true c7
              clear c7
              replace H := Option.bind_eq_some_iff.mp H
              obtain ⟨t160, A80, H⟩ := H
              replace H : (if t158 = t160 then (spec_ASFold.l0 k1 l0 l1 (wrap64 (x5_1 + 1))) else (some false)) = some r := H
              have A8 := Aside0.mk A80
              clear A80
              by_cases c9 : t158 = t160
              · rw [if_pos c9] at H
                have c9b0 : (t158 == t160) = true := beq_iff_eq.mpr c9
                have c9b1 : (t158 != t160) = false := bne_eq_false_iff_eq.mpr c9
                clear c9
                have H' := Aside0.mk H
                clear H
                have p157 : 0 ≤ (x5_1 : Int) := of_decide_eq_true (by first | (with_reducible assumption) | assumption)
                have q157 : x5_1 < (l0.length : Int) := of_decide_eq_true (by first | (with_reducible assumption) | assumption)
                obtain ⟨ad157, e157, hx157_0⟩ := Kd.at_int HR0.out x5_1 p157 q157
                cases e157
                replace p157 := eq_true p157
                replace q157 := eq_true q157
                go_wp2_with (first | (go_at_call 44; (with_reducible refine (spec_ASLower.calls (rd l0 x5_1) t158 _ A6.out).mono ?_); rintro e w' ⟨rfl, ⟨nd, rfl⟩⟩; (try first | exact ⟨rfl, _, World.drewN_drewN _ _ _⟩ | exact ⟨rfl, _, Eq.trans (World.drewN_drewN _ _ _) (congrArg (World.drewN _) (Nat.add_assoc _ _ _))⟩); have p159 : 0 ≤ (x5_1 : Int) := of_decide_eq_true (by first | (with_reducible assumption) | assumption); have q159 : x5_1 < (l1.length : Int) := of_decide_eq_true (by first | (with_reducible assumption) | assumption); obtain ⟨ad159, e159, hx159_0⟩ := Kd.at_int HR1.out x5_1 p159 q159; cases e159; replace p159 := eq_true p159; replace q159 := eq_true q159) | (go_at_call 44; (with_reducible refine (spec_ASLower.calls (rd l1 x5_1) t160 _ A8.out).mono ?_); rintro e w' ⟨rfl, ⟨nd, rfl⟩⟩; (try first | exact ⟨rfl, _, World.drewN_drewN _ _ _⟩ | exact ⟨rfl, _, Eq.trans (World.drewN_drewN _ _ _) (congrArg (World.drewN _) (Nat.add_assoc _ _ _))⟩)))
                repeat (go_quiet (first | (go_at_call 44; (with_reducible refine (spec_ASLower.calls (rd l0 x5_1) t158 _ A6.out).mono ?_); rintro e w' ⟨rfl, ⟨nd, rfl⟩⟩; (try first | exact ⟨rfl, _, World.drewN_drewN _ _ _⟩ | exact ⟨rfl, _, Eq.trans (World.drewN_drewN _ _ _) (congrArg (World.drewN _) (Nat.add_assoc _ _ _))⟩); have p159 : 0 ≤ (x5_1 : Int) := of_decide_eq_true (by first | (with_reducible assumption) | assumption); have q159 : x5_1 < (l1.length : Int) := of_decide_eq_true (by first | (with_reducible assumption) | assumption); obtain ⟨ad159, e159, hx159_0⟩ := Kd.at_int HR1.out x5_1 p159 q159; cases e159; replace p159 := eq_true p159; replace q159 := eq_true q159) | (go_at_call 44; (with_reducible refine (spec_ASLower.calls (rd l1 x5_1) t160 _ A8.out).mono ?_); rintro e w' ⟨rfl, ⟨nd, rfl⟩⟩; (try first | exact ⟨rfl, _, World.drewN_drewN _ _ _⟩ | exact ⟨rfl, _, Eq.trans (World.drewN_drewN _ _ _) (congrArg (World.drewN _) (Nat.add_assoc _ _ _))⟩))); try go_wp2_with (first | (go_at_call 44; (with_reducible refine (spec_ASLower.calls (rd l0 x5_1) t158 _ A6.out).mono ?_); rintro e w' ⟨rfl, ⟨nd, rfl⟩⟩; (try first | exact ⟨rfl, _, World.drewN_drewN _ _ _⟩ | exact ⟨rfl, _, Eq.trans (World.drewN_drewN _ _ _) (congrArg (World.drewN _) (Nat.add_assoc _ _ _))⟩); have p159 : 0 ≤ (x5_1 : Int) := of_decide_eq_true (by first | (with_reducible assumption) | assumption); have q159 : x5_1 < (l1.length : Int) := of_decide_eq_true (by first | (with_reducible assumption) | assumption); obtain ⟨ad159, e159, hx159_0⟩ := Kd.at_int HR1.out x5_1 p159 q159; cases e159; replace p159 := eq_true p159; replace q159 := eq_true q159) | (go_at_call 44; (with_reducible refine (spec_ASLower.calls (rd l1 x5_1) t160 _ A8.out).mono ?_); rintro e w' ⟨rfl, ⟨nd, rfl⟩⟩; (try first | exact ⟨rfl, _, World.drewN_drewN _ _ _⟩ | exact ⟨rfl, _, Eq.trans (World.drewN_drewN _ _ _) (congrArg (World.drewN _) (Nat.add_assoc _ _ _))⟩))))
                go_roundg k1
                case measure => have := HK1.out; omega
                case rel => exact ⟨(wrap64 (x5_1 + 1)), (by first | rfl | (simp; done) | (simp [*]; done)), H', ⟨by have := HK1.out; omega⟩, by repeat (first | exact Drawn0.refl _ | apply Drawn0.step)⟩
              · rw [if_neg c9] at H
                have c9b0 : (t158 == t160) = false := beq_eq_false_iff_ne.mpr c9
                have c9b1 : (t158 != t160) = true := bne_iff_ne.mpr c9
                obtain rfl := Option.some.inj H
                have p157 : 0 ≤ (x5_1 : Int) := of_decide_eq_true (by first | (with_reducible assumption) | assumption)
                have q157 : x5_1 < (l0.length : Int) := of_decide_eq_true (by first | (with_reducible assumption) | assumption)
                obtain ⟨ad157, e157, hx157_0⟩ := Kd.at_int HR0.out x5_1 p157 q157
                cases e157
                replace p157 := eq_true p157
                replace q157 := eq_true q157
                go_wp2_with (first | (go_at_call 44; (with_reducible refine (spec_ASLower.calls (rd l0 x5_1) t158 _ A6.out).mono ?_); rintro e w' ⟨rfl, ⟨nd, rfl⟩⟩; (try first | exact ⟨rfl, _, World.drewN_drewN _ _ _⟩ | exact ⟨rfl, _, Eq.trans (World.drewN_drewN _ _ _) (congrArg (World.drewN _) (Nat.add_assoc _ _ _))⟩); have p159 : 0 ≤ (x5_1 : Int) := of_decide_eq_true (by first | (with_reducible assumption) | assumption); have q159 : x5_1 < (l1.length : Int) := of_decide_eq_true (by first | (with_reducible assumption) | assumption); obtain ⟨ad159, e159, hx159_0⟩ := Kd.at_int HR1.out x5_1 p159 q159; cases e159; replace p159 := eq_true p159; replace q159 := eq_true q159) | (go_at_call 44; (with_reducible refine (spec_ASLower.calls (rd l1 x5_1) t160 _ A8.out).mono ?_); rintro e w' ⟨rfl, ⟨nd, rfl⟩⟩; (try first | exact ⟨rfl, _, World.drewN_drewN _ _ _⟩ | exact ⟨rfl, _, Eq.trans (World.drewN_drewN _ _ _) (congrArg (World.drewN _) (Nat.add_assoc _ _ _))⟩)))
                repeat (go_quiet (first | (go_at_call 44; (with_reducible refine (spec_ASLower.calls (rd l0 x5_1) t158 _ A6.out).mono ?_); rintro e w' ⟨rfl, ⟨nd, rfl⟩⟩; (try first | exact ⟨rfl, _, World.drewN_drewN _ _ _⟩ | exact ⟨rfl, _, Eq.trans (World.drewN_drewN _ _ _) (congrArg (World.drewN _) (Nat.add_assoc _ _ _))⟩); have p159 : 0 ≤ (x5_1 : Int) := of_decide_eq_true (by first | (with_reducible assumption) | assumption); have q159 : x5_1 < (l1.length : Int) := of_decide_eq_true (by first | (with_reducible assumption) | assumption); obtain ⟨ad159, e159, hx159_0⟩ := Kd.at_int HR1.out x5_1 p159 q159; cases e159; replace p159 := eq_true p159; replace q159 := eq_true q159) | (go_at_call 44; (with_reducible refine (spec_ASLower.calls (rd l1 x5_1) t160 _ A8.out).mono ?_); rintro e w' ⟨rfl, ⟨nd, rfl⟩⟩; (try first | exact ⟨rfl, _, World.drewN_drewN _ _ _⟩ | exact ⟨rfl, _, Eq.trans (World.drewN_drewN _ _ _) (congrArg (World.drewN _) (Nat.add_assoc _ _ _))⟩))); try go_wp2_with (first | (go_at_call 44; (with_reducible refine (spec_ASLower.calls (rd l0 x5_1) t158 _ A6.out).mono ?_); rintro e w' ⟨rfl, ⟨nd, rfl⟩⟩; (try first | exact ⟨rfl, _, World.drewN_drewN _ _ _⟩ | exact ⟨rfl, _, Eq.trans (World.drewN_drewN _ _ _) (congrArg (World.drewN _) (Nat.add_assoc _ _ _))⟩); have p159 : 0 ≤ (x5_1 : Int) := of_decide_eq_true (by first | (with_reducible assumption) | assumption); have q159 : x5_1 < (l1.length : Int) := of_decide_eq_true (by first | (with_reducible assumption) | assumption); obtain ⟨ad159, e159, hx159_0⟩ := Kd.at_int HR1.out x5_1 p159 q159; cases e159; replace p159 := eq_true p159; replace q159 := eq_true q159) | (go_at_call 44; (with_reducible refine (spec_ASLower.calls (rd l1 x5_1) t160 _ A8.out).mono ?_); rintro e w' ⟨rfl, ⟨nd, rfl⟩⟩; (try first | exact ⟨rfl, _, World.drewN_drewN _ _ _⟩ | exact ⟨rfl, _, Eq.trans (World.drewN_drewN _ _ _) (congrArg (World.drewN _) (Nat.add_assoc _ _ _))⟩))))
                go_ret
                exact ⟨by first | rfl | (simp; done) | (simp [*]; done), by repeat (first | exact Drawn0.refl _ | apply Drawn0.step)⟩
            · rw [if_neg c7] at H
              exact absurd H (by simp)
          · rw [if_neg c5] at H
            exact absurd H (by simp)
        · rw [if_neg c4] at H
          have c4b0 : decide (x5_1 < (l0.length : Int)) = false := decide_eq_false c4
          clear c4
          obtain rfl := Option.some.inj H
          go_wp2
          repeat (go_quiet (fail); try go_wp2)
          go_ret
          exact ⟨by first | rfl | (simp; done) | (simp [*]; done), by repeat (first | exact Drawn0.refl _ | apply Drawn0.step)⟩
  · rw [if_neg c3] at H
    have c3b0 : ((l0.length : Int) == (l1.length : Int)) = false := beq_eq_false_iff_ne.mpr c3
    have c3b1 : ((l0.length : Int) != (l1.length : Int)) = true := bne_iff_ne.mpr c3
    have c3b2 : (l0.length == l1.length) = false := by first | simpa using c3 | (simp at c3 ⊢; omega)
    obtain rfl := Option.some.inj H
    go_enter Try.func20, Try.ntmps20
    go_wp2
    repeat (go_quiet (fail); try go_wp2)
    go_ret
    exact ⟨by first | rfl | (simp; done) | (simp [*]; done), by repeat (first | exact Drawn0.refl _ | apply Drawn0.step)⟩

/-! ### spec_ASPrefix: function 30 -/
def spec_ASPrefix.f (k : Nat) (l0 : List Int) (l1 : List Int) : Option (Bool) := if (l1.length : Int) ≤ (l0.length : Int) then (if 0 ≤ (l1.length : Int) then ((spec_ASFold.f k (l0.take ((l1.length : Int) : Int).toNat) l1).bind fun t162 => (some t162)) else (none)) else (some false)
theorem spec_ASPrefix.mono : ∀ a0 a1 k, LeO (spec_ASPrefix.f k a0 a1) (spec_ASPrefix.f (k + 1) a0 a1) := by
  intro a0 a1 k
  unfold spec_ASPrefix.f
  repeat' first
      | (with_reducible exact spec_ASFold.mono _ _ _)
      | (with_reducible exact LeO.refl _)
      | (with_reducible exact LeO.none _)
      | (with_reducible refine LeO.ite ?_ ?_)
      | (with_reducible refine LeO.bind ?_ (fun _ => ?_))
      | exact spec_ASFold.mono _ _ _
      | exact LeO.none _
      | refine LeO.ite ?_ ?_
      | refine LeO.bind ?_ (fun _ => ?_)
set_option maxHeartbeats 8000000 in
set_option maxRecDepth 100000 in
theorem spec_ASPrefix.calls (k : Nat) (A0 : Option Addr) (c0 : Nat) (l0 : List Int) (A1 : Option Addr) (c1 : Nat) (l1 : List Int) (r : Bool) (w : World) (hr0 : Kd.C (Kd.int .u8) w A0 l0.length l0) (hc0 : l0.length ≤ c0) (hr1 : Kd.C (Kd.int .u8) w A1 l1.length l1) (hc1 : l1.length ≤ c1) (h : spec_ASPrefix.f k l0 l1 = some r) :
    Calls Try.prog 30 #[.slice A0 l0.length c0, .slice A1 l1.length c1] w fun e w' => e = .returned (.bool r) ∧ Drawn0 w w' := by
  have HR0 := Aside0.mk hr0
  have HC0 := Aside0.mk hc0
  clear hr0 hc0
  have HR1 := Aside0.mk hr1
  have HC1 := Aside0.mk hc1
  clear hr1 hc1
  have H : (if (l1.length : Int) ≤ (l0.length : Int) then (if 0 ≤ (l1.length : Int) then ((spec_ASFold.f k (l0.take ((l1.length : Int) : Int).toNat) l1).bind fun t162 => (some t162)) else (none)) else (some false)) = some r := h
  clear h
  by_cases c3 : (l1.length : Int) ≤ (l0.length : Int)
  · rw [if_pos c3] at H
    have c3b0 : decide ((l1.length : Int) ≤ (l0.length : Int)) = true := decide_eq_true c3
    have c3b1 : decide (l1.length ≤ l0.length) = true := decide_eq_true (Int.ofNat_le.mp c3)
    clear c3
    by_cases c4 : 0 ≤ (l1.length : Int)
    · rw [if_pos c4] at H
      have c4b0 := eq_true c4
      have c4b1 : decide (0 ≤ (l1.length : Int)) = true := decide_eq_true c4
      clear c4
      have c5b0 := eq_true (of_decide_eq_true (by first | (with_reducible assumption) | assumption) : (l1.length : Int) ≤ (l0.length : Int))
      replace H := Option.bind_eq_some_iff.mp H
      obtain ⟨t162, A60, H⟩ := H
      replace H : (some t162) = some r := H
      have A6 := Aside0.mk A60
      clear A60
      obtain rfl := Option.some.inj H
      obtain ⟨i07, hi07, _, hsz7, _⟩ := info_parts info5
      obtain ⟨hcut7, hA7, hC7⟩ := print_take_of (P := Try.prog) (Value.int .u8) 0 31 5 .i64 Try.underlying31 hi07 hsz7 A0 c0 l0 (l1.length : Int) (of_decide_eq_true (by first | (with_reducible assumption) | assumption)) (of_decide_eq_true (by first | (with_reducible assumption) | assumption)) HC0.out
      have HR161 := Aside0.mk (Kd.C_of_reads (h1 := fun _ => rfl) (hA7 _ (Kd.reads_of_C HR0.out)))
      have HC161 := Aside0.mk hC7
      clear hA7 hC7 hi07 hsz7
      obtain ⟨yy, Nyy⟩ : ∃ yy : List Int, (l0.take ((l1.length : Int) : Int).toNat) = yy := ⟨_, rfl⟩
      rw [Nyy] at hcut7 HR161 HC161 A6
      clear Nyy
      go_enter Try.func30, Try.ntmps30
      go_wp2_with (first | (go_at_call 20; (with_reducible refine (spec_ASFold.calls k _ _ yy _ _ l1 t162 _ ?side1 ?side2 ?side3 ?side4 A6.out).mono ?_); (case side1 => repeat (first | exact HR161.out | (with_reducible refine Kd.C_alloc ?_ _) | (with_reducible refine Kd.C_drewN ?_ _) | (with_reducible refine Kd.C_drew ?_))); (case side2 => exact HC161.out); (case side3 => repeat (first | exact HR1.out | (with_reducible refine Kd.C_alloc ?_ _) | (with_reducible refine Kd.C_drewN ?_ _) | (with_reducible refine Kd.C_drew ?_))); (case side4 => exact HC1.out); rintro e w' ⟨rfl, ⟨nd, rfl⟩⟩))
      go_ret
      exact ⟨by first | rfl | (simp; done) | (simp [*]; done), by repeat (first | exact Drawn0.refl _ | apply Drawn0.step)⟩
    · rw [if_neg c4] at H
      exact absurd H (by simp)
  · rw [if_neg c3] at H
    have c3b0 : decide ((l1.length : Int) ≤ (l0.length : Int)) = false := decide_eq_false c3
    have c3b1 : decide (l1.length ≤ l0.length) = false := decide_eq_false (fun h => c3 (Int.ofNat_le.mpr h))
    clear c3
    obtain rfl := Option.some.inj H
    go_enter Try.func30, Try.ntmps30
    go_wp2
    go_ret
    exact ⟨by first | rfl | (simp; done) | (simp [*]; done), by repeat (first | exact Drawn0.refl _ | apply Drawn0.step)⟩

end Go.Proofs.Ytmhngpihkaignaa.PFnASEnds
