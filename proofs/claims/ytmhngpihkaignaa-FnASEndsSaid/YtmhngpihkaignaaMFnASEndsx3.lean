/- Written by mend.py (wip/) out of the print's text of this law: the functions of the law from 'asAwake' on, each with what it comes to; with no condition. -/
import Derived.Test.YtmhngpihkaignaaPFnASEndsx0
import Derived.Test.YtmhngpihkaignaaPFnASEndsx1
import Derived.Test.YtmhngpihkaignaaMFnASEndsx2
namespace Go.Proofs.Ytmhngpihkaignaa.PFnASEnds
open Go.RowKit Go.Proofs.YtmhngpihkaignaaW.PrintWords Go.Proofs.YtmhngpihkaignaaW.PrintLast Go.Proofs.YtmhngpihkaignaaW.PrintMore
attribute [local go_sem] max2_int min2_int max_two min_two max_three min_three max_four min_four   -- for this text's walks alone
set_option linter.unusedVariables false
set_option linter.unusedSimpArgs false

/-! ### ascii_HasSuffixFoldString_75: function 75 -/
def ascii_HasSuffixFoldString_75.f (k : Nat) (a0 : ByteArray) (a1 : ByteArray) : Option (Bool) := if (a0.size : Int) ≥ (a1.size : Int) then (if 0 ≤ (wrap64 ((a0.size : Int) - (a1.size : Int))) then (if (wrap64 ((a0.size : Int) - (a1.size : Int))) ≤ (a0.size : Int) then ((ascii_EqualFoldString_63.f k (a0.extract ((wrap64 ((a0.size : Int) - (a1.size : Int))) : Int).toNat a0.size) a1).bind fun t163 => (some t163)) else (none)) else (none)) else (some false)
theorem ascii_HasSuffixFoldString_75.mono : ∀ a0 a1 k, LeO (ascii_HasSuffixFoldString_75.f k a0 a1) (ascii_HasSuffixFoldString_75.f (k + 1) a0 a1) := by
  intro a0 a1 k
  unfold ascii_HasSuffixFoldString_75.f
  repeat' first
      | (with_reducible exact ascii_EqualFoldString_63.mono _ _ _)
      | (with_reducible exact LeO.refl _)
      | (with_reducible exact LeO.none _)
      | (with_reducible refine LeO.ite ?_ ?_)
      | (with_reducible refine LeO.bind ?_ (fun _ => ?_))
      | exact ascii_EqualFoldString_63.mono _ _ _
      | exact LeO.none _
      | refine LeO.ite ?_ ?_
      | refine LeO.bind ?_ (fun _ => ?_)
set_option maxHeartbeats 8000000 in
set_option maxRecDepth 100000 in
theorem ascii_HasSuffixFoldString_75.calls (k : Nat) (a0 : ByteArray) (a1 : ByteArray) (r : Bool) (w : World) (h : ascii_HasSuffixFoldString_75.f k a0 a1 = some r) :
    Calls Try.prog 75 #[.string a0, .string a1] w fun e w' => e = .returned (.bool r) ∧ Drawn0 w w' := by
  have H : (if (a0.size : Int) ≥ (a1.size : Int) then (if 0 ≤ (wrap64 ((a0.size : Int) - (a1.size : Int))) then (if (wrap64 ((a0.size : Int) - (a1.size : Int))) ≤ (a0.size : Int) then ((ascii_EqualFoldString_63.f k (a0.extract ((wrap64 ((a0.size : Int) - (a1.size : Int))) : Int).toNat a0.size) a1).bind fun t163 => (some t163)) else (none)) else (none)) else (some false)) = some r := h
  clear h
  by_cases c3 : (a0.size : Int) ≥ (a1.size : Int)
  · rw [if_pos c3] at H
    have c3b0 : decide ((a1.size : Int) ≤ (a0.size : Int)) = true := decide_eq_true c3
    have c3b1 : decide (a1.size ≤ a0.size) = true := decide_eq_true (Int.ofNat_le.mp c3)
    clear c3
    obtain ⟨ji4, hji4⟩ : ∃ j_ : Int, (wrap64 ((a0.size : Int) - (a1.size : Int))) = j_ := ⟨_, rfl⟩
    replace H : (if 0 ≤ (ji4) then (if (ji4) ≤ (a0.size : Int) then ((ascii_EqualFoldString_63.f k (a0.extract ((ji4) : Int).toNat a0.size) a1).bind fun t163 => (some t163)) else (none)) else (none)) = some r := by first | (rw [hji4] at H; exact H) | (simp only [hji4] at H ⊢; exact H)
    have hji4w : (IntKind.i64.wrap ((a0.size : Int) - (a1.size : Int))) = ji4 := (i64_w _).trans hji4
    by_cases c5 : 0 ≤ (ji4)
    · rw [if_pos c5] at H
      have c5b0 := eq_true c5
      have c5b1 : decide (0 ≤ (ji4)) = true := decide_eq_true c5
      clear c5
      by_cases c6 : (ji4) ≤ (a0.size : Int)
      · rw [if_pos c6] at H
        have c6b0 := eq_true c6
        have c6b1 : decide ((ji4) ≤ (a0.size : Int)) = true := decide_eq_true c6
        clear c6
        replace H := Option.bind_eq_some_iff.mp H
        obtain ⟨t163, A70, H⟩ := H
        replace H : (some t163) = some r := H
        have A7 := Aside0.mk A70
        clear A70
        obtain rfl := Option.some.inj H
        go_enter Try.func75, Try.ntmps75
        go_wp2_with (first | (go_at_call 63; (with_reducible refine (ascii_EqualFoldString_63.calls k (a0.extract ((ji4) : Int).toNat a0.size) a1 t163 _ A7.out).mono ?_); rintro e w' ⟨rfl, ⟨nd, rfl⟩⟩))
        go_ret
        exact ⟨by first | rfl | (simp; done) | (simp only [← hji4] <;> (first | rfl | simp)) | (simp [*]; done), by repeat (first | exact Drawn0.refl _ | apply Drawn0.step)⟩
      · rw [if_neg c6] at H
        exact absurd H (by simp)
    · rw [if_neg c5] at H
      exact absurd H (by simp)
  · rw [if_neg c3] at H
    have c3b0 : decide ((a1.size : Int) ≤ (a0.size : Int)) = false := decide_eq_false c3
    have c3b1 : decide (a1.size ≤ a0.size) = false := decide_eq_false (fun h => c3 (Int.ofNat_le.mpr h))
    clear c3
    obtain rfl := Option.some.inj H
    go_enter Try.func75, Try.ntmps75
    go_wp2
    go_ret
    exact ⟨by first | rfl | (simp; done) | (simp [*]; done), by repeat (first | exact Drawn0.refl _ | apply Drawn0.step)⟩

/-! ### ascii_HasSuffixFoldString_55: function 55 -/
def ascii_HasSuffixFoldString_55.f (k : Nat) (a0 : ByteArray) (a1 : ByteArray) : Option (Bool) := (ascii_HasSuffixFoldString_75.f k a0 a1).bind fun t164 => (some t164)
theorem ascii_HasSuffixFoldString_55.mono : ∀ a0 a1 k, LeO (ascii_HasSuffixFoldString_55.f k a0 a1) (ascii_HasSuffixFoldString_55.f (k + 1) a0 a1) := by
  intro a0 a1 k
  unfold ascii_HasSuffixFoldString_55.f
  repeat' first
      | (with_reducible exact ascii_HasSuffixFoldString_75.mono _ _ _)
      | (with_reducible exact LeO.refl _)
      | (with_reducible exact LeO.none _)
      | (with_reducible refine LeO.ite ?_ ?_)
      | (with_reducible refine LeO.bind ?_ (fun _ => ?_))
      | exact ascii_HasSuffixFoldString_75.mono _ _ _
      | exact LeO.none _
      | refine LeO.ite ?_ ?_
      | refine LeO.bind ?_ (fun _ => ?_)
set_option maxHeartbeats 8000000 in
set_option maxRecDepth 100000 in
theorem ascii_HasSuffixFoldString_55.calls (k : Nat) (a0 : ByteArray) (a1 : ByteArray) (r : Bool) (w : World) (h : ascii_HasSuffixFoldString_55.f k a0 a1 = some r) :
    Calls Try.prog 55 #[.string a0, .string a1] w fun e w' => e = .returned (.bool r) ∧ Drawn0 w w' := by
  have H : ((ascii_HasSuffixFoldString_75.f k a0 a1).bind fun t164 => (some t164)) = some r := h
  clear h
  replace H := Option.bind_eq_some_iff.mp H
  obtain ⟨t164, A30, H⟩ := H
  replace H : (some t164) = some r := H
  have A3 := Aside0.mk A30
  clear A30
  obtain rfl := Option.some.inj H
  go_enter Try.func55, Try.ntmps55
  go_wp2_with (first | ((with_reducible refine gate_callee (f := 75) rfl ?_); refine goesL_ (some 7) rfl rfl Try.func75 (by kernel_rfl) rfl #[.string a0, .string a1] rfl (by (try simp only [List.map_toArray, List.map_cons, List.map_nil]); first | done | rfl | (simp only [List.length_drop, List.length_take]; rfl)) ?_; (with_reducible refine (ascii_HasSuffixFoldString_75.calls k a0 a1 t164 _ A3.out).mono ?_); rintro e w' ⟨rfl, ⟨nd, rfl⟩⟩; refine ⟨_, rfl, ?_⟩))
  go_ret
  exact ⟨by first | rfl | (simp; done) | (simp [*]; done), by repeat (first | exact Drawn0.refl _ | apply Drawn0.step)⟩

/-! ### ascii_HasSuffixFold_76: function 76 -/
def ascii_HasSuffixFold_76.f (k : Nat) (l0 : List Int) (l1 : List Int) : Option (Bool) := (ascii_HasSuffixFoldString_75.f k (strOfNums l0) (strOfNums l1)).bind fun t165 => (some t165)
theorem ascii_HasSuffixFold_76.mono : ∀ a0 a1 k, LeO (ascii_HasSuffixFold_76.f k a0 a1) (ascii_HasSuffixFold_76.f (k + 1) a0 a1) := by
  intro a0 a1 k
  unfold ascii_HasSuffixFold_76.f
  repeat' first
      | (with_reducible exact ascii_HasSuffixFoldString_75.mono _ _ _)
      | (with_reducible exact LeO.refl _)
      | (with_reducible exact LeO.none _)
      | (with_reducible refine LeO.ite ?_ ?_)
      | (with_reducible refine LeO.bind ?_ (fun _ => ?_))
      | exact ascii_HasSuffixFoldString_75.mono _ _ _
      | exact LeO.none _
      | refine LeO.ite ?_ ?_
      | refine LeO.bind ?_ (fun _ => ?_)
set_option maxHeartbeats 8000000 in
set_option maxRecDepth 100000 in
theorem ascii_HasSuffixFold_76.calls (k : Nat) (A0 : Option Addr) (c0 : Nat) (l0 : List Int) (A1 : Option Addr) (c1 : Nat) (l1 : List Int) (r : Bool) (w : World) (hr0 : Kd.C (Kd.int .u8) w A0 l0.length l0) (hc0 : l0.length ≤ c0) (hr1 : Kd.C (Kd.int .u8) w A1 l1.length l1) (hc1 : l1.length ≤ c1) (h : ascii_HasSuffixFold_76.f k l0 l1 = some r) :
    Calls Try.prog 76 #[.slice A0 l0.length c0, .slice A1 l1.length c1] w fun e w' => e = .returned (.bool r) ∧ Drawn0 w w' := by
  have HR0 := Aside0.mk hr0
  have HC0 := Aside0.mk hc0
  clear hr0 hc0
  have HR1 := Aside0.mk hr1
  have HC1 := Aside0.mk hc1
  clear hr1 hc1
  have H : ((ascii_HasSuffixFoldString_75.f k (strOfNums l0) (strOfNums l1)).bind fun t165 => (some t165)) = some r := h
  clear h
  replace H := Option.bind_eq_some_iff.mp H
  obtain ⟨t165, A30, H⟩ := H
  replace H : (some t165) = some r := H
  have A3 := Aside0.mk A30
  clear A30
  obtain rfl := Option.some.inj H
  have hcv4 := Kd.C_string (P := Try.prog) (A := A0) (c := c0) Try.underlying31 Try.underlying5 Try.underlying9 HR0.out
  have hcv5 := Kd.C_string (P := Try.prog) (A := A1) (c := c1) Try.underlying31 Try.underlying5 Try.underlying9 HR1.out
  go_enter Try.func76, Try.ntmps76
  go_wp2_with (first | ((with_reducible refine gate_callee (f := 75) rfl ?_); refine goesL_ (some 9) rfl rfl Try.func75 (by kernel_rfl) rfl #[.string (strOfNums l0), .string (strOfNums l1)] rfl (by (try simp only [List.map_toArray, List.map_cons, List.map_nil]); first | done | rfl | (simp only [List.length_drop, List.length_take]; rfl)) ?_; (with_reducible refine (ascii_HasSuffixFoldString_75.calls k (strOfNums l0) (strOfNums l1) t165 _ A3.out).mono ?_); rintro e w' ⟨rfl, ⟨nd, rfl⟩⟩; refine ⟨_, rfl, ?_⟩))
  go_ret
  exact ⟨by first | rfl | (simp; done) | (simp [*]; done), by repeat (first | exact Drawn0.refl _ | apply Drawn0.step)⟩

/-! ### ascii_HasSuffixFold_56: function 56 -/
def ascii_HasSuffixFold_56.f (k : Nat) (l0 : List Int) (l1 : List Int) : Option (Bool) := (ascii_HasSuffixFold_76.f k l0 l1).bind fun t166 => (some t166)
theorem ascii_HasSuffixFold_56.mono : ∀ a0 a1 k, LeO (ascii_HasSuffixFold_56.f k a0 a1) (ascii_HasSuffixFold_56.f (k + 1) a0 a1) := by
  intro a0 a1 k
  unfold ascii_HasSuffixFold_56.f
  repeat' first
      | (with_reducible exact ascii_HasSuffixFold_76.mono _ _ _)
      | (with_reducible exact LeO.refl _)
      | (with_reducible exact LeO.none _)
      | (with_reducible refine LeO.ite ?_ ?_)
      | (with_reducible refine LeO.bind ?_ (fun _ => ?_))
      | exact ascii_HasSuffixFold_76.mono _ _ _
      | exact LeO.none _
      | refine LeO.ite ?_ ?_
      | refine LeO.bind ?_ (fun _ => ?_)
set_option maxHeartbeats 8000000 in
set_option maxRecDepth 100000 in
theorem ascii_HasSuffixFold_56.calls (k : Nat) (A0 : Option Addr) (c0 : Nat) (l0 : List Int) (A1 : Option Addr) (c1 : Nat) (l1 : List Int) (r : Bool) (w : World) (hr0 : Kd.C (Kd.int .u8) w A0 l0.length l0) (hc0 : l0.length ≤ c0) (hr1 : Kd.C (Kd.int .u8) w A1 l1.length l1) (hc1 : l1.length ≤ c1) (h : ascii_HasSuffixFold_56.f k l0 l1 = some r) :
    Calls Try.prog 56 #[.slice A0 l0.length c0, .slice A1 l1.length c1] w fun e w' => e = .returned (.bool r) ∧ Drawn0 w w' := by
  have HR0 := Aside0.mk hr0
  have HC0 := Aside0.mk hc0
  clear hr0 hc0
  have HR1 := Aside0.mk hr1
  have HC1 := Aside0.mk hc1
  clear hr1 hc1
  have H : ((ascii_HasSuffixFold_76.f k l0 l1).bind fun t166 => (some t166)) = some r := h
  clear h
  replace H := Option.bind_eq_some_iff.mp H
  obtain ⟨t166, A30, H⟩ := H
  replace H : (some t166) = some r := H
  have A3 := Aside0.mk A30
  clear A30
  obtain rfl := Option.some.inj H
  go_enter Try.func56, Try.ntmps56
  go_wp2_with (first | ((with_reducible refine gate_callee (f := 76) rfl ?_); refine goesL_ (some 7) rfl rfl Try.func76 (by kernel_rfl) rfl #[.slice A0 l0.length c0, .slice A1 l1.length c1] rfl (by (try simp only [List.map_toArray, List.map_cons, List.map_nil]); first | done | rfl | (simp only [List.length_drop, List.length_take]; rfl)) ?_; (with_reducible refine (ascii_HasSuffixFold_76.calls k _ _ l0 _ _ l1 t166 _ ?side1 ?side2 ?side3 ?side4 A3.out).mono ?_); (case side1 => repeat (first | exact HR0.out | (with_reducible refine Kd.C_alloc ?_ _) | (with_reducible refine Kd.C_drewN ?_ _) | (with_reducible refine Kd.C_drew ?_))); (case side2 => exact HC0.out); (case side3 => repeat (first | exact HR1.out | (with_reducible refine Kd.C_alloc ?_ _) | (with_reducible refine Kd.C_drewN ?_ _) | (with_reducible refine Kd.C_drew ?_))); (case side4 => exact HC1.out); rintro e w' ⟨rfl, ⟨nd, rfl⟩⟩; refine ⟨_, rfl, ?_⟩))
  go_ret
  exact ⟨by first | rfl | (simp; done) | (simp [*]; done), by repeat (first | exact Drawn0.refl _ | apply Drawn0.step)⟩

/-! ### impl_ASSuffix: function 31 -/
def impl_ASSuffix.f (k : Nat) (l0 : List Int) (l1 : List Int) (a2 : Bool) : Option (Bool) := if a2 = true then ((ascii_HasSuffixFoldString_55.f k (strOfNums l0) (strOfNums l1)).bind fun t167 => (some t167)) else ((ascii_HasSuffixFold_56.f k l0 l1).bind fun t168 => (some t168))
theorem impl_ASSuffix.mono : ∀ a0 a1 a2 k, LeO (impl_ASSuffix.f k a0 a1 a2) (impl_ASSuffix.f (k + 1) a0 a1 a2) := by
  intro a0 a1 a2 k
  unfold impl_ASSuffix.f
  repeat' first
      | (with_reducible exact ascii_HasSuffixFoldString_55.mono _ _ _)
      | (with_reducible exact ascii_HasSuffixFold_56.mono _ _ _)
      | (with_reducible exact LeO.refl _)
      | (with_reducible exact LeO.none _)
      | (with_reducible refine LeO.ite ?_ ?_)
      | (with_reducible refine LeO.bind ?_ (fun _ => ?_))
      | exact ascii_HasSuffixFoldString_55.mono _ _ _
      | exact ascii_HasSuffixFold_56.mono _ _ _
      | exact LeO.none _
      | refine LeO.ite ?_ ?_
      | refine LeO.bind ?_ (fun _ => ?_)
set_option maxHeartbeats 8000000 in
set_option maxRecDepth 100000 in
theorem impl_ASSuffix.calls (k : Nat) (A0 : Option Addr) (c0 : Nat) (l0 : List Int) (A1 : Option Addr) (c1 : Nat) (l1 : List Int) (a2 : Bool) (r : Bool) (w : World) (hr0 : Kd.C (Kd.int .u8) w A0 l0.length l0) (hc0 : l0.length ≤ c0) (hr1 : Kd.C (Kd.int .u8) w A1 l1.length l1) (hc1 : l1.length ≤ c1) (h : impl_ASSuffix.f k l0 l1 a2 = some r) :
    Calls Try.prog 31 #[.slice A0 l0.length c0, .slice A1 l1.length c1, .bool a2] w fun e w' => e = .returned (.bool r) ∧ Drawn0 w w' := by
  have HR0 := Aside0.mk hr0
  have HC0 := Aside0.mk hc0
  clear hr0 hc0
  have HR1 := Aside0.mk hr1
  have HC1 := Aside0.mk hc1
  clear hr1 hc1
  have H : (if a2 = true then ((ascii_HasSuffixFoldString_55.f k (strOfNums l0) (strOfNums l1)).bind fun t167 => (some t167)) else ((ascii_HasSuffixFold_56.f k l0 l1).bind fun t168 => (some t168))) = some r := h
  clear h
  by_cases c4 : a2 = true
  · subst c4
    have H1 : ((ascii_HasSuffixFoldString_55.f k (strOfNums l0) (strOfNums l1)).bind fun t167 => (some t167)) = some r := by rw [if_pos rfl] at H; exact H
    clear H
    have H := H1
    clear H1
    replace H := Option.bind_eq_some_iff.mp H
    obtain ⟨t167, A50, H⟩ := H
    replace H : (some t167) = some r := H
    have A5 := Aside0.mk A50
    clear A50
    obtain rfl := Option.some.inj H
    have hcv6 := Kd.C_string (P := Try.prog) (A := A0) (c := c0) Try.underlying31 Try.underlying5 Try.underlying9 HR0.out
    have hcv7 := Kd.C_string (P := Try.prog) (A := A1) (c := c1) Try.underlying31 Try.underlying5 Try.underlying9 HR1.out
    go_enter Try.func31, Try.ntmps31
    go_wp2_with (first | ((with_reducible refine gate_callee (f := 55) rfl ?_); refine goesL_ (some 12) rfl rfl Try.func55 (by kernel_rfl) rfl #[.string (strOfNums l0), .string (strOfNums l1)] rfl (by (try simp only [List.map_toArray, List.map_cons, List.map_nil]); first | done | rfl | (simp only [List.length_drop, List.length_take]; rfl)) ?_; (with_reducible refine (ascii_HasSuffixFoldString_55.calls k (strOfNums l0) (strOfNums l1) t167 _ A5.out).mono ?_); rintro e w' ⟨rfl, ⟨nd, rfl⟩⟩; refine ⟨_, rfl, ?_⟩))
    go_ret
    exact ⟨by first | rfl | (simp; done) | (simp [*]; done), by repeat (first | exact Drawn0.refl _ | apply Drawn0.step)⟩
  · replace c4 := Bool.eq_false_iff.mpr c4
    subst c4
    have H1 : ((ascii_HasSuffixFold_56.f k l0 l1).bind fun t168 => (some t168)) = some r := by rw [if_neg (show ¬ (false = true) by decide)] at H; exact H
    clear H
    have H := H1
    clear H1
    replace H := Option.bind_eq_some_iff.mp H
    obtain ⟨t168, A80, H⟩ := H
    replace H : (some t168) = some r := H
    have A8 := Aside0.mk A80
    clear A80
    obtain rfl := Option.some.inj H
    go_enter Try.func31, Try.ntmps31
    go_wp2_with (first | ((with_reducible refine gate_callee (f := 56) rfl ?_); refine goesL_ (some 15) rfl rfl Try.func56 (by kernel_rfl) rfl #[.slice A0 l0.length c0, .slice A1 l1.length c1] rfl (by (try simp only [List.map_toArray, List.map_cons, List.map_nil]); first | done | rfl | (simp only [List.length_drop, List.length_take]; rfl)) ?_; (with_reducible refine (ascii_HasSuffixFold_56.calls k _ _ l0 _ _ l1 t168 _ ?side1 ?side2 ?side3 ?side4 A8.out).mono ?_); (case side1 => repeat (first | exact HR0.out | (with_reducible refine Kd.C_alloc ?_ _) | (with_reducible refine Kd.C_drewN ?_ _) | (with_reducible refine Kd.C_drew ?_))); (case side2 => exact HC0.out); (case side3 => repeat (first | exact HR1.out | (with_reducible refine Kd.C_alloc ?_ _) | (with_reducible refine Kd.C_drewN ?_ _) | (with_reducible refine Kd.C_drew ?_))); (case side4 => exact HC1.out); rintro e w' ⟨rfl, ⟨nd, rfl⟩⟩; refine ⟨_, rfl, ?_⟩))
    go_ret
    exact ⟨by first | rfl | (simp; done) | (simp [*]; done), by repeat (first | exact Drawn0.refl _ | apply Drawn0.step)⟩

/-! ### spec_ASSuffix: function 32 -/
def spec_ASSuffix.f (k : Nat) (l0 : List Int) (l1 : List Int) : Option (Bool) := if (l1.length : Int) ≤ (l0.length : Int) then (if 0 ≤ (wrap64 ((l0.length : Int) - (l1.length : Int))) then (if (wrap64 ((l0.length : Int) - (l1.length : Int))) ≤ (l0.length : Int) then ((spec_ASFold.f k (l0.drop ((wrap64 ((l0.length : Int) - (l1.length : Int))) : Int).toNat) l1).bind fun t170 => (some t170)) else (none)) else (none)) else (some false)
theorem spec_ASSuffix.mono : ∀ a0 a1 k, LeO (spec_ASSuffix.f k a0 a1) (spec_ASSuffix.f (k + 1) a0 a1) := by
  intro a0 a1 k
  unfold spec_ASSuffix.f
  repeat' first
      | (with_reducible exact spec_ASFold.mono _ _ _)
      | (with_reducible exact LeO.refl _)
      | (with_reducible exact LeO.none _)
      | (with_reducible refine LeO.ite ?_ ?_)
      | (with_reducible refine LeO.bind ?_ (fun _ => ?_))
      | exact spec_ASFold.mono _ _ _
      | exact LeO.none _
      | refine LeO.ite ?_ ?_
      | refine LeO.bind ?_ (fun _ => ?_)
set_option maxHeartbeats 8000000 in
set_option maxRecDepth 100000 in
theorem spec_ASSuffix.calls (k : Nat) (A0 : Option Addr) (c0 : Nat) (l0 : List Int) (A1 : Option Addr) (c1 : Nat) (l1 : List Int) (r : Bool) (w : World) (hr0 : Kd.C (Kd.int .u8) w A0 l0.length l0) (hc0 : l0.length ≤ c0) (hr1 : Kd.C (Kd.int .u8) w A1 l1.length l1) (hc1 : l1.length ≤ c1) (h : spec_ASSuffix.f k l0 l1 = some r) :
    Calls Try.prog 32 #[.slice A0 l0.length c0, .slice A1 l1.length c1] w fun e w' => e = .returned (.bool r) ∧ Drawn0 w w' := by
  have HR0 := Aside0.mk hr0
  have HC0 := Aside0.mk hc0
  clear hr0 hc0
  have HR1 := Aside0.mk hr1
  have HC1 := Aside0.mk hc1
  clear hr1 hc1
  have H : (if (l1.length : Int) ≤ (l0.length : Int) then (if 0 ≤ (wrap64 ((l0.length : Int) - (l1.length : Int))) then (if (wrap64 ((l0.length : Int) - (l1.length : Int))) ≤ (l0.length : Int) then ((spec_ASFold.f k (l0.drop ((wrap64 ((l0.length : Int) - (l1.length : Int))) : Int).toNat) l1).bind fun t170 => (some t170)) else (none)) else (none)) else (some false)) = some r := h
  clear h
  by_cases c3 : (l1.length : Int) ≤ (l0.length : Int)
  · rw [if_pos c3] at H
    have c3b0 : decide ((l1.length : Int) ≤ (l0.length : Int)) = true := decide_eq_true c3
    have c3b1 : decide (l1.length ≤ l0.length) = true := decide_eq_true (Int.ofNat_le.mp c3)
    clear c3
    obtain ⟨ji4, hji4⟩ : ∃ j_ : Int, (wrap64 ((l0.length : Int) - (l1.length : Int))) = j_ := ⟨_, rfl⟩
    replace H : (if 0 ≤ (ji4) then (if (ji4) ≤ (l0.length : Int) then ((spec_ASFold.f k (l0.drop ((ji4) : Int).toNat) l1).bind fun t170 => (some t170)) else (none)) else (none)) = some r := by first | (rw [hji4] at H; exact H) | (simp only [hji4] at H ⊢; exact H)
    have hji4w : (IntKind.i64.wrap ((l0.length : Int) - (l1.length : Int))) = ji4 := (i64_w _).trans hji4
    by_cases c5 : 0 ≤ (ji4)
    · rw [if_pos c5] at H
      have c5b0 := eq_true c5
      have c5b1 : decide (0 ≤ (ji4)) = true := decide_eq_true c5
      clear c5
      by_cases c6 : (ji4) ≤ (l0.length : Int)
      · rw [if_pos c6] at H
        have c6b0 := eq_true c6
        have c6b1 : decide ((ji4) ≤ (l0.length : Int)) = true := decide_eq_true c6
        clear c6
        replace H := Option.bind_eq_some_iff.mp H
        obtain ⟨t170, A70, H⟩ := H
        replace H : (some t170) = some r := H
        have A7 := Aside0.mk A70
        clear A70
        obtain rfl := Option.some.inj H
        obtain ⟨i08, hi08, _, hsz8, _⟩ := info_parts info5
        obtain ⟨A8, hcut8, hA8, hC8⟩ := print_drop_of (P := Try.prog) (Value.int .u8) 0 31 5 .i64 Try.underlying31 hi08 hsz8 A0 c0 l0 (ji4) (of_decide_eq_true (by first | (with_reducible assumption) | assumption)) (of_decide_eq_true (by first | (with_reducible assumption) | assumption)) HC0.out
        have HR169 := Aside0.mk (Kd.C_of_reads (h1 := fun _ => rfl) (hA8 _ (Kd.reads_of_C HR0.out)))
        have HC169 := Aside0.mk hC8
        clear hA8 hC8 hi08 hsz8
        obtain ⟨yy, Nyy⟩ : ∃ yy : List Int, (l0.drop ((ji4) : Int).toNat) = yy := ⟨_, rfl⟩
        rw [Nyy] at hcut8 HR169 HC169 A7
        clear Nyy
        go_enter Try.func32, Try.ntmps32
        go_wp2_with (first | (go_at_call 20; (with_reducible refine (spec_ASFold.calls k _ _ yy _ _ l1 t170 _ ?side1 ?side2 ?side3 ?side4 A7.out).mono ?_); (case side1 => repeat (first | exact HR169.out | (with_reducible refine Kd.C_alloc ?_ _) | (with_reducible refine Kd.C_drewN ?_ _) | (with_reducible refine Kd.C_drew ?_))); (case side2 => exact HC169.out); (case side3 => repeat (first | exact HR1.out | (with_reducible refine Kd.C_alloc ?_ _) | (with_reducible refine Kd.C_drewN ?_ _) | (with_reducible refine Kd.C_drew ?_))); (case side4 => exact HC1.out); rintro e w' ⟨rfl, ⟨nd, rfl⟩⟩))
        go_ret
        exact ⟨by first | rfl | (simp; done) | (simp only [← hji4] <;> (first | rfl | simp)) | (simp [*]; done), by repeat (first | exact Drawn0.refl _ | apply Drawn0.step)⟩
      · rw [if_neg c6] at H
        exact absurd H (by simp)
    · rw [if_neg c5] at H
      exact absurd H (by simp)
  · rw [if_neg c3] at H
    have c3b0 : decide ((l1.length : Int) ≤ (l0.length : Int)) = false := decide_eq_false c3
    have c3b1 : decide (l1.length ≤ l0.length) = false := decide_eq_false (fun h => c3 (Int.ofNat_le.mpr h))
    clear c3
    obtain rfl := Option.some.inj H
    go_enter Try.func32, Try.ntmps32
    go_wp2
    go_ret
    exact ⟨by first | rfl | (simp; done) | (simp [*]; done), by repeat (first | exact Drawn0.refl _ | apply Drawn0.step)⟩

/-! ### laws_FnASEnds: function 9 -/
mutual
def laws_FnASEnds.j0 : Nat → List Int → List Int → Int → Bool → Option (Bool)
  | 0, _, _, _, _ => none
  | k + 1, x0, x1, x2, x19 => if x19 = true then (some true) else ((laws_asOnly.f k x0).bind fun t171 => ((laws_asOnly.f k x1).bind fun t174 => (if (wrap64 ((t171.length : Int) + 1)) = 0 then (none) else ((some (([false, true] : List Bool) : List Bool)).bind fun y177 => (laws_FnASEnds.l0 k t171 t174 (Int.tmod (wrap64 (x2)) (wrap64 ((t171.length : Int) + 1))) y177 (y177.length : Int) 0)))))
def laws_FnASEnds.l0 : Nat → List Int → List Int → Int → List Bool → Int → Int → Option (Bool)
  | 0, _, _, _, _, _, _ => none
  | k + 1, x7, x8, x9, x30, x31, x32 => if x32 < x31 then (if 0 ≤ x32 then (if x32 < (x30.length : Int) then ((impl_ASPrefix.f k x7 x8 (rdOf false x30 x32)).bind fun t182 => ((spec_ASPrefix.f k x7 x8).bind fun t183 => (if (t182 != t183) = true then (some false) else ((impl_ASSuffix.f k x7 x8 (rdOf false x30 x32)).bind fun t184 => ((spec_ASSuffix.f k x7 x8).bind fun t185 => (if (t184 != t185) = true then (some false) else (if 0 ≤ x9 then (if x9 ≤ (x7.length : Int) then ((impl_ASPrefix.f k x7 (x7.take (x9 : Int).toNat) (rdOf false x30 x32)).bind fun t190 => (if t190 = true then ((impl_ASSuffix.f k x7 (x7.drop (x9 : Int).toNat) (rdOf false x30 x32)).bind fun t195 => (if t195 = true then (laws_FnASEnds.l0 k x7 x8 x9 x30 x31 (wrap64 (x32 + 1))) else (some false))) else (some false))) else (none)) else (none)))))))) else (none)) else (none)) else ((laws_asAwake.f k).bind fun t180 => (some t180))
end
def laws_FnASEnds.f (k : Nat) (l0 : List Int) (l1 : List Int) (a2 : Int) : Option (Bool) := if (l0.length : Int) > 2147483647 then (laws_FnASEnds.j0 k l0 l1 a2 true) else (laws_FnASEnds.j0 k l0 l1 a2 (decide ((l1.length : Int) > 2147483647)))
theorem laws_FnASEnds.mono_l : ∀ k, (∀ y0 y1 y2 y3, LeO (laws_FnASEnds.j0 k y0 y1 y2 y3) (laws_FnASEnds.j0 (k + 1) y0 y1 y2 y3)) ∧ (∀ y0 y1 y2 y3 y4 y5, LeO (laws_FnASEnds.l0 k y0 y1 y2 y3 y4 y5) (laws_FnASEnds.l0 (k + 1) y0 y1 y2 y3 y4 y5))
  | 0 => ⟨fun _ _ _ _ r h => by simp [laws_FnASEnds.j0] at h, fun _ _ _ _ _ _ r h => by simp [laws_FnASEnds.l0] at h⟩
  | k + 1 => by
    obtain ⟨ih0, ih1⟩ := laws_FnASEnds.mono_l k
    refine ⟨?_, ?_⟩
    · intro y0 y1 y2 y3
      unfold laws_FnASEnds.j0
      repeat' first
      | (with_reducible exact ih0 _ _ _ _)
      | (with_reducible exact ih1 _ _ _ _ _ _)
      | (with_reducible exact impl_ASPrefix.mono _ _ _ _)
      | (with_reducible exact impl_ASSuffix.mono _ _ _ _)
      | (with_reducible exact laws_asAwake.mono _)
      | (with_reducible exact laws_asOnly.mono _ _)
      | (with_reducible exact spec_ASPrefix.mono _ _ _)
      | (with_reducible exact spec_ASSuffix.mono _ _ _)
      | (with_reducible exact LeO.refl _)
      | (with_reducible exact LeO.none _)
      | (with_reducible refine LeO.ite ?_ ?_)
      | (with_reducible refine LeO.bind ?_ (fun _ => ?_))
      | exact ih0 _ _ _ _
      | exact ih1 _ _ _ _ _ _
      | exact impl_ASPrefix.mono _ _ _ _
      | exact impl_ASSuffix.mono _ _ _ _
      | exact laws_asAwake.mono _
      | exact laws_asOnly.mono _ _
      | exact spec_ASPrefix.mono _ _ _
      | exact spec_ASSuffix.mono _ _ _
      | exact LeO.none _
      | refine LeO.ite ?_ ?_
      | refine LeO.bind ?_ (fun _ => ?_)
    · intro y0 y1 y2 y3 y4 y5
      unfold laws_FnASEnds.l0
      repeat' first
      | (with_reducible exact ih0 _ _ _ _)
      | (with_reducible exact ih1 _ _ _ _ _ _)
      | (with_reducible exact impl_ASPrefix.mono _ _ _ _)
      | (with_reducible exact impl_ASSuffix.mono _ _ _ _)
      | (with_reducible exact laws_asAwake.mono _)
      | (with_reducible exact laws_asOnly.mono _ _)
      | (with_reducible exact spec_ASPrefix.mono _ _ _)
      | (with_reducible exact spec_ASSuffix.mono _ _ _)
      | (with_reducible exact LeO.refl _)
      | (with_reducible exact LeO.none _)
      | (with_reducible refine LeO.ite ?_ ?_)
      | (with_reducible refine LeO.bind ?_ (fun _ => ?_))
      | exact ih0 _ _ _ _
      | exact ih1 _ _ _ _ _ _
      | exact impl_ASPrefix.mono _ _ _ _
      | exact impl_ASSuffix.mono _ _ _ _
      | exact laws_asAwake.mono _
      | exact laws_asOnly.mono _ _
      | exact spec_ASPrefix.mono _ _ _
      | exact spec_ASSuffix.mono _ _ _
      | exact LeO.none _
      | refine LeO.ite ?_ ?_
      | refine LeO.bind ?_ (fun _ => ?_)
theorem laws_FnASEnds.mono : ∀ a0 a1 a2 k, LeO (laws_FnASEnds.f k a0 a1 a2) (laws_FnASEnds.f (k + 1) a0 a1 a2) := by
  intro a0 a1 a2 k
  obtain ⟨ih0, ih1⟩ := laws_FnASEnds.mono_l k
  unfold laws_FnASEnds.f
  repeat' first
      | (with_reducible exact ih0 _ _ _ _)
      | (with_reducible exact ih1 _ _ _ _ _ _)
      | (with_reducible exact impl_ASPrefix.mono _ _ _ _)
      | (with_reducible exact impl_ASSuffix.mono _ _ _ _)
      | (with_reducible exact laws_asAwake.mono _)
      | (with_reducible exact laws_asOnly.mono _ _)
      | (with_reducible exact spec_ASPrefix.mono _ _ _)
      | (with_reducible exact spec_ASSuffix.mono _ _ _)
      | (with_reducible exact LeO.refl _)
      | (with_reducible exact LeO.none _)
      | (with_reducible refine LeO.ite ?_ ?_)
      | (with_reducible refine LeO.bind ?_ (fun _ => ?_))
      | exact ih0 _ _ _ _
      | exact ih1 _ _ _ _ _ _
      | exact impl_ASPrefix.mono _ _ _ _
      | exact impl_ASSuffix.mono _ _ _ _
      | exact laws_asAwake.mono _
      | exact laws_asOnly.mono _ _
      | exact spec_ASPrefix.mono _ _ _
      | exact spec_ASSuffix.mono _ _ _
      | exact LeO.none _
      | refine LeO.ite ?_ ?_
      | refine LeO.bind ?_ (fun _ => ?_)
set_option maxHeartbeats 8000000 in
set_option maxRecDepth 100000 in
theorem laws_FnASEnds.calls (k : Nat) (A0 : Option Addr) (c0 : Nat) (l0 : List Int) (A1 : Option Addr) (c1 : Nat) (l1 : List Int) (a2 : Int) (r : Bool) (w : World) (hr0 : Kd.C (Kd.int .u8) w A0 l0.length l0) (hc0 : l0.length ≤ c0) (hr1 : Kd.C (Kd.int .u8) w A1 l1.length l1) (hc1 : l1.length ≤ c1) (h : laws_FnASEnds.f k l0 l1 a2 = some r) :
    Calls Try.prog 9 #[.slice A0 l0.length c0, .slice A1 l1.length c1, .int .u8 a2] w fun e w' => e = .returned (.bool r) ∧ Below w.heap.size w w' := by
  have HR0 := Aside0.mk hr0
  have HC0 := Aside0.mk hc0
  clear hr0 hc0
  have HR1 := Aside0.mk hr1
  have HC1 := Aside0.mk hc1
  clear hr1 hc1
  have HB := Aside0.mk (Below.refl w.heap.size w)
  have H : (if (l0.length : Int) > 2147483647 then (laws_FnASEnds.j0 k l0 l1 a2 true) else (laws_FnASEnds.j0 k l0 l1 a2 (decide ((l1.length : Int) > 2147483647)))) = some r := h
  clear h
  have HC4 := Aside0.mk H
  clear H
  go_enter Try.func9, Try.ntmps9
  go_upto_region 1 with (fail)
  go_cut [19] (fun v19 wc => ∃ (kq : Nat) (x19_3 : Bool), v19 = .bool x19_3 ∧ Aside0 (laws_FnASEnds.j0 kq l0 l1 a2 x19_3 = some r) ∧ Aside0 (kq ≤ k) ∧ Aside0 (Below w.heap.size w wc))
  case first =>
    have H := HC4.out
    clear HC4
    by_cases c5 : (l0.length : Int) > 2147483647
    · rw [if_pos c5] at H
      have c5b0 : decide (2147483647 < (l0.length : Int)) = true := decide_eq_true c5
      have c5b1 : decide (2147483647 < l0.length) = true := decide_eq_true (by omega)
      clear c5
      (first | rw [c5b0] | (simp only [i64_w, i32_w]; rw [c5b0]) | skip)
      have H' := Aside0.mk H
      clear H
      go_wp2
      go_meet
      case rel => exact ⟨_, (true), (by first | rfl | (simp; done) | (simp [*]; done)), H', ⟨by first | omega | exact Nat.le_refl _⟩, ⟨by repeat (first | (with_reducible first | exact HB.out | apply below_alloc | apply pw_below_drewN | apply below_drew1) | exact HB.out)⟩⟩
    · rw [if_neg c5] at H
      have c5b0 : decide (2147483647 < (l0.length : Int)) = false := decide_eq_false c5
      have c5b1 : decide (2147483647 < l0.length) = false := decide_eq_false (by omega)
      clear c5
      (first | rw [c5b0] | (simp only [i64_w, i32_w]; rw [c5b0]) | skip)
      have H' := Aside0.mk H
      clear H
      go_wp2
      go_meet
      case rel => exact ⟨_, (decide ((l1.length : Int) > 2147483647)), (by first | rfl | (simp; done) | (simp [*]; done)), H', ⟨by first | omega | exact Nat.le_refl _⟩, ⟨by repeat (first | (with_reducible first | exact HB.out | apply below_alloc | apply pw_below_drewN | apply below_drew1) | exact HB.out)⟩⟩
  case rest =>
    clear HC4
    try clear c1
    try clear p2
    try clear c5
    try clear c5b0
    try clear c5b1
    obtain ⟨kq, x19_3, rfl, HA, HJ3, HB⟩ := hcut
    cases kq with
    | zero => exact absurd HA.out (by simp [laws_FnASEnds.j0])
    | succ kj3 =>
      have H := HA.out
      clear HA
      simp only [laws_FnASEnds.j0] at H
      by_cases c6 : x19_3 = true
      · subst c6
        have H1 : (some true) = some r := by rw [if_pos rfl] at H; exact H
        clear H
        have H := H1
        clear H1
        obtain rfl := Option.some.inj H
        go_wp2
        go_ret
        exact ⟨by first | rfl | (simp [errW_none, errW_some] <;> rfl) | (simp [*, errW_none, errW_some] <;> rfl), by repeat (first | (with_reducible first | exact HB.out | apply below_alloc | apply pw_below_drewN | apply below_drew1) | exact HB.out)⟩
      · replace c6 := Bool.eq_false_iff.mpr c6
        subst c6
        have H1 : ((laws_asOnly.f kj3 l0).bind fun t171 => ((laws_asOnly.f kj3 l1).bind fun t174 => (if (wrap64 ((t171.length : Int) + 1)) = 0 then (none) else ((some (([false, true] : List Bool) : List Bool)).bind fun y177 => (laws_FnASEnds.l0 kj3 t171 t174 (Int.tmod (wrap64 (a2)) (wrap64 ((t171.length : Int) + 1))) y177 (y177.length : Int) 0))))) = some r := by rw [if_neg (show ¬ (false = true) by decide)] at H; exact H
        clear H
        have H := H1
        clear H1
        replace H := Option.bind_eq_some_iff.mp H
        obtain ⟨t171, A70, H⟩ := H
        replace H : ((laws_asOnly.f kj3 l1).bind fun t174 => (if (wrap64 ((t171.length : Int) + 1)) = 0 then (none) else ((some (([false, true] : List Bool) : List Bool)).bind fun y177 => (laws_FnASEnds.l0 kj3 t171 t174 (Int.tmod (wrap64 (a2)) (wrap64 ((t171.length : Int) + 1))) y177 (y177.length : Int) 0)))) = some r := H
        have A7 := Aside0.mk A70
        clear A70
        replace H := Option.bind_eq_some_iff.mp H
        obtain ⟨t174, A80, H⟩ := H
        replace H : (if (wrap64 ((t171.length : Int) + 1)) = 0 then (none) else ((some (([false, true] : List Bool) : List Bool)).bind fun y177 => (laws_FnASEnds.l0 kj3 t171 t174 (Int.tmod (wrap64 (a2)) (wrap64 ((t171.length : Int) + 1))) y177 (y177.length : Int) 0))) = some r := H
        have A8 := Aside0.mk A80
        clear A80
        by_cases c9 : (wrap64 ((t171.length : Int) + 1)) = 0
        · rw [if_pos c9] at H
          exact absurd H (by simp)
        · rw [if_neg c9] at H
          have c9b0 : ((wrap64 ((t171.length : Int) + 1)) == 0) = false := beq_eq_false_iff_ne.mpr c9
          have c9b1 : ((wrap64 ((t171.length : Int) + 1)) != 0) = true := bne_iff_ne.mpr c9
          obtain ⟨y177, hy177⟩ : ∃ y_ : List Bool, y_ = (([false, true] : List Bool)) := ⟨_, rfl⟩
          replace H : (laws_FnASEnds.l0 kj3 t171 t174 (Int.tmod (wrap64 (a2)) (wrap64 ((t171.length : Int) + 1))) y177 (y177.length : Int) 0) = some r := by first | (rw [hy177]; with_reducible exact H) | (have H2_ := (Option.bind_some _ _).symm.trans H; rw [hy177]; with_reducible exact H2_) | (have H2_ := (Option.bind_some _ _).symm.trans H; with_reducible exact H2_) | with_reducible exact H | (rw [hy177]; exact H) | exact H
          have Ny177 := Aside0.mk hy177
          clear hy177
          have H' := Aside0.mk H
          clear H
          go_wp2_with (first | ((with_reducible refine gate_callee (f := 18) rfl ?_); refine goesL_ (some 21) rfl rfl Try.func18 (by kernel_rfl) rfl #[.slice A0 l0.length c0] rfl (by (try simp only [List.map_toArray, List.map_cons, List.map_nil]); first | done | rfl | (simp only [List.length_drop, List.length_take]; rfl)) ?_; (with_reducible refine (laws_asOnly.calls kj3 _ _ l0 t171 _ ?side1 ?side2 A7.out).mono ?_); (case side1 => repeat (first | exact (Kd.C_below HR0.out HB.out) | (with_reducible refine Kd.C_alloc ?_ _) | (with_reducible refine Kd.C_drewN ?_ _) | (with_reducible refine Kd.C_drew ?_))); (case side2 => exact HC0.out); rintro e w10 ⟨v172, rfl, ho0, hb⟩; refine ⟨_, rfl, ?_⟩; have n0_ := Aside0.mk (Kd.R_lower ho0 (below_size (by repeat (first | (with_reducible first | exact HB.out | apply below_alloc | apply pw_below_drewN | apply below_drew1) | exact HB.out)))); have n1_ := Aside0.mk (below_step (by repeat (first | (with_reducible first | exact HB.out | apply below_alloc | apply pw_below_drewN | apply below_drew1) | exact HB.out)) hb); clear HB; have HO173 := n0_; have HB := n1_; clear n0_ n1_; (try clear hb); (try clear hb2); (try clear hk); (try clear hi); (try clear ho0)) | ((with_reducible refine gate_callee (f := 18) rfl ?_); refine goesL_ (some 23) rfl rfl Try.func18 (by kernel_rfl) rfl #[.slice A1 l1.length c1] rfl (by (try simp only [List.map_toArray, List.map_cons, List.map_nil]); first | done | rfl | (simp only [List.length_drop, List.length_take]; rfl)) ?_; (with_reducible refine (laws_asOnly.calls kj3 _ _ l1 t174 _ ?side1 ?side2 A8.out).mono ?_); (case side1 => repeat (first | exact (Kd.C_below HR1.out HB.out) | (with_reducible refine Kd.C_alloc ?_ _) | (with_reducible refine Kd.C_drewN ?_ _) | (with_reducible refine Kd.C_drew ?_))); (case side2 => exact HC1.out); rintro e w11 ⟨v175, rfl, ho0, hb⟩; refine ⟨_, rfl, ?_⟩; have n0_ := Aside0.mk (Kd.R_elder' (by (with_reducible repeat (first | apply Kd.R_alloc | apply Kd.R_drewN | apply Kd.R_drew)); exact HO173.out) (Kd.R_base ho0) hb); have n1_ := Aside0.mk (Kd.R_lower (Kd.R_new' ho0 (Kd.R_lt (by (with_reducible repeat (first | apply Kd.R_alloc | apply Kd.R_drewN | apply Kd.R_drew)); exact HO173.out))) (below_size (by repeat (first | (with_reducible first | exact HB.out | apply below_alloc | apply pw_below_drewN | apply below_drew1) | exact HB.out)))); have n2_ := Aside0.mk (below_step (by repeat (first | (with_reducible first | exact HB.out | apply below_alloc | apply pw_below_drewN | apply below_drew1) | exact HB.out)) hb); clear HO173; clear HB; have HO173 := n0_; have HO176 := n1_; have HB := n2_; clear n0_ n1_ n2_; (try clear hb); (try clear hb2); (try clear hk); (try clear hi); (try clear ho0); obtain ⟨Ao12, co12, eo12⟩ := Kd.R_slice HO173.out; subst eo12) | ((with_reducible refine gate_dst (N := 30) rfl ?_); (try (refine gate_guard (by rfl) ?_; dsimp only)); refine Kd.R_lit Kd.bool _ 4 ?hg (N := 30) ?hd (xs := ([false, true] : List Bool)) (inner := [.bool false, .bool true]) (ok := fun _ => True) (okp := fun _ => True) ?hr ?hp (fun _ hk => hk) trivial (Below.refl _ _) (Nat.le_refl _) (by simp) ?_; (case hd => rfl); (case hg => rfl); (case hr => first | (go_simp; done) | (go_simp; rfl)); (case hp => exact (Reps.one (show Kd.M Kd.bool _ _ _ false [.bool false] from rfl) (Reps.one (show Kd.M Kd.bool _ _ _ true [.bool true] from rfl) (Reps.none _ _)))); intro v178 w13 ho14 hb hg_ hnew_; clear hg_ hnew_; (first | rw [← Ny177.out] at ho14 | (simp only [Int.reduceToNat] at ho14; rw [← Ny177.out] at ho14)); have n0_ := Aside0.mk (Kd.R_below (by (with_reducible repeat (first | apply Kd.R_alloc | apply Kd.R_drewN | apply Kd.R_drew)); exact HO173.out) hb); have n1_ := Aside0.mk (Kd.R_below (by (with_reducible repeat (first | apply Kd.R_alloc | apply Kd.R_drewN | apply Kd.R_drew)); exact HO176.out) hb); have n2_ := Aside0.mk (Kd.R_lower ho14 (below_size (by repeat (first | (with_reducible first | exact HB.out | apply below_alloc | apply pw_below_drewN | apply below_drew1) | exact HB.out)))); have n3_ := Aside0.mk (below_step (by repeat (first | (with_reducible first | exact HB.out | apply below_alloc | apply pw_below_drewN | apply below_drew1) | exact HB.out)) hb); clear HO173; clear HO176; clear HB; have HO173 := n0_; have HO176 := n1_; have HO179 := n2_; have HB := n3_; clear n0_ n1_ n2_ n3_; clear hb ho14; obtain ⟨Ao15, co15, eo15⟩ := Kd.R_slice HO179.out; subst eo15))
          obtain ⟨jn, hjn⟩ : ∃ j_ : Int, (Int.tmod (wrap64 (a2)) (wrap64 ((t171.length : Int) + 1))) = j_ := ⟨_, rfl⟩
          rw [hjn] at H'
          rw [hjn]
          clear hjn
          go_loopg [32] kj3 (fun kq v32 w' => ∃ (x32_2 : Int), v32 = .int .i64 x32_2 ∧ Aside0 (laws_FnASEnds.l0 kq t171 t174 (jn) y177 (y177.length : Int) x32_2 = some r) ∧ Aside0 (kq ≤ kj3) ∧ Aside0 (Kd.R (Kd.int .u8) 5 w' w.heap.size (fun k_ => some k_ ≠ (v175 : Value).ownBlock) (.slice Ao12 t171.length co12) t171) ∧ Aside0 (Kd.R (Kd.int .u8) 5 w' w.heap.size (fun k_ => some k_ ≠ ((.slice Ao12 t171.length co12) : Value).ownBlock) v175 t174) ∧ Aside0 (Kd.R Kd.bool 4 w' w.heap.size (fun _ => True) (.slice Ao15 y177.length co15) y177) ∧ Aside0 (Below w.heap.size w w'))
          case atStart => exact ⟨(0), (by first | rfl | (simp; done) | (simp [*]; done)), H', ⟨Nat.le_refl _⟩, ⟨by (with_reducible repeat (first | apply Kd.R_alloc | apply Kd.R_drewN | apply Kd.R_drew)); exact Kd.R_mono HO173.out (fun _ hk => hk.2)⟩, ⟨by (with_reducible repeat (first | apply Kd.R_alloc | apply Kd.R_drewN | apply Kd.R_drew)); exact Kd.R_mono HO176.out (fun _ hk => hk.2)⟩, ⟨by (with_reducible repeat (first | apply Kd.R_alloc | apply Kd.R_drewN | apply Kd.R_drew)); exact HO179.out⟩, ⟨by repeat (first | (with_reducible first | exact HB.out | apply below_alloc | apply pw_below_drewN | apply below_drew1) | exact HB.out)⟩⟩
          case round =>
            clear H'
            try clear c1
            try clear p2
            try clear c5
            try clear c5b0
            try clear c5b1
            try clear c6
            try clear p6
            try clear c9
            try clear c9b0
            try clear c9b1
            try clear p2
            obtain ⟨x32_2, rfl, HA, HK2, HO_7, HO_8, HO_30, HB⟩ := hrel
            cases gk with
            | zero => exact absurd HA.out (by simp [laws_FnASEnds.l0])
            | succ k2 =>
              have H := HA.out
              clear HA
              simp only [laws_FnASEnds.l0] at H
              by_cases c16 : x32_2 < (y177.length : Int)
              · rw [if_pos c16] at H
                have c16b0 : decide (x32_2 < (y177.length : Int)) = true := decide_eq_true c16
                clear c16
                by_cases c17 : 0 ≤ x32_2
                · rw [if_pos c17] at H
                  have c17b0 : decide (0 ≤ x32_2) = true := decide_eq_true c17
                  clear c17
                  by_cases c18 : x32_2 < (y177.length : Int)
                  · rw [if_pos c18] at H
                    have c18b0 : decide (x32_2 < (y177.length : Int)) = true := decide_eq_true c18
                    clear c18
                    replace H := Option.bind_eq_some_iff.mp H
                    obtain ⟨t182, A190, H⟩ := H
                    replace H : ((spec_ASPrefix.f k2 t171 t174).bind fun t183 => (if (t182 != t183) = true then (some false) else ((impl_ASSuffix.f k2 t171 t174 (rdOf false y177 x32_2)).bind fun t184 => ((spec_ASSuffix.f k2 t171 t174).bind fun t185 => (if (t184 != t185) = true then (some false) else (if 0 ≤ (jn) then (if (jn) ≤ (t171.length : Int) then ((impl_ASPrefix.f k2 t171 (t171.take ((jn) : Int).toNat) (rdOf false y177 x32_2)).bind fun t190 => (if t190 = true then ((impl_ASSuffix.f k2 t171 (t171.drop ((jn) : Int).toNat) (rdOf false y177 x32_2)).bind fun t195 => (if t195 = true then (laws_FnASEnds.l0 k2 t171 t174 (jn) y177 (y177.length : Int) (wrap64 (x32_2 + 1))) else (some false))) else (some false))) else (none)) else (none))))))) = some r := H
                    have A19 := Aside0.mk A190
                    clear A190
                    replace H := Option.bind_eq_some_iff.mp H
                    obtain ⟨t183, A200, H⟩ := H
                    replace H : (if (t182 != t183) = true then (some false) else ((impl_ASSuffix.f k2 t171 t174 (rdOf false y177 x32_2)).bind fun t184 => ((spec_ASSuffix.f k2 t171 t174).bind fun t185 => (if (t184 != t185) = true then (some false) else (if 0 ≤ (jn) then (if (jn) ≤ (t171.length : Int) then ((impl_ASPrefix.f k2 t171 (t171.take ((jn) : Int).toNat) (rdOf false y177 x32_2)).bind fun t190 => (if t190 = true then ((impl_ASSuffix.f k2 t171 (t171.drop ((jn) : Int).toNat) (rdOf false y177 x32_2)).bind fun t195 => (if t195 = true then (laws_FnASEnds.l0 k2 t171 t174 (jn) y177 (y177.length : Int) (wrap64 (x32_2 + 1))) else (some false))) else (some false))) else (none)) else (none)))))) = some r := H
                    have A20 := Aside0.mk A200
                    clear A200
                    by_cases c21 : (t182 != t183) = true
                    · rw [if_pos c21] at H
                      have c21b0 : (t182 != t183) = true := c21
                      (try (have c21b1 : decide (t182 = t183) = false := by simpa using c21))
                      (try (have c21b2 : (t182 == t183) = false := by simpa using c21))
                      (try (have c21b3 : ¬ (t182 = t183) := by simpa using c21))
                      clear c21
                      obtain rfl := Option.some.inj H
                      have p181 : 0 ≤ (x32_2 : Int) := of_decide_eq_true (by first | (with_reducible assumption) | assumption)
                      have q181 : x32_2 < (y177.length : Int) := of_decide_eq_true (by first | (with_reducible assumption) | assumption)
                      obtain ⟨ad181, e181, hx181_0⟩ := Kd.at_bool (Kd.R_reads' HO_30.out).2.2 x32_2 p181 q181
                      cases e181
                      replace p181 := eq_true p181
                      replace q181 := eq_true q181
                      obtain ⟨Ao22, co22, eo22⟩ := Kd.R_slice HO_8.out
                      subst eo22
                      go_wp2_with (first | ((with_reducible refine gate_callee (f := 29) rfl ?_); refine goesL_ (some 39) rfl rfl Try.func29 (by kernel_rfl) rfl #[.slice Ao12 t171.length co12, .slice Ao22 t174.length co22, .bool (rdOf false y177 x32_2)] rfl (by (try simp only [List.map_toArray, List.map_cons, List.map_nil]); first | done | rfl | (simp only [List.length_drop, List.length_take]; rfl)) ?_; (with_reducible refine (impl_ASPrefix.calls k2 _ _ t171 _ _ t174 (rdOf false y177 x32_2) t182 _ ?side1 ?side2 ?side3 ?side4 A19.out).mono ?_); (case side1 => repeat (first | exact (Kd.R_reads' HO_7.out).2.2 | (with_reducible refine Kd.C_alloc ?_ _) | (with_reducible refine Kd.C_drewN ?_ _) | (with_reducible refine Kd.C_drew ?_))); (case side2 => exact (Kd.R_reads' HO_7.out).2.1); (case side3 => repeat (first | exact (Kd.R_reads' HO_8.out).2.2 | (with_reducible refine Kd.C_alloc ?_ _) | (with_reducible refine Kd.C_drewN ?_ _) | (with_reducible refine Kd.C_drew ?_))); (case side4 => exact (Kd.R_reads' HO_8.out).2.1); rintro e w' ⟨rfl, ⟨nd, rfl⟩⟩; refine ⟨_, rfl, ?_⟩) | ((with_reducible refine gate_callee (f := 30) rfl ?_); refine goesL_ (some 42) rfl rfl Try.func30 (by kernel_rfl) rfl #[.slice Ao12 t171.length co12, .slice Ao22 t174.length co22] rfl (by (try simp only [List.map_toArray, List.map_cons, List.map_nil]); first | done | rfl | (simp only [List.length_drop, List.length_take]; rfl)) ?_; (with_reducible refine (spec_ASPrefix.calls k2 _ _ t171 _ _ t174 t183 _ ?side1 ?side2 ?side3 ?side4 A20.out).mono ?_); (case side1 => repeat (first | exact (Kd.R_reads' HO_7.out).2.2 | (with_reducible refine Kd.C_alloc ?_ _) | (with_reducible refine Kd.C_drewN ?_ _) | (with_reducible refine Kd.C_drew ?_))); (case side2 => exact (Kd.R_reads' HO_7.out).2.1); (case side3 => repeat (first | exact (Kd.R_reads' HO_8.out).2.2 | (with_reducible refine Kd.C_alloc ?_ _) | (with_reducible refine Kd.C_drewN ?_ _) | (with_reducible refine Kd.C_drew ?_))); (case side4 => exact (Kd.R_reads' HO_8.out).2.1); rintro e w' ⟨rfl, ⟨nd, rfl⟩⟩; refine ⟨_, rfl, ?_⟩))
                      go_ret
                      exact ⟨by first | rfl | (simp [errW_none, errW_some] <;> rfl) | (simp [*, errW_none, errW_some] <;> rfl), by repeat (first | (with_reducible first | exact HB.out | apply below_alloc | apply pw_below_drewN | apply below_drew1) | exact HB.out)⟩
                    · rw [if_neg c21] at H
                      have c21b0 : (t182 != t183) = false := by simpa using c21
                      (try (have c21b1 : decide (t182 = t183) = true := by simpa using c21))
                      (try (have c21b2 : (t182 == t183) = true := by simpa using c21))
                      clear c21
                      replace H := Option.bind_eq_some_iff.mp H
                      obtain ⟨t184, A230, H⟩ := H
                      replace H : ((spec_ASSuffix.f k2 t171 t174).bind fun t185 => (if (t184 != t185) = true then (some false) else (if 0 ≤ (jn) then (if (jn) ≤ (t171.length : Int) then ((impl_ASPrefix.f k2 t171 (t171.take ((jn) : Int).toNat) (rdOf false y177 x32_2)).bind fun t190 => (if t190 = true then ((impl_ASSuffix.f k2 t171 (t171.drop ((jn) : Int).toNat) (rdOf false y177 x32_2)).bind fun t195 => (if t195 = true then (laws_FnASEnds.l0 k2 t171 t174 (jn) y177 (y177.length : Int) (wrap64 (x32_2 + 1))) else (some false))) else (some false))) else (none)) else (none)))) = some r := H
                      have A23 := Aside0.mk A230
                      clear A230
                      replace H := Option.bind_eq_some_iff.mp H
                      obtain ⟨t185, A240, H⟩ := H
                      replace H : (if (t184 != t185) = true then (some false) else (if 0 ≤ (jn) then (if (jn) ≤ (t171.length : Int) then ((impl_ASPrefix.f k2 t171 (t171.take ((jn) : Int).toNat) (rdOf false y177 x32_2)).bind fun t190 => (if t190 = true then ((impl_ASSuffix.f k2 t171 (t171.drop ((jn) : Int).toNat) (rdOf false y177 x32_2)).bind fun t195 => (if t195 = true then (laws_FnASEnds.l0 k2 t171 t174 (jn) y177 (y177.length : Int) (wrap64 (x32_2 + 1))) else (some false))) else (some false))) else (none)) else (none))) = some r := H
                      have A24 := Aside0.mk A240
                      clear A240
                      by_cases c25 : (t184 != t185) = true
                      · rw [if_pos c25] at H
                        have c25b0 : (t184 != t185) = true := c25
                        (try (have c25b1 : decide (t184 = t185) = false := by simpa using c25))
                        (try (have c25b2 : (t184 == t185) = false := by simpa using c25))
                        (try (have c25b3 : ¬ (t184 = t185) := by simpa using c25))
                        clear c25
                        obtain rfl := Option.some.inj H
                        have p181 : 0 ≤ (x32_2 : Int) := of_decide_eq_true (by first | (with_reducible assumption) | assumption)
                        have q181 : x32_2 < (y177.length : Int) := of_decide_eq_true (by first | (with_reducible assumption) | assumption)
                        obtain ⟨ad181, e181, hx181_0⟩ := Kd.at_bool (Kd.R_reads' HO_30.out).2.2 x32_2 p181 q181
                        cases e181
                        replace p181 := eq_true p181
                        replace q181 := eq_true q181
                        obtain ⟨Ao26, co26, eo26⟩ := Kd.R_slice HO_8.out
                        subst eo26
                        go_wp2_with (first | ((with_reducible refine gate_callee (f := 29) rfl ?_); refine goesL_ (some 39) rfl rfl Try.func29 (by kernel_rfl) rfl #[.slice Ao12 t171.length co12, .slice Ao26 t174.length co26, .bool (rdOf false y177 x32_2)] rfl (by (try simp only [List.map_toArray, List.map_cons, List.map_nil]); first | done | rfl | (simp only [List.length_drop, List.length_take]; rfl)) ?_; (with_reducible refine (impl_ASPrefix.calls k2 _ _ t171 _ _ t174 (rdOf false y177 x32_2) t182 _ ?side1 ?side2 ?side3 ?side4 A19.out).mono ?_); (case side1 => repeat (first | exact (Kd.R_reads' HO_7.out).2.2 | (with_reducible refine Kd.C_alloc ?_ _) | (with_reducible refine Kd.C_drewN ?_ _) | (with_reducible refine Kd.C_drew ?_))); (case side2 => exact (Kd.R_reads' HO_7.out).2.1); (case side3 => repeat (first | exact (Kd.R_reads' HO_8.out).2.2 | (with_reducible refine Kd.C_alloc ?_ _) | (with_reducible refine Kd.C_drewN ?_ _) | (with_reducible refine Kd.C_drew ?_))); (case side4 => exact (Kd.R_reads' HO_8.out).2.1); rintro e w' ⟨rfl, ⟨nd, rfl⟩⟩; refine ⟨_, rfl, ?_⟩) | ((with_reducible refine gate_callee (f := 30) rfl ?_); refine goesL_ (some 42) rfl rfl Try.func30 (by kernel_rfl) rfl #[.slice Ao12 t171.length co12, .slice Ao26 t174.length co26] rfl (by (try simp only [List.map_toArray, List.map_cons, List.map_nil]); first | done | rfl | (simp only [List.length_drop, List.length_take]; rfl)) ?_; (with_reducible refine (spec_ASPrefix.calls k2 _ _ t171 _ _ t174 t183 _ ?side1 ?side2 ?side3 ?side4 A20.out).mono ?_); (case side1 => repeat (first | exact (Kd.R_reads' HO_7.out).2.2 | (with_reducible refine Kd.C_alloc ?_ _) | (with_reducible refine Kd.C_drewN ?_ _) | (with_reducible refine Kd.C_drew ?_))); (case side2 => exact (Kd.R_reads' HO_7.out).2.1); (case side3 => repeat (first | exact (Kd.R_reads' HO_8.out).2.2 | (with_reducible refine Kd.C_alloc ?_ _) | (with_reducible refine Kd.C_drewN ?_ _) | (with_reducible refine Kd.C_drew ?_))); (case side4 => exact (Kd.R_reads' HO_8.out).2.1); rintro e w' ⟨rfl, ⟨nd, rfl⟩⟩; refine ⟨_, rfl, ?_⟩) | (go_at_call 31; (with_reducible refine (impl_ASSuffix.calls k2 _ _ t171 _ _ t174 (rdOf false y177 x32_2) t184 _ ?side1 ?side2 ?side3 ?side4 A23.out).mono ?_); (case side1 => repeat (first | exact (Kd.R_reads' HO_7.out).2.2 | (with_reducible refine Kd.C_alloc ?_ _) | (with_reducible refine Kd.C_drewN ?_ _) | (with_reducible refine Kd.C_drew ?_))); (case side2 => exact (Kd.R_reads' HO_7.out).2.1); (case side3 => repeat (first | exact (Kd.R_reads' HO_8.out).2.2 | (with_reducible refine Kd.C_alloc ?_ _) | (with_reducible refine Kd.C_drewN ?_ _) | (with_reducible refine Kd.C_drew ?_))); (case side4 => exact (Kd.R_reads' HO_8.out).2.1); rintro e w' ⟨rfl, ⟨nd, rfl⟩⟩) | (go_at_call 32; (with_reducible refine (spec_ASSuffix.calls k2 _ _ t171 _ _ t174 t185 _ ?side1 ?side2 ?side3 ?side4 A24.out).mono ?_); (case side1 => repeat (first | exact (Kd.R_reads' HO_7.out).2.2 | (with_reducible refine Kd.C_alloc ?_ _) | (with_reducible refine Kd.C_drewN ?_ _) | (with_reducible refine Kd.C_drew ?_))); (case side2 => exact (Kd.R_reads' HO_7.out).2.1); (case side3 => repeat (first | exact (Kd.R_reads' HO_8.out).2.2 | (with_reducible refine Kd.C_alloc ?_ _) | (with_reducible refine Kd.C_drewN ?_ _) | (with_reducible refine Kd.C_drew ?_))); (case side4 => exact (Kd.R_reads' HO_8.out).2.1); rintro e w' ⟨rfl, ⟨nd, rfl⟩⟩))
                        go_ret
                        exact ⟨by first | rfl | (simp [errW_none, errW_some] <;> rfl) | (simp [*, errW_none, errW_some] <;> rfl), by repeat (first | (with_reducible first | exact HB.out | apply below_alloc | apply pw_below_drewN | apply below_drew1) | exact HB.out)⟩
                      · rw [if_neg c25] at H
                        have c25b0 : (t184 != t185) = false := by simpa using c25
                        (try (have c25b1 : decide (t184 = t185) = true := by simpa using c25))
                        (try (have c25b2 : (t184 == t185) = true := by simpa using c25))
                        clear c25
                        by_cases c28 : 0 ≤ (jn)
                        · rw [if_pos c28] at H
                          have c28b0 := eq_true c28
                          have c28b1 : decide (0 ≤ (jn)) = true := decide_eq_true c28
                          clear c28
                          by_cases c29 : (jn) ≤ (t171.length : Int)
                          · rw [if_pos c29] at H
                            have c29b0 := eq_true c29
                            have c29b1 : decide ((jn) ≤ (t171.length : Int)) = true := decide_eq_true c29
                            clear c29
                            obtain ⟨y186, hy186⟩ : ∃ y_ : List Int, y_ = (t171.take ((jn) : Int).toNat) := ⟨_, rfl⟩
                            replace H : ((impl_ASPrefix.f k2 t171 y186 (rdOf false y177 x32_2)).bind fun t190 => (if t190 = true then ((impl_ASSuffix.f k2 t171 (t171.drop ((jn) : Int).toNat) (rdOf false y177 x32_2)).bind fun t195 => (if t195 = true then (laws_FnASEnds.l0 k2 t171 t174 (jn) y177 (y177.length : Int) (wrap64 (x32_2 + 1))) else (some false))) else (some false))) = some r := by first | (rw [hy186]; with_reducible exact H) | (have H2_ := (Option.bind_some _ _).symm.trans H; rw [hy186]; with_reducible exact H2_) | (have H2_ := (Option.bind_some _ _).symm.trans H; with_reducible exact H2_) | with_reducible exact H | (rw [hy186]; exact H) | exact H
                            have Ny186 := Aside0.mk hy186
                            clear hy186
                            replace H := Option.bind_eq_some_iff.mp H
                            obtain ⟨t190, A300, H⟩ := H
                            replace H : (if t190 = true then ((impl_ASSuffix.f k2 t171 (t171.drop ((jn) : Int).toNat) (rdOf false y177 x32_2)).bind fun t195 => (if t195 = true then (laws_FnASEnds.l0 k2 t171 t174 (jn) y177 (y177.length : Int) (wrap64 (x32_2 + 1))) else (some false))) else (some false)) = some r := H
                            have A30 := Aside0.mk A300
                            clear A300
                            by_cases c31 : t190 = true
                            · subst c31
                              have H1 : ((impl_ASSuffix.f k2 t171 (t171.drop ((jn) : Int).toNat) (rdOf false y177 x32_2)).bind fun t195 => (if t195 = true then (laws_FnASEnds.l0 k2 t171 t174 (jn) y177 (y177.length : Int) (wrap64 (x32_2 + 1))) else (some false))) = some r := by rw [if_pos rfl] at H; exact H
                              clear H
                              have H := H1
                              clear H1
                              have c32b0 := eq_true (of_decide_eq_true (by first | (with_reducible assumption) | assumption) : 0 ≤ (jn))
                              have c33b0 := eq_true (of_decide_eq_true (by first | (with_reducible assumption) | assumption) : (jn) ≤ (t171.length : Int))
                              obtain ⟨y191, hy191⟩ : ∃ y_ : List Int, y_ = (t171.drop ((jn) : Int).toNat) := ⟨_, rfl⟩
                              replace H : ((impl_ASSuffix.f k2 t171 y191 (rdOf false y177 x32_2)).bind fun t195 => (if t195 = true then (laws_FnASEnds.l0 k2 t171 t174 (jn) y177 (y177.length : Int) (wrap64 (x32_2 + 1))) else (some false))) = some r := by first | (rw [hy191]; with_reducible exact H) | (have H2_ := (Option.bind_some _ _).symm.trans H; rw [hy191]; with_reducible exact H2_) | (have H2_ := (Option.bind_some _ _).symm.trans H; with_reducible exact H2_) | with_reducible exact H | (rw [hy191]; exact H) | exact H
                              have Ny191 := Aside0.mk hy191
                              clear hy191
                              replace H := Option.bind_eq_some_iff.mp H
                              obtain ⟨t195, A340, H⟩ := H
                              replace H : (if t195 = true then (laws_FnASEnds.l0 k2 t171 t174 (jn) y177 (y177.length : Int) (wrap64 (x32_2 + 1))) else (some false)) = some r := H
                              have A34 := Aside0.mk A340
                              clear A340
                              by_cases c35 : t195 = true
                              · subst c35
                                have H1 : (laws_FnASEnds.l0 k2 t171 t174 (jn) y177 (y177.length : Int) (wrap64 (x32_2 + 1))) = some r := by rw [if_pos rfl] at H; exact H
                                clear H
                                have H := H1
                                clear H1
                                have H' := Aside0.mk H
                                clear H
                                have p181 : 0 ≤ (x32_2 : Int) := of_decide_eq_true (by first | (with_reducible assumption) | assumption)
                                have q181 : x32_2 < (y177.length : Int) := of_decide_eq_true (by first | (with_reducible assumption) | assumption)
                                obtain ⟨ad181, e181, hx181_0⟩ := Kd.at_bool (Kd.R_reads' HO_30.out).2.2 x32_2 p181 q181
                                cases e181
                                replace p181 := eq_true p181
                                replace q181 := eq_true q181
                                obtain ⟨Ao36, co36, eo36⟩ := Kd.R_slice HO_8.out
                                subst eo36
                                go_wp2_with (first | ((with_reducible refine gate_callee (f := 29) rfl ?_); refine goesL_ (some 39) rfl rfl Try.func29 (by kernel_rfl) rfl #[.slice Ao12 t171.length co12, .slice Ao36 t174.length co36, .bool (rdOf false y177 x32_2)] rfl (by (try simp only [List.map_toArray, List.map_cons, List.map_nil]); first | done | rfl | (simp only [List.length_drop, List.length_take]; rfl)) ?_; (with_reducible refine (impl_ASPrefix.calls k2 _ _ t171 _ _ t174 (rdOf false y177 x32_2) t182 _ ?side1 ?side2 ?side3 ?side4 A19.out).mono ?_); (case side1 => repeat (first | exact (Kd.R_reads' HO_7.out).2.2 | (with_reducible refine Kd.C_alloc ?_ _) | (with_reducible refine Kd.C_drewN ?_ _) | (with_reducible refine Kd.C_drew ?_))); (case side2 => exact (Kd.R_reads' HO_7.out).2.1); (case side3 => repeat (first | exact (Kd.R_reads' HO_8.out).2.2 | (with_reducible refine Kd.C_alloc ?_ _) | (with_reducible refine Kd.C_drewN ?_ _) | (with_reducible refine Kd.C_drew ?_))); (case side4 => exact (Kd.R_reads' HO_8.out).2.1); rintro e w' ⟨rfl, ⟨nd, rfl⟩⟩; refine ⟨_, rfl, ?_⟩) | ((with_reducible refine gate_callee (f := 30) rfl ?_); refine goesL_ (some 42) rfl rfl Try.func30 (by kernel_rfl) rfl #[.slice Ao12 t171.length co12, .slice Ao36 t174.length co36] rfl (by (try simp only [List.map_toArray, List.map_cons, List.map_nil]); first | done | rfl | (simp only [List.length_drop, List.length_take]; rfl)) ?_; (with_reducible refine (spec_ASPrefix.calls k2 _ _ t171 _ _ t174 t183 _ ?side1 ?side2 ?side3 ?side4 A20.out).mono ?_); (case side1 => repeat (first | exact (Kd.R_reads' HO_7.out).2.2 | (with_reducible refine Kd.C_alloc ?_ _) | (with_reducible refine Kd.C_drewN ?_ _) | (with_reducible refine Kd.C_drew ?_))); (case side2 => exact (Kd.R_reads' HO_7.out).2.1); (case side3 => repeat (first | exact (Kd.R_reads' HO_8.out).2.2 | (with_reducible refine Kd.C_alloc ?_ _) | (with_reducible refine Kd.C_drewN ?_ _) | (with_reducible refine Kd.C_drew ?_))); (case side4 => exact (Kd.R_reads' HO_8.out).2.1); rintro e w' ⟨rfl, ⟨nd, rfl⟩⟩; refine ⟨_, rfl, ?_⟩) | (go_at_call 31; (with_reducible refine (impl_ASSuffix.calls k2 _ _ t171 _ _ t174 (rdOf false y177 x32_2) t184 _ ?side1 ?side2 ?side3 ?side4 A23.out).mono ?_); (case side1 => repeat (first | exact (Kd.R_reads' HO_7.out).2.2 | (with_reducible refine Kd.C_alloc ?_ _) | (with_reducible refine Kd.C_drewN ?_ _) | (with_reducible refine Kd.C_drew ?_))); (case side2 => exact (Kd.R_reads' HO_7.out).2.1); (case side3 => repeat (first | exact (Kd.R_reads' HO_8.out).2.2 | (with_reducible refine Kd.C_alloc ?_ _) | (with_reducible refine Kd.C_drewN ?_ _) | (with_reducible refine Kd.C_drew ?_))); (case side4 => exact (Kd.R_reads' HO_8.out).2.1); rintro e w' ⟨rfl, ⟨nd, rfl⟩⟩) | (go_at_call 32; (with_reducible refine (spec_ASSuffix.calls k2 _ _ t171 _ _ t174 t185 _ ?side1 ?side2 ?side3 ?side4 A24.out).mono ?_); (case side1 => repeat (first | exact (Kd.R_reads' HO_7.out).2.2 | (with_reducible refine Kd.C_alloc ?_ _) | (with_reducible refine Kd.C_drewN ?_ _) | (with_reducible refine Kd.C_drew ?_))); (case side2 => exact (Kd.R_reads' HO_7.out).2.1); (case side3 => repeat (first | exact (Kd.R_reads' HO_8.out).2.2 | (with_reducible refine Kd.C_alloc ?_ _) | (with_reducible refine Kd.C_drewN ?_ _) | (with_reducible refine Kd.C_drew ?_))); (case side4 => exact (Kd.R_reads' HO_8.out).2.1); rintro e w' ⟨rfl, ⟨nd, rfl⟩⟩; have q37 : ((jn) : Int) ≤ ((t171.length : Int) : Int) := of_decide_eq_true (by first | (with_reducible assumption) | assumption); obtain ⟨i037, hi037, _, hsz37, _⟩ := info_parts info5; have hroom37 : t171.length ≤ co12 := (Kd.R_reads' HO_7.out).2.1; have hC37 : Kd.C (Kd.int .u8) _ Ao12 t171.length t171 := (Kd.R_reads' HO_7.out).2.2; have hcut37 := cut_to (P := Try.prog) 31 5 .i64 Try.underlying31 hi037 Ao12 t171.length co12 (jn) (of_decide_eq_true (by first | (with_reducible assumption) | assumption)) q37 hroom37; have hr37 := Kd.C_take (m := ((jn) : Int).toNat) hC37 (by omega); have hy37 : y186.length = ((jn) : Int).toNat := (by rw [Ny186.out, List.length_take]; omega); rw [← Ny186.out] at hr37; rw [← hy37] at hcut37; have HR189 := Aside0.mk hr37; have HC189 := Aside0.mk (show y186.length ≤ co12 from by omega); clear hr37 hC37 hroom37 hi037 hsz37; have KY37 := Aside0.mk hy37; clear hy37; have KL37 := Aside0.mk (show ((jn) : Int).toNat ≤ t171.length from by omega); replace q37 := eq_true q37) | (go_at_call 29; (with_reducible refine (impl_ASPrefix.calls k2 _ _ t171 _ _ y186 (rdOf false y177 x32_2) true _ ?side1 ?side2 ?side3 ?side4 A30.out).mono ?_); (case side1 => repeat (first | exact (Kd.R_reads' HO_7.out).2.2 | (with_reducible refine Kd.C_alloc ?_ _) | (with_reducible refine Kd.C_drewN ?_ _) | (with_reducible refine Kd.C_drew ?_))); (case side2 => exact (Kd.R_reads' HO_7.out).2.1); (case side3 => repeat (first | exact (by repeat (first | (with_reducible exact HR189.out) | (with_reducible refine Kd.C_alloc ?_ _) | (with_reducible refine Kd.C_drewN ?_ _) | (with_reducible refine Kd.C_drew ?_) | exact HR189.out)) | (with_reducible refine Kd.C_alloc ?_ _) | (with_reducible refine Kd.C_drewN ?_ _) | (with_reducible refine Kd.C_drew ?_))); (case side4 => exact HC189.out); rintro e w' ⟨rfl, ⟨nd, rfl⟩⟩; have q38 : ((jn) : Int) ≤ ((t171.length : Int) : Int) := of_decide_eq_true (by first | (with_reducible assumption) | assumption); obtain ⟨i038, hi038, _, hsz38, _⟩ := info_parts info5; have hroom38 : t171.length ≤ co12 := (Kd.R_reads' HO_7.out).2.1; have hC38 : Kd.C (Kd.int .u8) _ Ao12 t171.length t171 := (Kd.R_reads' HO_7.out).2.2; have q038 : (0 : Int) ≤ ((jn) : Int) := of_decide_eq_true (by first | (with_reducible assumption) | assumption); have hcut38 := cut_from (P := Try.prog) 31 5 .i64 Try.underlying31 hi038 1 hsz38 Ao12 t171.length co12 (jn) q038 q38; have hr38 := Kd.C_drop (m := ((jn) : Int).toNat) (c := co12) hC38 (by omega) hroom38; obtain ⟨A38, hA38⟩ : ∃ A1, A1 = (if co12 = ((jn) : Int).toNat then Ao12 else (Ao12 : Option Addr).map (·.add (((jn) : Int).toNat * 1))) := ⟨_, rfl⟩; obtain ⟨c38, hc38⟩ : ∃ c1, c1 = co12 - ((jn) : Int).toNat := ⟨_, rfl⟩; have hy38 : y191.length = t171.length - ((jn) : Int).toNat := (by rw [Ny191.out, List.length_drop] <;> omega); rw [show (t171).drop ((jn) : Int).toNat = y191 from Ny191.out.symm] at hr38; replace hr38 : Kd.C (Kd.int .u8) _ A38 y191.length y191 := (by rw [hA38]; exact hr38); rw [← hy38, ← hA38, ← hc38] at hcut38; have HR194 := Aside0.mk hr38; have HC194 := Aside0.mk (show y191.length ≤ c38 from by rw [hy38, hc38]; exact Nat.sub_le_sub_right hroom38 _); clear hr38 hC38 hroom38 hi038 hsz38 hc38; have KY38 := Aside0.mk hy38; have KA38 := Aside0.mk hA38; clear hy38 hA38; have KL38 := Aside0.mk (show ((jn) : Int).toNat ≤ t171.length from by omega); replace q38 := eq_true q38) | (go_at_call 31; (with_reducible refine (impl_ASSuffix.calls k2 _ _ t171 _ _ y191 (rdOf false y177 x32_2) true _ ?side1 ?side2 ?side3 ?side4 A34.out).mono ?_); (case side1 => repeat (first | exact (Kd.R_reads' HO_7.out).2.2 | (with_reducible refine Kd.C_alloc ?_ _) | (with_reducible refine Kd.C_drewN ?_ _) | (with_reducible refine Kd.C_drew ?_))); (case side2 => exact (Kd.R_reads' HO_7.out).2.1); (case side3 => repeat (first | exact (by repeat (first | (with_reducible exact HR194.out) | (with_reducible refine Kd.C_alloc ?_ _) | (with_reducible refine Kd.C_drewN ?_ _) | (with_reducible refine Kd.C_drew ?_) | exact HR194.out)) | (with_reducible refine Kd.C_alloc ?_ _) | (with_reducible refine Kd.C_drewN ?_ _) | (with_reducible refine Kd.C_drew ?_))); (case side4 => exact HC194.out); rintro e w' ⟨rfl, ⟨nd, rfl⟩⟩))
                                go_roundg k2
                                case measure => have := HJ3.out; have := HK2.out; omega
                                case rel => exact ⟨(wrap64 (x32_2 + 1)), (by first | rfl | (simp; done) | (simp [*]; done)), H', ⟨by have := HJ3.out; have := HK2.out; omega⟩, ⟨by (with_reducible repeat (first | apply Kd.R_alloc | apply Kd.R_drewN | apply Kd.R_drew)); exact HO_7.out⟩, ⟨by (with_reducible repeat (first | apply Kd.R_alloc | apply Kd.R_drewN | apply Kd.R_drew)); exact HO_8.out⟩, ⟨by (with_reducible repeat (first | apply Kd.R_alloc | apply Kd.R_drewN | apply Kd.R_drew)); exact HO_30.out⟩, ⟨by repeat (first | (with_reducible first | exact HB.out | apply below_alloc | apply pw_below_drewN | apply below_drew1) | exact HB.out)⟩⟩
                              · replace c35 := Bool.eq_false_iff.mpr c35
                                subst c35
                                have H1 : (some false) = some r := by rw [if_neg (show ¬ (false = true) by decide)] at H; exact H
                                clear H
                                have H := H1
                                clear H1
                                obtain rfl := Option.some.inj H
                                have p181 : 0 ≤ (x32_2 : Int) := of_decide_eq_true (by first | (with_reducible assumption) | assumption)
                                have q181 : x32_2 < (y177.length : Int) := of_decide_eq_true (by first | (with_reducible assumption) | assumption)
                                obtain ⟨ad181, e181, hx181_0⟩ := Kd.at_bool (Kd.R_reads' HO_30.out).2.2 x32_2 p181 q181
                                cases e181
                                replace p181 := eq_true p181
                                replace q181 := eq_true q181
                                obtain ⟨Ao39, co39, eo39⟩ := Kd.R_slice HO_8.out
                                subst eo39
                                go_wp2_with (first | ((with_reducible refine gate_callee (f := 29) rfl ?_); refine goesL_ (some 39) rfl rfl Try.func29 (by kernel_rfl) rfl #[.slice Ao12 t171.length co12, .slice Ao39 t174.length co39, .bool (rdOf false y177 x32_2)] rfl (by (try simp only [List.map_toArray, List.map_cons, List.map_nil]); first | done | rfl | (simp only [List.length_drop, List.length_take]; rfl)) ?_; (with_reducible refine (impl_ASPrefix.calls k2 _ _ t171 _ _ t174 (rdOf false y177 x32_2) t182 _ ?side1 ?side2 ?side3 ?side4 A19.out).mono ?_); (case side1 => repeat (first | exact (Kd.R_reads' HO_7.out).2.2 | (with_reducible refine Kd.C_alloc ?_ _) | (with_reducible refine Kd.C_drewN ?_ _) | (with_reducible refine Kd.C_drew ?_))); (case side2 => exact (Kd.R_reads' HO_7.out).2.1); (case side3 => repeat (first | exact (Kd.R_reads' HO_8.out).2.2 | (with_reducible refine Kd.C_alloc ?_ _) | (with_reducible refine Kd.C_drewN ?_ _) | (with_reducible refine Kd.C_drew ?_))); (case side4 => exact (Kd.R_reads' HO_8.out).2.1); rintro e w' ⟨rfl, ⟨nd, rfl⟩⟩; refine ⟨_, rfl, ?_⟩) | ((with_reducible refine gate_callee (f := 30) rfl ?_); refine goesL_ (some 42) rfl rfl Try.func30 (by kernel_rfl) rfl #[.slice Ao12 t171.length co12, .slice Ao39 t174.length co39] rfl (by (try simp only [List.map_toArray, List.map_cons, List.map_nil]); first | done | rfl | (simp only [List.length_drop, List.length_take]; rfl)) ?_; (with_reducible refine (spec_ASPrefix.calls k2 _ _ t171 _ _ t174 t183 _ ?side1 ?side2 ?side3 ?side4 A20.out).mono ?_); (case side1 => repeat (first | exact (Kd.R_reads' HO_7.out).2.2 | (with_reducible refine Kd.C_alloc ?_ _) | (with_reducible refine Kd.C_drewN ?_ _) | (with_reducible refine Kd.C_drew ?_))); (case side2 => exact (Kd.R_reads' HO_7.out).2.1); (case side3 => repeat (first | exact (Kd.R_reads' HO_8.out).2.2 | (with_reducible refine Kd.C_alloc ?_ _) | (with_reducible refine Kd.C_drewN ?_ _) | (with_reducible refine Kd.C_drew ?_))); (case side4 => exact (Kd.R_reads' HO_8.out).2.1); rintro e w' ⟨rfl, ⟨nd, rfl⟩⟩; refine ⟨_, rfl, ?_⟩) | (go_at_call 31; (with_reducible refine (impl_ASSuffix.calls k2 _ _ t171 _ _ t174 (rdOf false y177 x32_2) t184 _ ?side1 ?side2 ?side3 ?side4 A23.out).mono ?_); (case side1 => repeat (first | exact (Kd.R_reads' HO_7.out).2.2 | (with_reducible refine Kd.C_alloc ?_ _) | (with_reducible refine Kd.C_drewN ?_ _) | (with_reducible refine Kd.C_drew ?_))); (case side2 => exact (Kd.R_reads' HO_7.out).2.1); (case side3 => repeat (first | exact (Kd.R_reads' HO_8.out).2.2 | (with_reducible refine Kd.C_alloc ?_ _) | (with_reducible refine Kd.C_drewN ?_ _) | (with_reducible refine Kd.C_drew ?_))); (case side4 => exact (Kd.R_reads' HO_8.out).2.1); rintro e w' ⟨rfl, ⟨nd, rfl⟩⟩) | (go_at_call 32; (with_reducible refine (spec_ASSuffix.calls k2 _ _ t171 _ _ t174 t185 _ ?side1 ?side2 ?side3 ?side4 A24.out).mono ?_); (case side1 => repeat (first | exact (Kd.R_reads' HO_7.out).2.2 | (with_reducible refine Kd.C_alloc ?_ _) | (with_reducible refine Kd.C_drewN ?_ _) | (with_reducible refine Kd.C_drew ?_))); (case side2 => exact (Kd.R_reads' HO_7.out).2.1); (case side3 => repeat (first | exact (Kd.R_reads' HO_8.out).2.2 | (with_reducible refine Kd.C_alloc ?_ _) | (with_reducible refine Kd.C_drewN ?_ _) | (with_reducible refine Kd.C_drew ?_))); (case side4 => exact (Kd.R_reads' HO_8.out).2.1); rintro e w' ⟨rfl, ⟨nd, rfl⟩⟩; have q40 : ((jn) : Int) ≤ ((t171.length : Int) : Int) := of_decide_eq_true (by first | (with_reducible assumption) | assumption); obtain ⟨i040, hi040, _, hsz40, _⟩ := info_parts info5; have hroom40 : t171.length ≤ co12 := (Kd.R_reads' HO_7.out).2.1; have hC40 : Kd.C (Kd.int .u8) _ Ao12 t171.length t171 := (Kd.R_reads' HO_7.out).2.2; have hcut40 := cut_to (P := Try.prog) 31 5 .i64 Try.underlying31 hi040 Ao12 t171.length co12 (jn) (of_decide_eq_true (by first | (with_reducible assumption) | assumption)) q40 hroom40; have hr40 := Kd.C_take (m := ((jn) : Int).toNat) hC40 (by omega); have hy40 : y186.length = ((jn) : Int).toNat := (by rw [Ny186.out, List.length_take]; omega); rw [← Ny186.out] at hr40; rw [← hy40] at hcut40; have HR189 := Aside0.mk hr40; have HC189 := Aside0.mk (show y186.length ≤ co12 from by omega); clear hr40 hC40 hroom40 hi040 hsz40; have KY40 := Aside0.mk hy40; clear hy40; have KL40 := Aside0.mk (show ((jn) : Int).toNat ≤ t171.length from by omega); replace q40 := eq_true q40) | (go_at_call 29; (with_reducible refine (impl_ASPrefix.calls k2 _ _ t171 _ _ y186 (rdOf false y177 x32_2) true _ ?side1 ?side2 ?side3 ?side4 A30.out).mono ?_); (case side1 => repeat (first | exact (Kd.R_reads' HO_7.out).2.2 | (with_reducible refine Kd.C_alloc ?_ _) | (with_reducible refine Kd.C_drewN ?_ _) | (with_reducible refine Kd.C_drew ?_))); (case side2 => exact (Kd.R_reads' HO_7.out).2.1); (case side3 => repeat (first | exact (by repeat (first | (with_reducible exact HR189.out) | (with_reducible refine Kd.C_alloc ?_ _) | (with_reducible refine Kd.C_drewN ?_ _) | (with_reducible refine Kd.C_drew ?_) | exact HR189.out)) | (with_reducible refine Kd.C_alloc ?_ _) | (with_reducible refine Kd.C_drewN ?_ _) | (with_reducible refine Kd.C_drew ?_))); (case side4 => exact HC189.out); rintro e w' ⟨rfl, ⟨nd, rfl⟩⟩; have q41 : ((jn) : Int) ≤ ((t171.length : Int) : Int) := of_decide_eq_true (by first | (with_reducible assumption) | assumption); obtain ⟨i041, hi041, _, hsz41, _⟩ := info_parts info5; have hroom41 : t171.length ≤ co12 := (Kd.R_reads' HO_7.out).2.1; have hC41 : Kd.C (Kd.int .u8) _ Ao12 t171.length t171 := (Kd.R_reads' HO_7.out).2.2; have q041 : (0 : Int) ≤ ((jn) : Int) := of_decide_eq_true (by first | (with_reducible assumption) | assumption); have hcut41 := cut_from (P := Try.prog) 31 5 .i64 Try.underlying31 hi041 1 hsz41 Ao12 t171.length co12 (jn) q041 q41; have hr41 := Kd.C_drop (m := ((jn) : Int).toNat) (c := co12) hC41 (by omega) hroom41; obtain ⟨A41, hA41⟩ : ∃ A1, A1 = (if co12 = ((jn) : Int).toNat then Ao12 else (Ao12 : Option Addr).map (·.add (((jn) : Int).toNat * 1))) := ⟨_, rfl⟩; obtain ⟨c41, hc41⟩ : ∃ c1, c1 = co12 - ((jn) : Int).toNat := ⟨_, rfl⟩; have hy41 : y191.length = t171.length - ((jn) : Int).toNat := (by rw [Ny191.out, List.length_drop] <;> omega); rw [show (t171).drop ((jn) : Int).toNat = y191 from Ny191.out.symm] at hr41; replace hr41 : Kd.C (Kd.int .u8) _ A41 y191.length y191 := (by rw [hA41]; exact hr41); rw [← hy41, ← hA41, ← hc41] at hcut41; have HR194 := Aside0.mk hr41; have HC194 := Aside0.mk (show y191.length ≤ c41 from by rw [hy41, hc41]; exact Nat.sub_le_sub_right hroom41 _); clear hr41 hC41 hroom41 hi041 hsz41 hc41; have KY41 := Aside0.mk hy41; have KA41 := Aside0.mk hA41; clear hy41 hA41; have KL41 := Aside0.mk (show ((jn) : Int).toNat ≤ t171.length from by omega); replace q41 := eq_true q41) | (go_at_call 31; (with_reducible refine (impl_ASSuffix.calls k2 _ _ t171 _ _ y191 (rdOf false y177 x32_2) false _ ?side1 ?side2 ?side3 ?side4 A34.out).mono ?_); (case side1 => repeat (first | exact (Kd.R_reads' HO_7.out).2.2 | (with_reducible refine Kd.C_alloc ?_ _) | (with_reducible refine Kd.C_drewN ?_ _) | (with_reducible refine Kd.C_drew ?_))); (case side2 => exact (Kd.R_reads' HO_7.out).2.1); (case side3 => repeat (first | exact (by repeat (first | (with_reducible exact HR194.out) | (with_reducible refine Kd.C_alloc ?_ _) | (with_reducible refine Kd.C_drewN ?_ _) | (with_reducible refine Kd.C_drew ?_) | exact HR194.out)) | (with_reducible refine Kd.C_alloc ?_ _) | (with_reducible refine Kd.C_drewN ?_ _) | (with_reducible refine Kd.C_drew ?_))); (case side4 => exact HC194.out); rintro e w' ⟨rfl, ⟨nd, rfl⟩⟩))
                                go_ret
                                exact ⟨by first | rfl | (simp [errW_none, errW_some] <;> rfl) | (simp only [← hji27]; first | rfl | (simp [errW_none, errW_some] <;> rfl)) | (simp [*, errW_none, errW_some] <;> rfl), by repeat (first | (with_reducible first | exact HB.out | apply below_alloc | apply pw_below_drewN | apply below_drew1) | exact HB.out)⟩
                            · replace c31 := Bool.eq_false_iff.mpr c31
                              subst c31
                              have H1 : (some false) = some r := by rw [if_neg (show ¬ (false = true) by decide)] at H; exact H
                              clear H
                              have H := H1
                              clear H1
                              obtain rfl := Option.some.inj H
                              have p181 : 0 ≤ (x32_2 : Int) := of_decide_eq_true (by first | (with_reducible assumption) | assumption)
                              have q181 : x32_2 < (y177.length : Int) := of_decide_eq_true (by first | (with_reducible assumption) | assumption)
                              obtain ⟨ad181, e181, hx181_0⟩ := Kd.at_bool (Kd.R_reads' HO_30.out).2.2 x32_2 p181 q181
                              cases e181
                              replace p181 := eq_true p181
                              replace q181 := eq_true q181
                              obtain ⟨Ao42, co42, eo42⟩ := Kd.R_slice HO_8.out
                              subst eo42
                              go_wp2_with (first | ((with_reducible refine gate_callee (f := 29) rfl ?_); refine goesL_ (some 39) rfl rfl Try.func29 (by kernel_rfl) rfl #[.slice Ao12 t171.length co12, .slice Ao42 t174.length co42, .bool (rdOf false y177 x32_2)] rfl (by (try simp only [List.map_toArray, List.map_cons, List.map_nil]); first | done | rfl | (simp only [List.length_drop, List.length_take]; rfl)) ?_; (with_reducible refine (impl_ASPrefix.calls k2 _ _ t171 _ _ t174 (rdOf false y177 x32_2) t182 _ ?side1 ?side2 ?side3 ?side4 A19.out).mono ?_); (case side1 => repeat (first | exact (Kd.R_reads' HO_7.out).2.2 | (with_reducible refine Kd.C_alloc ?_ _) | (with_reducible refine Kd.C_drewN ?_ _) | (with_reducible refine Kd.C_drew ?_))); (case side2 => exact (Kd.R_reads' HO_7.out).2.1); (case side3 => repeat (first | exact (Kd.R_reads' HO_8.out).2.2 | (with_reducible refine Kd.C_alloc ?_ _) | (with_reducible refine Kd.C_drewN ?_ _) | (with_reducible refine Kd.C_drew ?_))); (case side4 => exact (Kd.R_reads' HO_8.out).2.1); rintro e w' ⟨rfl, ⟨nd, rfl⟩⟩; refine ⟨_, rfl, ?_⟩) | ((with_reducible refine gate_callee (f := 30) rfl ?_); refine goesL_ (some 42) rfl rfl Try.func30 (by kernel_rfl) rfl #[.slice Ao12 t171.length co12, .slice Ao42 t174.length co42] rfl (by (try simp only [List.map_toArray, List.map_cons, List.map_nil]); first | done | rfl | (simp only [List.length_drop, List.length_take]; rfl)) ?_; (with_reducible refine (spec_ASPrefix.calls k2 _ _ t171 _ _ t174 t183 _ ?side1 ?side2 ?side3 ?side4 A20.out).mono ?_); (case side1 => repeat (first | exact (Kd.R_reads' HO_7.out).2.2 | (with_reducible refine Kd.C_alloc ?_ _) | (with_reducible refine Kd.C_drewN ?_ _) | (with_reducible refine Kd.C_drew ?_))); (case side2 => exact (Kd.R_reads' HO_7.out).2.1); (case side3 => repeat (first | exact (Kd.R_reads' HO_8.out).2.2 | (with_reducible refine Kd.C_alloc ?_ _) | (with_reducible refine Kd.C_drewN ?_ _) | (with_reducible refine Kd.C_drew ?_))); (case side4 => exact (Kd.R_reads' HO_8.out).2.1); rintro e w' ⟨rfl, ⟨nd, rfl⟩⟩; refine ⟨_, rfl, ?_⟩) | (go_at_call 31; (with_reducible refine (impl_ASSuffix.calls k2 _ _ t171 _ _ t174 (rdOf false y177 x32_2) t184 _ ?side1 ?side2 ?side3 ?side4 A23.out).mono ?_); (case side1 => repeat (first | exact (Kd.R_reads' HO_7.out).2.2 | (with_reducible refine Kd.C_alloc ?_ _) | (with_reducible refine Kd.C_drewN ?_ _) | (with_reducible refine Kd.C_drew ?_))); (case side2 => exact (Kd.R_reads' HO_7.out).2.1); (case side3 => repeat (first | exact (Kd.R_reads' HO_8.out).2.2 | (with_reducible refine Kd.C_alloc ?_ _) | (with_reducible refine Kd.C_drewN ?_ _) | (with_reducible refine Kd.C_drew ?_))); (case side4 => exact (Kd.R_reads' HO_8.out).2.1); rintro e w' ⟨rfl, ⟨nd, rfl⟩⟩) | (go_at_call 32; (with_reducible refine (spec_ASSuffix.calls k2 _ _ t171 _ _ t174 t185 _ ?side1 ?side2 ?side3 ?side4 A24.out).mono ?_); (case side1 => repeat (first | exact (Kd.R_reads' HO_7.out).2.2 | (with_reducible refine Kd.C_alloc ?_ _) | (with_reducible refine Kd.C_drewN ?_ _) | (with_reducible refine Kd.C_drew ?_))); (case side2 => exact (Kd.R_reads' HO_7.out).2.1); (case side3 => repeat (first | exact (Kd.R_reads' HO_8.out).2.2 | (with_reducible refine Kd.C_alloc ?_ _) | (with_reducible refine Kd.C_drewN ?_ _) | (with_reducible refine Kd.C_drew ?_))); (case side4 => exact (Kd.R_reads' HO_8.out).2.1); rintro e w' ⟨rfl, ⟨nd, rfl⟩⟩; have q43 : ((jn) : Int) ≤ ((t171.length : Int) : Int) := of_decide_eq_true (by first | (with_reducible assumption) | assumption); obtain ⟨i043, hi043, _, hsz43, _⟩ := info_parts info5; have hroom43 : t171.length ≤ co12 := (Kd.R_reads' HO_7.out).2.1; have hC43 : Kd.C (Kd.int .u8) _ Ao12 t171.length t171 := (Kd.R_reads' HO_7.out).2.2; have hcut43 := cut_to (P := Try.prog) 31 5 .i64 Try.underlying31 hi043 Ao12 t171.length co12 (jn) (of_decide_eq_true (by first | (with_reducible assumption) | assumption)) q43 hroom43; have hr43 := Kd.C_take (m := ((jn) : Int).toNat) hC43 (by omega); have hy43 : y186.length = ((jn) : Int).toNat := (by rw [Ny186.out, List.length_take]; omega); rw [← Ny186.out] at hr43; rw [← hy43] at hcut43; have HR189 := Aside0.mk hr43; have HC189 := Aside0.mk (show y186.length ≤ co12 from by omega); clear hr43 hC43 hroom43 hi043 hsz43; have KY43 := Aside0.mk hy43; clear hy43; have KL43 := Aside0.mk (show ((jn) : Int).toNat ≤ t171.length from by omega); replace q43 := eq_true q43) | (go_at_call 29; (with_reducible refine (impl_ASPrefix.calls k2 _ _ t171 _ _ y186 (rdOf false y177 x32_2) false _ ?side1 ?side2 ?side3 ?side4 A30.out).mono ?_); (case side1 => repeat (first | exact (Kd.R_reads' HO_7.out).2.2 | (with_reducible refine Kd.C_alloc ?_ _) | (with_reducible refine Kd.C_drewN ?_ _) | (with_reducible refine Kd.C_drew ?_))); (case side2 => exact (Kd.R_reads' HO_7.out).2.1); (case side3 => repeat (first | exact (by repeat (first | (with_reducible exact HR189.out) | (with_reducible refine Kd.C_alloc ?_ _) | (with_reducible refine Kd.C_drewN ?_ _) | (with_reducible refine Kd.C_drew ?_) | exact HR189.out)) | (with_reducible refine Kd.C_alloc ?_ _) | (with_reducible refine Kd.C_drewN ?_ _) | (with_reducible refine Kd.C_drew ?_))); (case side4 => exact HC189.out); rintro e w' ⟨rfl, ⟨nd, rfl⟩⟩))
                              go_ret
                              exact ⟨by first | rfl | (simp [errW_none, errW_some] <;> rfl) | (simp only [← hji27]; first | rfl | (simp [errW_none, errW_some] <;> rfl)) | (simp [*, errW_none, errW_some] <;> rfl), by repeat (first | (with_reducible first | exact HB.out | apply below_alloc | apply pw_below_drewN | apply below_drew1) | exact HB.out)⟩
                          · rw [if_neg c29] at H
                            exact absurd H (by simp)
                        · rw [if_neg c28] at H
                          exact absurd H (by simp)
                  · rw [if_neg c18] at H
                    exact absurd H (by simp)
                · rw [if_neg c17] at H
                  exact absurd H (by simp)
              · rw [if_neg c16] at H
                have c16b0 : decide (x32_2 < (y177.length : Int)) = false := decide_eq_false c16
                clear c16
                replace H := Option.bind_eq_some_iff.mp H
                obtain ⟨t180, A440, H⟩ := H
                replace H : (some t180) = some r := H
                have A44 := Aside0.mk A440
                clear A440
                obtain rfl := Option.some.inj H
                go_wp2_with (first | ((with_reducible refine gate_callee (f := 21) rfl ?_); refine goesL_ (some 73) rfl rfl Try.func21 (by kernel_rfl) rfl #[] rfl (by (try simp only [List.map_toArray, List.map_cons, List.map_nil]); first | done | rfl | (simp only [List.length_drop, List.length_take]; rfl)) ?_; (with_reducible refine (laws_asAwake.calls k2  t180 _ A44.out).mono ?_); rintro e w45 ⟨rfl, hb⟩; refine ⟨_, rfl, ?_⟩; have n0_ := Aside0.mk (Kd.R_below (by (with_reducible repeat (first | apply Kd.R_alloc | apply Kd.R_drewN | apply Kd.R_drew)); exact HO_7.out) hb); have n1_ := Aside0.mk (Kd.R_below (by (with_reducible repeat (first | apply Kd.R_alloc | apply Kd.R_drewN | apply Kd.R_drew)); exact HO_8.out) hb); have n2_ := Aside0.mk (Kd.R_below (by (with_reducible repeat (first | apply Kd.R_alloc | apply Kd.R_drewN | apply Kd.R_drew)); exact HO_30.out) hb); have n3_ := Aside0.mk (below_step (by repeat (first | (with_reducible first | exact HB.out | apply below_alloc | apply pw_below_drewN | apply below_drew1) | exact HB.out)) hb); clear HO_7; clear HO_8; clear HO_30; clear HB; have HO_7 := n0_; have HO_8 := n1_; have HO_30 := n2_; have HB := n3_; clear n0_ n1_ n2_ n3_; (try clear hb); (try clear hb2); (try clear hk); (try clear hi)))
                go_ret
                exact ⟨by first | rfl | (simp [errW_none, errW_some] <;> rfl) | (simp [*, errW_none, errW_some] <;> rfl), by repeat (first | (with_reducible first | exact HB.out | apply below_alloc | apply pw_below_drewN | apply below_drew1) | exact HB.out)⟩

/-- THE ONE PURE STATEMENT of laws_FnASEnds: yours. -/
def laws_FnASEnds.Pure : Prop := ∀ (l0 : List Int) (l1 : List Int) (a2 : Int), l0.length ≤ maxLen → l0.length * 1 ≤ 140737488351232 → (∀ x ∈ l0, (Lit.int .u8 x).wf = true) → l1.length ≤ maxLen → l1.length * 1 ≤ 140737488351232 → (∀ x ∈ l1, (Lit.int .u8 x).wf = true) → (Lit.int .u8 a2).wf = true → ∃ k, laws_FnASEnds.f k l0 l1 a2 = some true
theorem laws_FnASEnds.walk (P : laws_FnASEnds.Pure) (a0 : Option Addr) (len0 cap0 : Nat) (z0 : List Int) (a1 : Option Addr) (len1 cap1 : Nat) (z1 : List Int) (a2 : Int) (w : World) (w0 : (a0 = none ∧ len0 = 0 ∧ cap0 = 0 ∧ z0 = []) ∨ ∃ x, a0 = some x ∧ len0 ≤ cap0 ∧ cap0 ≤ maxLen ∧ z0.length = cap0 ∧ (∀ i, i < z0.length → w.cell? (x.add i) = some (.int .u8 (z0.getD i 0))) ∧ ∀ n ∈ z0, (Lit.int .u8 n).wf = true) (y0 : len0 * 1 ≤ 140737488351232) (w1 : (a1 = none ∧ len1 = 0 ∧ cap1 = 0 ∧ z1 = []) ∨ ∃ x, a1 = some x ∧ len1 ≤ cap1 ∧ cap1 ≤ maxLen ∧ z1.length = cap1 ∧ (∀ i, i < z1.length → w.cell? (x.add i) = some (.int .u8 (z1.getD i 0))) ∧ ∀ n ∈ z1, (Lit.int .u8 n).wf = true) (y1 : len1 * 1 ≤ 140737488351232) (w2 : (Lit.int .u8 a2).wf = true) :
    Calls Try.prog 9 #[.slice a0 len0 cap0, .slice a1 len1 cap1, .int .u8 a2] w fun e w' => e = .returned (.bool true) ∧ Below w.heap.size w w' := by
  obtain ⟨l0, rfl, hr0, hm0, hw0, hc0⟩ := ReadsInt.ofRowC w0
  obtain ⟨l1, rfl, hr1, hm1, hw1, hc1⟩ := ReadsInt.ofRowC w1
  obtain ⟨k, h⟩ := P l0 l1 a2 hm0 y0 hw0 hm1 y1 hw1 w2
  refine (laws_FnASEnds.calls k _ _ l0 _ _ l1 a2 true w (Kd.C_of_reads (d := (0 : Int)) (h1 := fun _ => rfl) hr0) hc0 (Kd.C_of_reads (d := (0 : Int)) (h1 := fun _ => rfl) hr1) hc1 h).mono ?_
  rintro e w' ⟨rfl, hd⟩
  exact ⟨rfl, hd⟩

end Go.Proofs.Ytmhngpihkaignaa.PFnASEnds
