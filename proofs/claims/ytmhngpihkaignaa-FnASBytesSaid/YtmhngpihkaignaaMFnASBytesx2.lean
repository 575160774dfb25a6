/- Written by mend.py (wip/) out of the print's text of this law: the functions of the law from 'asAwake' on, each with what it comes to; with no condition. -/
import Derived.Test.YtmhngpihkaignaaPFnASBytesx0
import Derived.Test.YtmhngpihkaignaaPFnASBytesx1
import Derived.Test.YtmhngpihkaignaaOwnMark
namespace Go.Proofs.Ytmhngpihkaignaa.PFnASBytes
open Go.Proofs.Ytmhngpihkaignaa.OwnMark Go.RowKit Go.Proofs.YtmhngpihkaignaaW.PrintWords Go.Proofs.YtmhngpihkaignaaW.PrintLast Go.Proofs.YtmhngpihkaignaaW.PrintMore
attribute [local go_sem] max2_int min2_int max_two min_two max_three min_three max_four min_four   -- for this text's walks alone
set_option linter.unusedVariables false
set_option linter.unusedSimpArgs false

/-! ### impl_ASPrint: function 25 -/
def impl_ASPrint.f (k : Nat) (l0 : List Int) (a1 : Bool) : Option (Bool) := if a1 = true then ((ascii_ValidPrintString_47.f k (strOfNums l0)).bind fun t118 => (some t118)) else ((ascii_ValidPrint_48.f k l0).bind fun t119 => (some t119))
theorem impl_ASPrint.mono : ∀ a0 a1 k, LeO (impl_ASPrint.f k a0 a1) (impl_ASPrint.f (k + 1) a0 a1) := by
  intro a0 a1 k
  unfold impl_ASPrint.f
  repeat' first
      | (with_reducible exact ascii_ValidPrintString_47.mono _ _)
      | (with_reducible exact ascii_ValidPrint_48.mono _ _)
      | (with_reducible exact LeO.refl _)
      | (with_reducible exact LeO.none _)
      | (with_reducible refine LeO.ite ?_ ?_)
      | (with_reducible refine LeO.bind ?_ (fun _ => ?_))
      | exact ascii_ValidPrintString_47.mono _ _
      | exact ascii_ValidPrint_48.mono _ _
      | exact LeO.none _
      | refine LeO.ite ?_ ?_
      | refine LeO.bind ?_ (fun _ => ?_)
set_option maxHeartbeats 8000000 in
set_option maxRecDepth 100000 in
theorem impl_ASPrint.calls (k : Nat) (A0 : Option Addr) (c0 : Nat) (l0 : List Int) (a1 : Bool) (r : Bool) (w : World) (hr0 : Kd.C (Kd.int .u8) w A0 l0.length l0) (hc0 : l0.length ≤ c0) (h : impl_ASPrint.f k l0 a1 = some r) :
    Calls Try.prog 25 #[.slice A0 l0.length c0, .bool a1] w fun e w' => e = .returned (.bool r) ∧ Drawn0 w w' := by
  have HR0 := Aside0.mk hr0
  have HC0 := Aside0.mk hc0
  clear hr0 hc0
  have H : (if a1 = true then ((ascii_ValidPrintString_47.f k (strOfNums l0)).bind fun t118 => (some t118)) else ((ascii_ValidPrint_48.f k l0).bind fun t119 => (some t119))) = some r := h
  clear h
  by_cases c3 : a1 = true
  · subst c3
    have H1 : ((ascii_ValidPrintString_47.f k (strOfNums l0)).bind fun t118 => (some t118)) = some r := by rw [if_pos rfl] at H; exact H
    clear H
    have H := H1
    clear H1
    replace H := Option.bind_eq_some_iff.mp H
    obtain ⟨t118, A40, H⟩ := H
    replace H : (some t118) = some r := H
    have A4 := Aside0.mk A40
    clear A40
    obtain rfl := Option.some.inj H
    have hcv5 := Kd.C_string (P := Try.prog) (A := A0) (c := c0) Try.underlying31 Try.underlying5 Try.underlying9 HR0.out
    go_enter Try.func25, Try.ntmps25
    go_wp2_with (first | ((with_reducible refine gate_callee (f := 47) rfl ?_); refine goesL_ (some 8) rfl rfl Try.func47 (by kernel_rfl) rfl #[.string (strOfNums l0)] rfl (by (try simp only [List.map_toArray, List.map_cons, List.map_nil]); first | done | rfl | (simp only [List.length_drop, List.length_take]; rfl)) ?_; (with_reducible refine (ascii_ValidPrintString_47.calls k (strOfNums l0) t118 _ A4.out).mono ?_); rintro e w' ⟨rfl, ⟨nd, rfl⟩⟩; refine ⟨_, rfl, ?_⟩))
    go_ret
    exact ⟨by first | rfl | (simp; done) | (simp [*]; done), by repeat (first | exact Drawn0.refl _ | apply Drawn0.step)⟩
  · replace c3 := Bool.eq_false_iff.mpr c3
    subst c3
    have H1 : ((ascii_ValidPrint_48.f k l0).bind fun t119 => (some t119)) = some r := by rw [if_neg (show ¬ (false = true) by decide)] at H; exact H
    clear H
    have H := H1
    clear H1
    replace H := Option.bind_eq_some_iff.mp H
    obtain ⟨t119, A60, H⟩ := H
    replace H : (some t119) = some r := H
    have A6 := Aside0.mk A60
    clear A60
    obtain rfl := Option.some.inj H
    go_enter Try.func25, Try.ntmps25
    go_wp2_with (first | ((with_reducible refine gate_callee (f := 48) rfl ?_); refine goesL_ (some 10) rfl rfl Try.func48 (by kernel_rfl) rfl #[.slice A0 l0.length c0] rfl (by (try simp only [List.map_toArray, List.map_cons, List.map_nil]); first | done | rfl | (simp only [List.length_drop, List.length_take]; rfl)) ?_; (with_reducible refine (ascii_ValidPrint_48.calls k _ _ l0 t119 _ ?side1 ?side2 A6.out).mono ?_); (case side1 => repeat (first | exact HR0.out | (with_reducible refine Kd.C_alloc ?_ _) | (with_reducible refine Kd.C_drewN ?_ _) | (with_reducible refine Kd.C_drew ?_))); (case side2 => exact HC0.out); rintro e w' ⟨rfl, ⟨nd, rfl⟩⟩; refine ⟨_, rfl, ?_⟩))
    go_ret
    exact ⟨by first | rfl | (simp; done) | (simp [*]; done), by repeat (first | exact Drawn0.refl _ | apply Drawn0.step)⟩

/-! ### laws_asAwake: function 21 -/
def laws_asAwake.f (k : Nat)  : Option (Bool) := (impl_ASValid.f k (([97, 98, 99] : List Int)) true).bind fun t123 => (if t123 = true then ((impl_ASValid.f k (([97, 98, 255] : List Int)) false).bind fun t127 => (if t127 = true then (some false) else ((impl_ASFold.f k (([97, 66] : List Int)) (([65, 98] : List Int)) false).bind fun t134 => (if t134 = true then ((impl_ASPrint.f k (([97, 32, 98] : List Int)) false).bind fun t138 => (some t138)) else (some false))))) else (some false))
theorem laws_asAwake.mono : ∀ k, LeO (laws_asAwake.f k ) (laws_asAwake.f (k + 1) ) := by
  intro  k
  unfold laws_asAwake.f
  repeat' first
      | (with_reducible exact impl_ASFold.mono _ _ _ _)
      | (with_reducible exact impl_ASPrint.mono _ _ _)
      | (with_reducible exact impl_ASValid.mono _ _ _)
      | (with_reducible exact LeO.refl _)
      | (with_reducible exact LeO.none _)
      | (with_reducible refine LeO.ite ?_ ?_)
      | (with_reducible refine LeO.bind ?_ (fun _ => ?_))
      | exact impl_ASFold.mono _ _ _ _
      | exact impl_ASPrint.mono _ _ _
      | exact impl_ASValid.mono _ _ _
      | exact LeO.none _
      | refine LeO.ite ?_ ?_
      | refine LeO.bind ?_ (fun _ => ?_)
theorem awake_true (k : Nat) (r : Bool) (h : laws_asAwake.f k = some r) : r = true := by
  have h6 : laws_asAwake.f 6 = some true := by decide +kernel
  have up : ∀ n, laws_asAwake.f (6 + n) = some true := by
    intro n; induction n with
    | zero => exact h6
    | succ n ih => exact laws_asAwake.mono (6 + n) _ ih
  have up2 : ∀ n, laws_asAwake.f (k + n) = some r := by
    intro n; induction n with
    | zero => exact h
    | succ n ih => exact laws_asAwake.mono (k + n) _ ih
  have e := up k; rw [Nat.add_comm, up2 6] at e; injection e
set_option maxHeartbeats 8000000 in
set_option maxRecDepth 100000 in
theorem laws_asAwake.calls (k : Nat) (r : Bool) (w : World) (h : laws_asAwake.f k = some r) :
    Calls Try.prog 21 #[] w fun e w' => e = .returned (.bool r) ∧ Below w.heap.size w w' := by
  obtain rfl := awake_true k r h
  clear h
  have HB := Aside0.mk (Below.refl w.heap.size w)
  obtain ⟨y0, N0⟩ : ∃ y : List Int, Aside0 (y = [97, 98, 99]) := ⟨_, ⟨rfl⟩⟩
  obtain ⟨y1, N1⟩ : ∃ y : List Int, Aside0 (y = [97, 98, 255]) := ⟨_, ⟨rfl⟩⟩
  obtain ⟨y2, N2⟩ : ∃ y : List Int, Aside0 (y = [97, 66]) := ⟨_, ⟨rfl⟩⟩
  obtain ⟨y3, N3⟩ : ∃ y : List Int, Aside0 (y = [65, 98]) := ⟨_, ⟨rfl⟩⟩
  obtain ⟨y4, N4⟩ : ∃ y : List Int, Aside0 (y = [97, 32, 98]) := ⟨_, ⟨rfl⟩⟩
  have Fa0 : Aside0 (impl_ASValid.f 6 y0 true = some true) := ⟨by rw [N0.out]; decide +kernel⟩
  have Fa1 : Aside0 (impl_ASValid.f 6 y1 false = some false) := ⟨by rw [N1.out]; decide +kernel⟩
  have Fa2 : Aside0 (impl_ASFold.f 6 y2 y3 false = some true) := ⟨by rw [N2.out, N3.out]; decide +kernel⟩
  have Fa3 : Aside0 (impl_ASPrint.f 6 y4 false = some true) := ⟨by rw [N4.out]; decide +kernel⟩
  go_enter Try.func21, Try.ntmps21
  go_wp2_with (first | ((with_reducible refine gate_dst (N := 1) rfl ?_); (try (refine gate_guard (by rfl) ?_; dsimp only)); refine mark_lit (xs := y0) (w0 := w) Try.underlying31 Try.underlying5 (by rw [N0.out]; simp) (by rw [N0.out]; simp) ?hg (N := 1) ?hd (by repeat (first | (with_reducible first | exact HB.out | apply below_alloc | apply pw_below_drewN | apply below_drew1) | exact HB.out)) ?hr ?_; (case hd => rfl); (case hg => rfl); (case hr => rw [N0.out]; first | (go_simp; done) | (go_simp; rfl)); intro A0 c0 w1 w0 hcv0 hC hle hb hB2; have HC0 := Aside0.mk hC; have HL0 := Aside0.mk hle; clear HB; have HB := Aside0.mk hB2; clear hB2 hb hC hle) | (go_at_call 23; (with_reducible refine (impl_ASValid.calls 6 _ _ y0 true true _ ?s0 ?s1 Fa0.out).mono ?_); (case s0 => repeat (first | exact HC0.out | (with_reducible refine Kd.C_alloc ?_ _) | (with_reducible refine Kd.C_drewN ?_ _) | (with_reducible refine Kd.C_drew ?_))); (case s1 => exact HL0.out); rintro e w' ⟨rfl, ⟨nd, rfl⟩⟩) | ((with_reducible refine gate_dst (N := 5) rfl ?_); (try (refine gate_guard (by rfl) ?_; dsimp only)); refine mark_lit (xs := y1) (w0 := w) Try.underlying31 Try.underlying5 (by rw [N1.out]; simp) (by rw [N1.out]; simp) ?hg (N := 5) ?hd (by repeat (first | (with_reducible first | exact HB.out | apply below_alloc | apply pw_below_drewN | apply below_drew1) | exact HB.out)) ?hr ?_; (case hd => rfl); (case hg => rfl); (case hr => rw [N1.out]; first | (go_simp; done) | (go_simp; rfl)); intro A1 c1 w1 w1 hcv1 hC hle hb hB2; have HC1 := Aside0.mk hC; have HL1 := Aside0.mk hle; clear HB; have HB := Aside0.mk hB2; clear hB2 hb hC hle) | (go_at_call 23; (with_reducible refine (impl_ASValid.calls 6 _ _ y1 false false _ ?s0 ?s1 Fa1.out).mono ?_); (case s0 => repeat (first | exact HC1.out | (with_reducible refine Kd.C_alloc ?_ _) | (with_reducible refine Kd.C_drewN ?_ _) | (with_reducible refine Kd.C_drew ?_))); (case s1 => exact HL1.out); rintro e w' ⟨rfl, ⟨nd, rfl⟩⟩) | ((with_reducible refine gate_dst (N := 11) rfl ?_); (try (refine gate_guard (by rfl) ?_; dsimp only)); refine mark_lit (xs := y2) (w0 := w) Try.underlying31 Try.underlying5 (by rw [N2.out]; simp) (by rw [N2.out]; simp) ?hg (N := 11) ?hd (by repeat (first | (with_reducible first | exact HB.out | apply below_alloc | apply pw_below_drewN | apply below_drew1) | exact HB.out)) ?hr ?_; (case hd => rfl); (case hg => rfl); (case hr => rw [N2.out]; first | (go_simp; done) | (go_simp; rfl)); intro A2 c2 w1 w2 hcv2 hC hle hb hB2; have HC2 := Aside0.mk hC; have HL2 := Aside0.mk hle; clear HB; have HB := Aside0.mk hB2; clear hB2 hb hC hle) | ((with_reducible refine gate_dst (N := 13) rfl ?_); (try (refine gate_guard (by rfl) ?_; dsimp only)); refine mark_lit (xs := y3) (w0 := w) Try.underlying31 Try.underlying5 (by rw [N3.out]; simp) (by rw [N3.out]; simp) ?hg (N := 13) ?hd (by repeat (first | (with_reducible first | exact HB.out | apply below_alloc | apply pw_below_drewN | apply below_drew1) | exact HB.out)) ?hr ?_; (case hd => rfl); (case hg => rfl); (case hr => rw [N3.out]; first | (go_simp; done) | (go_simp; rfl)); intro A3 c3 w1 w3 hcv3 hC hle hb hB2; have HC3 := Aside0.mk hC; have HL3 := Aside0.mk hle; have n_ := Aside0.mk (Kd.C_below HC2.out hb); clear HC2; have HC2 := n_; clear n_; clear HB; have HB := Aside0.mk hB2; clear hB2 hb hC hle) | (go_at_call 19; (with_reducible refine (impl_ASFold.calls 6 _ _ y2 _ _ y3 false true _ ?s0 ?s1 ?s2 ?s3 Fa2.out).mono ?_); (case s0 => repeat (first | exact HC2.out | (with_reducible refine Kd.C_alloc ?_ _) | (with_reducible refine Kd.C_drewN ?_ _) | (with_reducible refine Kd.C_drew ?_))); (case s1 => exact HL2.out); (case s2 => repeat (first | exact HC3.out | (with_reducible refine Kd.C_alloc ?_ _) | (with_reducible refine Kd.C_drewN ?_ _) | (with_reducible refine Kd.C_drew ?_))); (case s3 => exact HL3.out); rintro e w' ⟨rfl, ⟨nd, rfl⟩⟩) | ((with_reducible refine gate_dst (N := 18) rfl ?_); (try (refine gate_guard (by rfl) ?_; dsimp only)); refine mark_lit (xs := y4) (w0 := w) Try.underlying31 Try.underlying5 (by rw [N4.out]; simp) (by rw [N4.out]; simp) ?hg (N := 18) ?hd (by repeat (first | (with_reducible first | exact HB.out | apply below_alloc | apply pw_below_drewN | apply below_drew1) | exact HB.out)) ?hr ?_; (case hd => rfl); (case hg => rfl); (case hr => rw [N4.out]; first | (go_simp; done) | (go_simp; rfl)); intro A4 c4 w1 w4 hcv4 hC hle hb hB2; have HC4 := Aside0.mk hC; have HL4 := Aside0.mk hle; clear HB; have HB := Aside0.mk hB2; clear hB2 hb hC hle) | (go_at_call 25; (with_reducible refine (impl_ASPrint.calls 6 _ _ y4 false true _ ?s0 ?s1 Fa3.out).mono ?_); (case s0 => repeat (first | exact HC4.out | (with_reducible refine Kd.C_alloc ?_ _) | (with_reducible refine Kd.C_drewN ?_ _) | (with_reducible refine Kd.C_drew ?_))); (case s1 => exact HL4.out); rintro e w' ⟨rfl, ⟨nd, rfl⟩⟩))
  go_ret
  exact ⟨rfl, (by repeat (first | (with_reducible first | exact HB.out | apply below_alloc | apply pw_below_drewN | apply below_drew1) | exact HB.out))⟩

/-! ### ascii_ValidByte_49: function 49 -/
def ascii_ValidByte_49.f (a0 : Int) : Option (Bool) := (ascii_ValidByte_69.f a0).bind fun t139 => (some t139)
set_option maxHeartbeats 8000000 in
set_option maxRecDepth 100000 in
theorem ascii_ValidByte_49.calls (a0 : Int) (r : Bool) (w : World) (h : ascii_ValidByte_49.f a0 = some r) :
    Calls Try.prog 49 #[.int .u8 a0] w fun e w' => e = .returned (.bool r) ∧ Drawn0 w w' := by
  have H : ((ascii_ValidByte_69.f a0).bind fun t139 => (some t139)) = some r := h
  clear h
  replace H := Option.bind_eq_some_iff.mp H
  obtain ⟨t139, A20, H⟩ := H
  replace H : (some t139) = some r := H
  have A2 := Aside0.mk A20
  clear A20
  obtain rfl := Option.some.inj H
  go_enter Try.func49, Try.ntmps49
  go_wp2_with (first | ((with_reducible refine gate_callee (f := 69) rfl ?_); refine goesL_ (some 4) rfl rfl Try.func69 (by kernel_rfl) rfl #[.int .u8 a0] rfl (by (try simp only [List.map_toArray, List.map_cons, List.map_nil]); first | done | rfl | (simp only [List.length_drop, List.length_take]; rfl)) ?_; (with_reducible refine (ascii_ValidByte_69.calls a0 t139 _ A2.out).mono ?_); rintro e w' ⟨rfl, ⟨nd, rfl⟩⟩; refine ⟨_, rfl, ?_⟩))
  go_ret
  exact ⟨by first | rfl | (simp; done) | (simp [*]; done), by repeat (first | exact Drawn0.refl _ | apply Drawn0.step)⟩

/-! ### ascii_ValidPrintByte_50: function 50 -/
def ascii_ValidPrintByte_50.f (a0 : Int) : Option (Bool) := (ascii_ValidPrintByte_70.f a0).bind fun t140 => (some t140)
set_option maxHeartbeats 8000000 in
set_option maxRecDepth 100000 in
theorem ascii_ValidPrintByte_50.calls (a0 : Int) (r : Bool) (w : World) (h : ascii_ValidPrintByte_50.f a0 = some r) :
    Calls Try.prog 50 #[.int .u8 a0] w fun e w' => e = .returned (.bool r) ∧ Drawn0 w w' := by
  have H : ((ascii_ValidPrintByte_70.f a0).bind fun t140 => (some t140)) = some r := h
  clear h
  replace H := Option.bind_eq_some_iff.mp H
  obtain ⟨t140, A20, H⟩ := H
  replace H : (some t140) = some r := H
  have A2 := Aside0.mk A20
  clear A20
  obtain rfl := Option.some.inj H
  go_enter Try.func50, Try.ntmps50
  go_wp2_with (first | ((with_reducible refine gate_callee (f := 70) rfl ?_); refine goesL_ (some 4) rfl rfl Try.func70 (by kernel_rfl) rfl #[.int .u8 a0] rfl (by (try simp only [List.map_toArray, List.map_cons, List.map_nil]); first | done | rfl | (simp only [List.length_drop, List.length_take]; rfl)) ?_; (with_reducible refine (ascii_ValidPrintByte_70.calls a0 t140 _ A2.out).mono ?_); rintro e w' ⟨rfl, ⟨nd, rfl⟩⟩; refine ⟨_, rfl, ?_⟩))
  go_ret
  exact ⟨by first | rfl | (simp; done) | (simp [*]; done), by repeat (first | exact Drawn0.refl _ | apply Drawn0.step)⟩

/-! ### impl_ASByte: function 27 -/
def impl_ASByte.f (a0 : Int) : Option (Bool × Bool) := (ascii_ValidByte_49.f a0).bind fun t141 => ((ascii_ValidPrintByte_50.f a0).bind fun t142 => (some (t141, t142)))
set_option maxHeartbeats 8000000 in
set_option maxRecDepth 100000 in
theorem impl_ASByte.calls (a0 : Int) (r1 : Bool) (r2 : Bool) (w : World) (h : impl_ASByte.f a0 = some (r1, r2)) :
    Calls Try.prog 27 #[.int .u8 a0] w fun e w' => e = .returned (.tuple #[.bool r1, .bool r2]) ∧ Drawn0 w w' := by
  have H : ((ascii_ValidByte_49.f a0).bind fun t141 => ((ascii_ValidPrintByte_50.f a0).bind fun t142 => (some (t141, t142)))) = some (r1, r2) := h
  clear h
  replace H := Option.bind_eq_some_iff.mp H
  obtain ⟨t141, A20, H⟩ := H
  replace H : ((ascii_ValidPrintByte_50.f a0).bind fun t142 => (some (t141, t142))) = some (r1, r2) := H
  have A2 := Aside0.mk A20
  clear A20
  replace H := Option.bind_eq_some_iff.mp H
  obtain ⟨t142, A30, H⟩ := H
  replace H : (some (t141, t142)) = some (r1, r2) := H
  have A3 := Aside0.mk A30
  clear A30
  simp only [Option.some.injEq, Prod.mk.injEq] at H
  obtain ⟨rfl, rfl⟩ := H
  go_enter Try.func27, Try.ntmps27
  go_wp2_with (first | ((with_reducible refine gate_callee (f := 49) rfl ?_); refine goesL_ (some 5) rfl rfl Try.func49 (by kernel_rfl) rfl #[.int .u8 a0] rfl (by (try simp only [List.map_toArray, List.map_cons, List.map_nil]); first | done | rfl | (simp only [List.length_drop, List.length_take]; rfl)) ?_; (with_reducible refine (ascii_ValidByte_49.calls a0 t141 _ A2.out).mono ?_); rintro e w' ⟨rfl, ⟨nd, rfl⟩⟩; refine ⟨_, rfl, ?_⟩) | ((with_reducible refine gate_callee (f := 50) rfl ?_); refine goesL_ (some 7) rfl rfl Try.func50 (by kernel_rfl) rfl #[.int .u8 a0] rfl (by (try simp only [List.map_toArray, List.map_cons, List.map_nil]); first | done | rfl | (simp only [List.length_drop, List.length_take]; rfl)) ?_; (with_reducible refine (ascii_ValidPrintByte_50.calls a0 t142 _ A3.out).mono ?_); rintro e w' ⟨rfl, ⟨nd, rfl⟩⟩; refine ⟨_, rfl, ?_⟩))
  go_ret2
  exact ⟨by first | rfl | (simp; done) | (simp [*]; done), by repeat (first | exact Drawn0.refl _ | apply Drawn0.step)⟩

/-! ### ascii_ValidRune_71: function 71 -/
def ascii_ValidRune_71.f (a0 : Int) : Option (Bool) := some (decide (a0 ≤ 127))
set_option maxHeartbeats 8000000 in
set_option maxRecDepth 100000 in
theorem ascii_ValidRune_71.calls (a0 : Int) (r : Bool) (w : World) (h : ascii_ValidRune_71.f a0 = some r) :
    Calls Try.prog 71 #[.int .i32 a0] w fun e w' => e = .returned (.bool r) ∧ Drawn0 w w' := by
  have H : (some (decide (a0 ≤ 127))) = some r := h
  clear h
  obtain rfl := Option.some.inj H
  go_enter Try.func71, Try.ntmps71
  go_wp2
  go_ret
  exact ⟨by first | rfl | (simp; done) | (simp [*]; done), by repeat (first | exact Drawn0.refl _ | apply Drawn0.step)⟩

/-! ### ascii_ValidRune_51: function 51 -/
def ascii_ValidRune_51.f (a0 : Int) : Option (Bool) := (ascii_ValidRune_71.f a0).bind fun t143 => (some t143)
set_option maxHeartbeats 8000000 in
set_option maxRecDepth 100000 in
theorem ascii_ValidRune_51.calls (a0 : Int) (r : Bool) (w : World) (h : ascii_ValidRune_51.f a0 = some r) :
    Calls Try.prog 51 #[.int .i32 a0] w fun e w' => e = .returned (.bool r) ∧ Drawn0 w w' := by
  have H : ((ascii_ValidRune_71.f a0).bind fun t143 => (some t143)) = some r := h
  clear h
  replace H := Option.bind_eq_some_iff.mp H
  obtain ⟨t143, A20, H⟩ := H
  replace H : (some t143) = some r := H
  have A2 := Aside0.mk A20
  clear A20
  obtain rfl := Option.some.inj H
  go_enter Try.func51, Try.ntmps51
  go_wp2_with (first | ((with_reducible refine gate_callee (f := 71) rfl ?_); refine goesL_ (some 4) rfl rfl Try.func71 (by kernel_rfl) rfl #[.int .i32 a0] rfl (by (try simp only [List.map_toArray, List.map_cons, List.map_nil]); first | done | rfl | (simp only [List.length_drop, List.length_take]; rfl)) ?_; (with_reducible refine (ascii_ValidRune_71.calls a0 t143 _ A2.out).mono ?_); rintro e w' ⟨rfl, ⟨nd, rfl⟩⟩; refine ⟨_, rfl, ?_⟩))
  go_ret
  exact ⟨by first | rfl | (simp; done) | (simp [*]; done), by repeat (first | exact Drawn0.refl _ | apply Drawn0.step)⟩

/-! ### ascii_ValidPrintRune_72: function 72 -/
def ascii_ValidPrintRune_72.f (a0 : Int) : Option (Bool) := if 32 ≤ a0 then (some (decide (a0 ≤ 126))) else (some false)
set_option maxHeartbeats 8000000 in
set_option maxRecDepth 100000 in
theorem ascii_ValidPrintRune_72.calls (a0 : Int) (r : Bool) (w : World) (h : ascii_ValidPrintRune_72.f a0 = some r) :
    Calls Try.prog 72 #[.int .i32 a0] w fun e w' => e = .returned (.bool r) ∧ Drawn0 w w' := by
  have H : (if 32 ≤ a0 then (some (decide (a0 ≤ 126))) else (some false)) = some r := h
  clear h
  by_cases c2 : 32 ≤ a0
  · rw [if_pos c2] at H
    have c2b0 : decide (32 ≤ a0) = true := decide_eq_true c2
    clear c2
    obtain rfl := Option.some.inj H
    go_enter Try.func72, Try.ntmps72
    go_wp2
    go_ret
    exact ⟨by first | rfl | (simp; done) | (simp [*]; done), by repeat (first | exact Drawn0.refl _ | apply Drawn0.step)⟩
  · rw [if_neg c2] at H
    have c2b0 : decide (32 ≤ a0) = false := decide_eq_false c2
    clear c2
    obtain rfl := Option.some.inj H
    go_enter Try.func72, Try.ntmps72
    go_wp2
    go_ret
    exact ⟨by first | rfl | (simp; done) | (simp [*]; done), by repeat (first | exact Drawn0.refl _ | apply Drawn0.step)⟩

/-! ### ascii_ValidPrintRune_52: function 52 -/
def ascii_ValidPrintRune_52.f (a0 : Int) : Option (Bool) := (ascii_ValidPrintRune_72.f a0).bind fun t144 => (some t144)
set_option maxHeartbeats 8000000 in
set_option maxRecDepth 100000 in
theorem ascii_ValidPrintRune_52.calls (a0 : Int) (r : Bool) (w : World) (h : ascii_ValidPrintRune_52.f a0 = some r) :
    Calls Try.prog 52 #[.int .i32 a0] w fun e w' => e = .returned (.bool r) ∧ Drawn0 w w' := by
  have H : ((ascii_ValidPrintRune_72.f a0).bind fun t144 => (some t144)) = some r := h
  clear h
  replace H := Option.bind_eq_some_iff.mp H
  obtain ⟨t144, A20, H⟩ := H
  replace H : (some t144) = some r := H
  have A2 := Aside0.mk A20
  clear A20
  obtain rfl := Option.some.inj H
  go_enter Try.func52, Try.ntmps52
  go_wp2_with (first | ((with_reducible refine gate_callee (f := 72) rfl ?_); refine goesL_ (some 4) rfl rfl Try.func72 (by kernel_rfl) rfl #[.int .i32 a0] rfl (by (try simp only [List.map_toArray, List.map_cons, List.map_nil]); first | done | rfl | (simp only [List.length_drop, List.length_take]; rfl)) ?_; (with_reducible refine (ascii_ValidPrintRune_72.calls a0 t144 _ A2.out).mono ?_); rintro e w' ⟨rfl, ⟨nd, rfl⟩⟩; refine ⟨_, rfl, ?_⟩))
  go_ret
  exact ⟨by first | rfl | (simp; done) | (simp [*]; done), by repeat (first | exact Drawn0.refl _ | apply Drawn0.step)⟩

/-! ### impl_ASRune: function 28 -/
def impl_ASRune.f (a0 : Int) : Option (Bool × Bool) := (ascii_ValidRune_51.f a0).bind fun t145 => ((ascii_ValidPrintRune_52.f a0).bind fun t146 => (some (t145, t146)))
set_option maxHeartbeats 8000000 in
set_option maxRecDepth 100000 in
theorem impl_ASRune.calls (a0 : Int) (r1 : Bool) (r2 : Bool) (w : World) (h : impl_ASRune.f a0 = some (r1, r2)) :
    Calls Try.prog 28 #[.int .i32 a0] w fun e w' => e = .returned (.tuple #[.bool r1, .bool r2]) ∧ Drawn0 w w' := by
  have H : ((ascii_ValidRune_51.f a0).bind fun t145 => ((ascii_ValidPrintRune_52.f a0).bind fun t146 => (some (t145, t146)))) = some (r1, r2) := h
  clear h
  replace H := Option.bind_eq_some_iff.mp H
  obtain ⟨t145, A20, H⟩ := H
  replace H : ((ascii_ValidPrintRune_52.f a0).bind fun t146 => (some (t145, t146))) = some (r1, r2) := H
  have A2 := Aside0.mk A20
  clear A20
  replace H := Option.bind_eq_some_iff.mp H
  obtain ⟨t146, A30, H⟩ := H
  replace H : (some (t145, t146)) = some (r1, r2) := H
  have A3 := Aside0.mk A30
  clear A30
  simp only [Option.some.injEq, Prod.mk.injEq] at H
  obtain ⟨rfl, rfl⟩ := H
  go_enter Try.func28, Try.ntmps28
  go_wp2_with (first | ((with_reducible refine gate_callee (f := 51) rfl ?_); refine goesL_ (some 5) rfl rfl Try.func51 (by kernel_rfl) rfl #[.int .i32 a0] rfl (by (try simp only [List.map_toArray, List.map_cons, List.map_nil]); first | done | rfl | (simp only [List.length_drop, List.length_take]; rfl)) ?_; (with_reducible refine (ascii_ValidRune_51.calls a0 t145 _ A2.out).mono ?_); rintro e w' ⟨rfl, ⟨nd, rfl⟩⟩; refine ⟨_, rfl, ?_⟩) | ((with_reducible refine gate_callee (f := 52) rfl ?_); refine goesL_ (some 7) rfl rfl Try.func52 (by kernel_rfl) rfl #[.int .i32 a0] rfl (by (try simp only [List.map_toArray, List.map_cons, List.map_nil]); first | done | rfl | (simp only [List.length_drop, List.length_take]; rfl)) ?_; (with_reducible refine (ascii_ValidPrintRune_52.calls a0 t146 _ A3.out).mono ?_); rintro e w' ⟨rfl, ⟨nd, rfl⟩⟩; refine ⟨_, rfl, ?_⟩))
  go_ret2
  exact ⟨by first | rfl | (simp; done) | (simp [*]; done), by repeat (first | exact Drawn0.refl _ | apply Drawn0.step)⟩

/-! ### laws_FnASBytes: function 8 -/
def laws_FnASBytes.f (k : Nat) (a0 : Int) (a1 : Int) : Option (Bool) := (impl_ASByte.f a0).bind fun bt147 => ((impl_ASRune.f (Go.bits .and .i32 a1 2147483647)).bind fun bt149 => (if (bt147.1 == (decide (a0 < 128))) = true then (if a0 ≥ 32 then (if (bt147.2 == (decide (a0 ≤ 126))) = true then (if (bt149.1 == (decide ((Go.bits .and .i32 a1 2147483647) < 128))) = true then (if (Go.bits .and .i32 a1 2147483647) ≥ 32 then (if (bt149.2 == (decide ((Go.bits .and .i32 a1 2147483647) ≤ 126))) = true then ((laws_asAwake.f k).bind fun t151 => (some t151)) else (some false)) else (if (bt149.2 == false) = true then ((laws_asAwake.f k).bind fun t152 => (some t152)) else (some false))) else (some false)) else (some false)) else (if (bt147.2 == false) = true then (if (bt149.1 == (decide ((Go.bits .and .i32 a1 2147483647) < 128))) = true then (if (Go.bits .and .i32 a1 2147483647) ≥ 32 then (if (bt149.2 == (decide ((Go.bits .and .i32 a1 2147483647) ≤ 126))) = true then ((laws_asAwake.f k).bind fun t153 => (some t153)) else (some false)) else (if (bt149.2 == false) = true then ((laws_asAwake.f k).bind fun t154 => (some t154)) else (some false))) else (some false)) else (some false))) else (some false)))
theorem laws_FnASBytes.mono : ∀ a0 a1 k, LeO (laws_FnASBytes.f k a0 a1) (laws_FnASBytes.f (k + 1) a0 a1) := by
  intro a0 a1 k
  unfold laws_FnASBytes.f
  repeat' first
      | (with_reducible exact laws_asAwake.mono _)
      | (with_reducible exact LeO.refl _)
      | (with_reducible exact LeO.none _)
      | (with_reducible refine LeO.ite ?_ ?_)
      | (with_reducible refine LeO.bind ?_ (fun _ => ?_))
      | exact laws_asAwake.mono _
      | exact LeO.none _
      | refine LeO.ite ?_ ?_
      | refine LeO.bind ?_ (fun _ => ?_)
set_option maxHeartbeats 8000000 in
set_option maxRecDepth 100000 in
theorem laws_FnASBytes.calls (k : Nat) (a0 : Int) (a1 : Int) (r : Bool) (w : World) (h : laws_FnASBytes.f k a0 a1 = some r) :
    Calls Try.prog 8 #[.int .u8 a0, .int .i32 a1] w fun e w' => e = .returned (.bool r) ∧ Below w.heap.size w w' := by
  have HB := Aside0.mk (Below.refl w.heap.size w)
  have H : ((impl_ASByte.f a0).bind fun bt147 => ((impl_ASRune.f (Go.bits .and .i32 a1 2147483647)).bind fun bt149 => (if (bt147.1 == (decide (a0 < 128))) = true then (if a0 ≥ 32 then (if (bt147.2 == (decide (a0 ≤ 126))) = true then (if (bt149.1 == (decide ((Go.bits .and .i32 a1 2147483647) < 128))) = true then (if (Go.bits .and .i32 a1 2147483647) ≥ 32 then (if (bt149.2 == (decide ((Go.bits .and .i32 a1 2147483647) ≤ 126))) = true then ((laws_asAwake.f k).bind fun t151 => (some t151)) else (some false)) else (if (bt149.2 == false) = true then ((laws_asAwake.f k).bind fun t152 => (some t152)) else (some false))) else (some false)) else (some false)) else (if (bt147.2 == false) = true then (if (bt149.1 == (decide ((Go.bits .and .i32 a1 2147483647) < 128))) = true then (if (Go.bits .and .i32 a1 2147483647) ≥ 32 then (if (bt149.2 == (decide ((Go.bits .and .i32 a1 2147483647) ≤ 126))) = true then ((laws_asAwake.f k).bind fun t153 => (some t153)) else (some false)) else (if (bt149.2 == false) = true then ((laws_asAwake.f k).bind fun t154 => (some t154)) else (some false))) else (some false)) else (some false))) else (some false)))) = some r := h
  clear h
  replace H := Option.bind_eq_some_iff.mp H
  obtain ⟨⟨t147, t148⟩, A30, H⟩ := H
  replace H : ((impl_ASRune.f (Go.bits .and .i32 a1 2147483647)).bind fun bt149 => (if (t147 == (decide (a0 < 128))) = true then (if a0 ≥ 32 then (if (t148 == (decide (a0 ≤ 126))) = true then (if (bt149.1 == (decide ((Go.bits .and .i32 a1 2147483647) < 128))) = true then (if (Go.bits .and .i32 a1 2147483647) ≥ 32 then (if (bt149.2 == (decide ((Go.bits .and .i32 a1 2147483647) ≤ 126))) = true then ((laws_asAwake.f k).bind fun t151 => (some t151)) else (some false)) else (if (bt149.2 == false) = true then ((laws_asAwake.f k).bind fun t152 => (some t152)) else (some false))) else (some false)) else (some false)) else (if (t148 == false) = true then (if (bt149.1 == (decide ((Go.bits .and .i32 a1 2147483647) < 128))) = true then (if (Go.bits .and .i32 a1 2147483647) ≥ 32 then (if (bt149.2 == (decide ((Go.bits .and .i32 a1 2147483647) ≤ 126))) = true then ((laws_asAwake.f k).bind fun t153 => (some t153)) else (some false)) else (if (bt149.2 == false) = true then ((laws_asAwake.f k).bind fun t154 => (some t154)) else (some false))) else (some false)) else (some false))) else (some false))) = some r := H
  have A3 := Aside0.mk A30
  clear A30
  replace H := Option.bind_eq_some_iff.mp H
  obtain ⟨⟨t149, t150⟩, A40, H⟩ := H
  replace H : (if (t147 == (decide (a0 < 128))) = true then (if a0 ≥ 32 then (if (t148 == (decide (a0 ≤ 126))) = true then (if (t149 == (decide ((Go.bits .and .i32 a1 2147483647) < 128))) = true then (if (Go.bits .and .i32 a1 2147483647) ≥ 32 then (if (t150 == (decide ((Go.bits .and .i32 a1 2147483647) ≤ 126))) = true then ((laws_asAwake.f k).bind fun t151 => (some t151)) else (some false)) else (if (t150 == false) = true then ((laws_asAwake.f k).bind fun t152 => (some t152)) else (some false))) else (some false)) else (some false)) else (if (t148 == false) = true then (if (t149 == (decide ((Go.bits .and .i32 a1 2147483647) < 128))) = true then (if (Go.bits .and .i32 a1 2147483647) ≥ 32 then (if (t150 == (decide ((Go.bits .and .i32 a1 2147483647) ≤ 126))) = true then ((laws_asAwake.f k).bind fun t153 => (some t153)) else (some false)) else (if (t150 == false) = true then ((laws_asAwake.f k).bind fun t154 => (some t154)) else (some false))) else (some false)) else (some false))) else (some false)) = some r := H
  have A4 := Aside0.mk A40
  clear A40
  by_cases c5 : (t147 == (decide (a0 < 128))) = true
  · rw [if_pos c5] at H
    have c5b0 : (t147 == (decide (a0 < 128))) = true := c5
    (try (have c5b1 : decide (t147 = (decide (a0 < 128))) = true := by simpa using c5))
    (try (have c5b2 : (t147 == (decide (a0 < 128))) = true := by simpa using c5))
    clear c5
    by_cases c6 : a0 ≥ 32
    · rw [if_pos c6] at H
      have c6b0 : decide (32 ≤ a0) = true := decide_eq_true c6
      clear c6
      by_cases c7 : (t148 == (decide (a0 ≤ 126))) = true
      · rw [if_pos c7] at H
        have c7b0 : (t148 == (decide (a0 ≤ 126))) = true := c7
        (try (have c7b1 : decide (t148 = (decide (a0 ≤ 126))) = true := by simpa using c7))
        (try (have c7b2 : (t148 == (decide (a0 ≤ 126))) = true := by simpa using c7))
        clear c7
        by_cases c8 : (t149 == (decide ((Go.bits .and .i32 a1 2147483647) < 128))) = true
        · rw [if_pos c8] at H
          have c8b0 : (t149 == (decide ((Go.bits .and .i32 a1 2147483647) < 128))) = true := c8
          (try (have c8b1 : decide (t149 = (decide ((Go.bits .and .i32 a1 2147483647) < 128))) = true := by simpa using c8))
          (try (have c8b2 : (t149 == (decide ((Go.bits .and .i32 a1 2147483647) < 128))) = true := by simpa using c8))
          clear c8
          by_cases c9 : (Go.bits .and .i32 a1 2147483647) ≥ 32
          · rw [if_pos c9] at H
            have c9b0 : decide (32 ≤ (Go.bits .and .i32 a1 2147483647)) = true := decide_eq_true c9
            clear c9
            by_cases c10 : (t150 == (decide ((Go.bits .and .i32 a1 2147483647) ≤ 126))) = true
            · rw [if_pos c10] at H
              have c10b0 : (t150 == (decide ((Go.bits .and .i32 a1 2147483647) ≤ 126))) = true := c10
              (try (have c10b1 : decide (t150 = (decide ((Go.bits .and .i32 a1 2147483647) ≤ 126))) = true := by simpa using c10))
              (try (have c10b2 : (t150 == (decide ((Go.bits .and .i32 a1 2147483647) ≤ 126))) = true := by simpa using c10))
              clear c10
              replace H := Option.bind_eq_some_iff.mp H
              obtain ⟨t151, A110, H⟩ := H
              replace H : (some t151) = some r := H
              have A11 := Aside0.mk A110
              clear A110
              obtain rfl := Option.some.inj H
              go_enter Try.func8, Try.ntmps8
              go_wp2_with (first | ((with_reducible refine gate_callee (f := 27) rfl ?_); refine goesL_ (some 13) rfl rfl Try.func27 (by kernel_rfl) rfl #[.int .u8 a0] rfl (by (try simp only [List.map_toArray, List.map_cons, List.map_nil]); first | done | rfl | (simp only [List.length_drop, List.length_take]; rfl)) ?_; (with_reducible refine (impl_ASByte.calls a0 t147 t148 _ A3.out).mono ?_); rintro e w' ⟨rfl, ⟨nd, rfl⟩⟩; refine ⟨_, rfl, ?_⟩) | ((with_reducible refine gate_callee (f := 28) rfl ?_); refine goesL_ (some 18) rfl rfl Try.func28 (by kernel_rfl) rfl #[.int .i32 (Go.bits .and .i32 a1 2147483647)] rfl (by (try simp only [List.map_toArray, List.map_cons, List.map_nil]); first | done | rfl | (simp only [List.length_drop, List.length_take]; rfl)) ?_; (with_reducible refine (impl_ASRune.calls (Go.bits .and .i32 a1 2147483647) t149 t150 _ A4.out).mono ?_); rintro e w' ⟨rfl, ⟨nd, rfl⟩⟩; refine ⟨_, rfl, ?_⟩) | (go_at_call 21; (with_reducible refine (laws_asAwake.calls k  t151 _ A11.out).mono ?_); rintro e w12 ⟨rfl, hb⟩; have n0_ := Aside0.mk (below_step (by repeat (first | (with_reducible first | exact HB.out | apply below_alloc | apply pw_below_drewN | apply below_drew1) | exact HB.out)) hb); clear HB; have HB := n0_; clear n0_; (try clear hb); (try clear hb2); (try clear hk); (try clear hi)))
              go_ret
              exact ⟨by first | rfl | (simp [errW_none, errW_some] <;> rfl) | (simp [*, errW_none, errW_some] <;> rfl), by repeat (first | (with_reducible first | exact HB.out | apply below_alloc | apply pw_below_drewN | apply below_drew1) | exact HB.out)⟩
            · rw [if_neg c10] at H
              have c10b0 : (t150 == (decide ((Go.bits .and .i32 a1 2147483647) ≤ 126))) = false := by simpa using c10
              (try (have c10b1 : decide (t150 = (decide ((Go.bits .and .i32 a1 2147483647) ≤ 126))) = false := by simpa using c10))
              (try (have c10b2 : (t150 == (decide ((Go.bits .and .i32 a1 2147483647) ≤ 126))) = false := by simpa using c10))
              (try (have c10b3 : ¬ (t150 = (decide ((Go.bits .and .i32 a1 2147483647) ≤ 126))) := by simpa using c10))
              clear c10
              obtain rfl := Option.some.inj H
              go_enter Try.func8, Try.ntmps8
              go_wp2_with (first | ((with_reducible refine gate_callee (f := 27) rfl ?_); refine goesL_ (some 13) rfl rfl Try.func27 (by kernel_rfl) rfl #[.int .u8 a0] rfl (by (try simp only [List.map_toArray, List.map_cons, List.map_nil]); first | done | rfl | (simp only [List.length_drop, List.length_take]; rfl)) ?_; (with_reducible refine (impl_ASByte.calls a0 t147 t148 _ A3.out).mono ?_); rintro e w' ⟨rfl, ⟨nd, rfl⟩⟩; refine ⟨_, rfl, ?_⟩) | ((with_reducible refine gate_callee (f := 28) rfl ?_); refine goesL_ (some 18) rfl rfl Try.func28 (by kernel_rfl) rfl #[.int .i32 (Go.bits .and .i32 a1 2147483647)] rfl (by (try simp only [List.map_toArray, List.map_cons, List.map_nil]); first | done | rfl | (simp only [List.length_drop, List.length_take]; rfl)) ?_; (with_reducible refine (impl_ASRune.calls (Go.bits .and .i32 a1 2147483647) t149 t150 _ A4.out).mono ?_); rintro e w' ⟨rfl, ⟨nd, rfl⟩⟩; refine ⟨_, rfl, ?_⟩))
              go_ret
              exact ⟨by first | rfl | (simp [errW_none, errW_some] <;> rfl) | (simp [*, errW_none, errW_some] <;> rfl), by repeat (first | (with_reducible first | exact HB.out | apply below_alloc | apply pw_below_drewN | apply below_drew1) | exact HB.out)⟩
          · rw [if_neg c9] at H
            have c9b0 : decide (32 ≤ (Go.bits .and .i32 a1 2147483647)) = false := decide_eq_false c9
            clear c9
            by_cases c13 : (t150 == false) = true
            · rw [if_pos c13] at H
              have c13b0 : (t150 == false) = true := c13
              (try (have c13b1 : decide (t150 = false) = true := by simpa using c13))
              (try (have c13b2 : (t150 == false) = true := by simpa using c13))
              clear c13
              replace H := Option.bind_eq_some_iff.mp H
              obtain ⟨t152, A140, H⟩ := H
              replace H : (some t152) = some r := H
              have A14 := Aside0.mk A140
              clear A140
              obtain rfl := Option.some.inj H
              go_enter Try.func8, Try.ntmps8
              go_wp2_with (first | ((with_reducible refine gate_callee (f := 27) rfl ?_); refine goesL_ (some 13) rfl rfl Try.func27 (by kernel_rfl) rfl #[.int .u8 a0] rfl (by (try simp only [List.map_toArray, List.map_cons, List.map_nil]); first | done | rfl | (simp only [List.length_drop, List.length_take]; rfl)) ?_; (with_reducible refine (impl_ASByte.calls a0 t147 t148 _ A3.out).mono ?_); rintro e w' ⟨rfl, ⟨nd, rfl⟩⟩; refine ⟨_, rfl, ?_⟩) | ((with_reducible refine gate_callee (f := 28) rfl ?_); refine goesL_ (some 18) rfl rfl Try.func28 (by kernel_rfl) rfl #[.int .i32 (Go.bits .and .i32 a1 2147483647)] rfl (by (try simp only [List.map_toArray, List.map_cons, List.map_nil]); first | done | rfl | (simp only [List.length_drop, List.length_take]; rfl)) ?_; (with_reducible refine (impl_ASRune.calls (Go.bits .and .i32 a1 2147483647) t149 t150 _ A4.out).mono ?_); rintro e w' ⟨rfl, ⟨nd, rfl⟩⟩; refine ⟨_, rfl, ?_⟩) | (go_at_call 21; (with_reducible refine (laws_asAwake.calls k  t152 _ A14.out).mono ?_); rintro e w15 ⟨rfl, hb⟩; have n0_ := Aside0.mk (below_step (by repeat (first | (with_reducible first | exact HB.out | apply below_alloc | apply pw_below_drewN | apply below_drew1) | exact HB.out)) hb); clear HB; have HB := n0_; clear n0_; (try clear hb); (try clear hb2); (try clear hk); (try clear hi)))
              go_ret
              exact ⟨by first | rfl | (simp [errW_none, errW_some] <;> rfl) | (simp [*, errW_none, errW_some] <;> rfl), by repeat (first | (with_reducible first | exact HB.out | apply below_alloc | apply pw_below_drewN | apply below_drew1) | exact HB.out)⟩
            · rw [if_neg c13] at H
              have c13b0 : (t150 == false) = false := by simpa using c13
              (try (have c13b1 : decide (t150 = false) = false := by simpa using c13))
              (try (have c13b2 : (t150 == false) = false := by simpa using c13))
              (try (have c13b3 : ¬ (t150 = false) := by simpa using c13))
              clear c13
              obtain rfl := Option.some.inj H
              go_enter Try.func8, Try.ntmps8
              go_wp2_with (first | ((with_reducible refine gate_callee (f := 27) rfl ?_); refine goesL_ (some 13) rfl rfl Try.func27 (by kernel_rfl) rfl #[.int .u8 a0] rfl (by (try simp only [List.map_toArray, List.map_cons, List.map_nil]); first | done | rfl | (simp only [List.length_drop, List.length_take]; rfl)) ?_; (with_reducible refine (impl_ASByte.calls a0 t147 t148 _ A3.out).mono ?_); rintro e w' ⟨rfl, ⟨nd, rfl⟩⟩; refine ⟨_, rfl, ?_⟩) | ((with_reducible refine gate_callee (f := 28) rfl ?_); refine goesL_ (some 18) rfl rfl Try.func28 (by kernel_rfl) rfl #[.int .i32 (Go.bits .and .i32 a1 2147483647)] rfl (by (try simp only [List.map_toArray, List.map_cons, List.map_nil]); first | done | rfl | (simp only [List.length_drop, List.length_take]; rfl)) ?_; (with_reducible refine (impl_ASRune.calls (Go.bits .and .i32 a1 2147483647) t149 t150 _ A4.out).mono ?_); rintro e w' ⟨rfl, ⟨nd, rfl⟩⟩; refine ⟨_, rfl, ?_⟩))
              go_ret
              exact ⟨by first | rfl | (simp [errW_none, errW_some] <;> rfl) | (simp [*, errW_none, errW_some] <;> rfl), by repeat (first | (with_reducible first | exact HB.out | apply below_alloc | apply pw_below_drewN | apply below_drew1) | exact HB.out)⟩
        · rw [if_neg c8] at H
          have c8b0 : (t149 == (decide ((Go.bits .and .i32 a1 2147483647) < 128))) = false := by simpa using c8
          (try (have c8b1 : decide (t149 = (decide ((Go.bits .and .i32 a1 2147483647) < 128))) = false := by simpa using c8))
          (try (have c8b2 : (t149 == (decide ((Go.bits .and .i32 a1 2147483647) < 128))) = false := by simpa using c8))
          (try (have c8b3 : ¬ (t149 = (decide ((Go.bits .and .i32 a1 2147483647) < 128))) := by simpa using c8))
          clear c8
          obtain rfl := Option.some.inj H
          go_enter Try.func8, Try.ntmps8
          go_wp2_with (first | ((with_reducible refine gate_callee (f := 27) rfl ?_); refine goesL_ (some 13) rfl rfl Try.func27 (by kernel_rfl) rfl #[.int .u8 a0] rfl (by (try simp only [List.map_toArray, List.map_cons, List.map_nil]); first | done | rfl | (simp only [List.length_drop, List.length_take]; rfl)) ?_; (with_reducible refine (impl_ASByte.calls a0 t147 t148 _ A3.out).mono ?_); rintro e w' ⟨rfl, ⟨nd, rfl⟩⟩; refine ⟨_, rfl, ?_⟩) | ((with_reducible refine gate_callee (f := 28) rfl ?_); refine goesL_ (some 18) rfl rfl Try.func28 (by kernel_rfl) rfl #[.int .i32 (Go.bits .and .i32 a1 2147483647)] rfl (by (try simp only [List.map_toArray, List.map_cons, List.map_nil]); first | done | rfl | (simp only [List.length_drop, List.length_take]; rfl)) ?_; (with_reducible refine (impl_ASRune.calls (Go.bits .and .i32 a1 2147483647) t149 t150 _ A4.out).mono ?_); rintro e w' ⟨rfl, ⟨nd, rfl⟩⟩; refine ⟨_, rfl, ?_⟩))
          go_ret
          exact ⟨by first | rfl | (simp [errW_none, errW_some] <;> rfl) | (simp [*, errW_none, errW_some] <;> rfl), by repeat (first | (with_reducible first | exact HB.out | apply below_alloc | apply pw_below_drewN | apply below_drew1) | exact HB.out)⟩
      · rw [if_neg c7] at H
        have c7b0 : (t148 == (decide (a0 ≤ 126))) = false := by simpa using c7
        (try (have c7b1 : decide (t148 = (decide (a0 ≤ 126))) = false := by simpa using c7))
        (try (have c7b2 : (t148 == (decide (a0 ≤ 126))) = false := by simpa using c7))
        (try (have c7b3 : ¬ (t148 = (decide (a0 ≤ 126))) := by simpa using c7))
        clear c7
        obtain rfl := Option.some.inj H
        go_enter Try.func8, Try.ntmps8
        go_wp2_with (first | ((with_reducible refine gate_callee (f := 27) rfl ?_); refine goesL_ (some 13) rfl rfl Try.func27 (by kernel_rfl) rfl #[.int .u8 a0] rfl (by (try simp only [List.map_toArray, List.map_cons, List.map_nil]); first | done | rfl | (simp only [List.length_drop, List.length_take]; rfl)) ?_; (with_reducible refine (impl_ASByte.calls a0 t147 t148 _ A3.out).mono ?_); rintro e w' ⟨rfl, ⟨nd, rfl⟩⟩; refine ⟨_, rfl, ?_⟩) | ((with_reducible refine gate_callee (f := 28) rfl ?_); refine goesL_ (some 18) rfl rfl Try.func28 (by kernel_rfl) rfl #[.int .i32 (Go.bits .and .i32 a1 2147483647)] rfl (by (try simp only [List.map_toArray, List.map_cons, List.map_nil]); first | done | rfl | (simp only [List.length_drop, List.length_take]; rfl)) ?_; (with_reducible refine (impl_ASRune.calls (Go.bits .and .i32 a1 2147483647) t149 t150 _ A4.out).mono ?_); rintro e w' ⟨rfl, ⟨nd, rfl⟩⟩; refine ⟨_, rfl, ?_⟩))
        go_ret
        exact ⟨by first | rfl | (simp [errW_none, errW_some] <;> rfl) | (simp [*, errW_none, errW_some] <;> rfl), by repeat (first | (with_reducible first | exact HB.out | apply below_alloc | apply pw_below_drewN | apply below_drew1) | exact HB.out)⟩
    · rw [if_neg c6] at H
      have c6b0 : decide (32 ≤ a0) = false := decide_eq_false c6
      clear c6
      by_cases c16 : (t148 == false) = true
      · rw [if_pos c16] at H
        have c16b0 : (t148 == false) = true := c16
        (try (have c16b1 : decide (t148 = false) = true := by simpa using c16))
        (try (have c16b2 : (t148 == false) = true := by simpa using c16))
        clear c16
        by_cases c17 : (t149 == (decide ((Go.bits .and .i32 a1 2147483647) < 128))) = true
        · rw [if_pos c17] at H
          have c17b0 : (t149 == (decide ((Go.bits .and .i32 a1 2147483647) < 128))) = true := c17
          (try (have c17b1 : decide (t149 = (decide ((Go.bits .and .i32 a1 2147483647) < 128))) = true := by simpa using c17))
          (try (have c17b2 : (t149 == (decide ((Go.bits .and .i32 a1 2147483647) < 128))) = true := by simpa using c17))
          clear c17
          by_cases c18 : (Go.bits .and .i32 a1 2147483647) ≥ 32
          · rw [if_pos c18] at H
            have c18b0 : decide (32 ≤ (Go.bits .and .i32 a1 2147483647)) = true := decide_eq_true c18
            clear c18
            by_cases c19 : (t150 == (decide ((Go.bits .and .i32 a1 2147483647) ≤ 126))) = true
            · rw [if_pos c19] at H
              have c19b0 : (t150 == (decide ((Go.bits .and .i32 a1 2147483647) ≤ 126))) = true := c19
              (try (have c19b1 : decide (t150 = (decide ((Go.bits .and .i32 a1 2147483647) ≤ 126))) = true := by simpa using c19))
              (try (have c19b2 : (t150 == (decide ((Go.bits .and .i32 a1 2147483647) ≤ 126))) = true := by simpa using c19))
              clear c19
              replace H := Option.bind_eq_some_iff.mp H
              obtain ⟨t153, A200, H⟩ := H
              replace H : (some t153) = some r := H
              have A20 := Aside0.mk A200
              clear A200
              obtain rfl := Option.some.inj H
              go_enter Try.func8, Try.ntmps8
              go_wp2_with (first | ((with_reducible refine gate_callee (f := 27) rfl ?_); refine goesL_ (some 13) rfl rfl Try.func27 (by kernel_rfl) rfl #[.int .u8 a0] rfl (by (try simp only [List.map_toArray, List.map_cons, List.map_nil]); first | done | rfl | (simp only [List.length_drop, List.length_take]; rfl)) ?_; (with_reducible refine (impl_ASByte.calls a0 t147 t148 _ A3.out).mono ?_); rintro e w' ⟨rfl, ⟨nd, rfl⟩⟩; refine ⟨_, rfl, ?_⟩) | ((with_reducible refine gate_callee (f := 28) rfl ?_); refine goesL_ (some 18) rfl rfl Try.func28 (by kernel_rfl) rfl #[.int .i32 (Go.bits .and .i32 a1 2147483647)] rfl (by (try simp only [List.map_toArray, List.map_cons, List.map_nil]); first | done | rfl | (simp only [List.length_drop, List.length_take]; rfl)) ?_; (with_reducible refine (impl_ASRune.calls (Go.bits .and .i32 a1 2147483647) t149 t150 _ A4.out).mono ?_); rintro e w' ⟨rfl, ⟨nd, rfl⟩⟩; refine ⟨_, rfl, ?_⟩) | (go_at_call 21; (with_reducible refine (laws_asAwake.calls k  t153 _ A20.out).mono ?_); rintro e w21 ⟨rfl, hb⟩; have n0_ := Aside0.mk (below_step (by repeat (first | (with_reducible first | exact HB.out | apply below_alloc | apply pw_below_drewN | apply below_drew1) | exact HB.out)) hb); clear HB; have HB := n0_; clear n0_; (try clear hb); (try clear hb2); (try clear hk); (try clear hi)))
              go_ret
              exact ⟨by first | rfl | (simp [errW_none, errW_some] <;> rfl) | (simp [*, errW_none, errW_some] <;> rfl), by repeat (first | (with_reducible first | exact HB.out | apply below_alloc | apply pw_below_drewN | apply below_drew1) | exact HB.out)⟩
            · rw [if_neg c19] at H
              have c19b0 : (t150 == (decide ((Go.bits .and .i32 a1 2147483647) ≤ 126))) = false := by simpa using c19
              (try (have c19b1 : decide (t150 = (decide ((Go.bits .and .i32 a1 2147483647) ≤ 126))) = false := by simpa using c19))
              (try (have c19b2 : (t150 == (decide ((Go.bits .and .i32 a1 2147483647) ≤ 126))) = false := by simpa using c19))
              (try (have c19b3 : ¬ (t150 = (decide ((Go.bits .and .i32 a1 2147483647) ≤ 126))) := by simpa using c19))
              clear c19
              obtain rfl := Option.some.inj H
              go_enter Try.func8, Try.ntmps8
              go_wp2_with (first | ((with_reducible refine gate_callee (f := 27) rfl ?_); refine goesL_ (some 13) rfl rfl Try.func27 (by kernel_rfl) rfl #[.int .u8 a0] rfl (by (try simp only [List.map_toArray, List.map_cons, List.map_nil]); first | done | rfl | (simp only [List.length_drop, List.length_take]; rfl)) ?_; (with_reducible refine (impl_ASByte.calls a0 t147 t148 _ A3.out).mono ?_); rintro e w' ⟨rfl, ⟨nd, rfl⟩⟩; refine ⟨_, rfl, ?_⟩) | ((with_reducible refine gate_callee (f := 28) rfl ?_); refine goesL_ (some 18) rfl rfl Try.func28 (by kernel_rfl) rfl #[.int .i32 (Go.bits .and .i32 a1 2147483647)] rfl (by (try simp only [List.map_toArray, List.map_cons, List.map_nil]); first | done | rfl | (simp only [List.length_drop, List.length_take]; rfl)) ?_; (with_reducible refine (impl_ASRune.calls (Go.bits .and .i32 a1 2147483647) t149 t150 _ A4.out).mono ?_); rintro e w' ⟨rfl, ⟨nd, rfl⟩⟩; refine ⟨_, rfl, ?_⟩))
              go_ret
              exact ⟨by first | rfl | (simp [errW_none, errW_some] <;> rfl) | (simp [*, errW_none, errW_some] <;> rfl), by repeat (first | (with_reducible first | exact HB.out | apply below_alloc | apply pw_below_drewN | apply below_drew1) | exact HB.out)⟩
          · rw [if_neg c18] at H
            have c18b0 : decide (32 ≤ (Go.bits .and .i32 a1 2147483647)) = false := decide_eq_false c18
            clear c18
            by_cases c22 : (t150 == false) = true
            · rw [if_pos c22] at H
              have c22b0 : (t150 == false) = true := c22
              (try (have c22b1 : decide (t150 = false) = true := by simpa using c22))
              (try (have c22b2 : (t150 == false) = true := by simpa using c22))
              clear c22
              replace H := Option.bind_eq_some_iff.mp H
              obtain ⟨t154, A230, H⟩ := H
              replace H : (some t154) = some r := H
              have A23 := Aside0.mk A230
              clear A230
              obtain rfl := Option.some.inj H
              go_enter Try.func8, Try.ntmps8
              go_wp2_with (first | ((with_reducible refine gate_callee (f := 27) rfl ?_); refine goesL_ (some 13) rfl rfl Try.func27 (by kernel_rfl) rfl #[.int .u8 a0] rfl (by (try simp only [List.map_toArray, List.map_cons, List.map_nil]); first | done | rfl | (simp only [List.length_drop, List.length_take]; rfl)) ?_; (with_reducible refine (impl_ASByte.calls a0 t147 t148 _ A3.out).mono ?_); rintro e w' ⟨rfl, ⟨nd, rfl⟩⟩; refine ⟨_, rfl, ?_⟩) | ((with_reducible refine gate_callee (f := 28) rfl ?_); refine goesL_ (some 18) rfl rfl Try.func28 (by kernel_rfl) rfl #[.int .i32 (Go.bits .and .i32 a1 2147483647)] rfl (by (try simp only [List.map_toArray, List.map_cons, List.map_nil]); first | done | rfl | (simp only [List.length_drop, List.length_take]; rfl)) ?_; (with_reducible refine (impl_ASRune.calls (Go.bits .and .i32 a1 2147483647) t149 t150 _ A4.out).mono ?_); rintro e w' ⟨rfl, ⟨nd, rfl⟩⟩; refine ⟨_, rfl, ?_⟩) | (go_at_call 21; (with_reducible refine (laws_asAwake.calls k  t154 _ A23.out).mono ?_); rintro e w24 ⟨rfl, hb⟩; have n0_ := Aside0.mk (below_step (by repeat (first | (with_reducible first | exact HB.out | apply below_alloc | apply pw_below_drewN | apply below_drew1) | exact HB.out)) hb); clear HB; have HB := n0_; clear n0_; (try clear hb); (try clear hb2); (try clear hk); (try clear hi)))
              go_ret
              exact ⟨by first | rfl | (simp [errW_none, errW_some] <;> rfl) | (simp [*, errW_none, errW_some] <;> rfl), by repeat (first | (with_reducible first | exact HB.out | apply below_alloc | apply pw_below_drewN | apply below_drew1) | exact HB.out)⟩
            · rw [if_neg c22] at H
              have c22b0 : (t150 == false) = false := by simpa using c22
              (try (have c22b1 : decide (t150 = false) = false := by simpa using c22))
              (try (have c22b2 : (t150 == false) = false := by simpa using c22))
              (try (have c22b3 : ¬ (t150 = false) := by simpa using c22))
              clear c22
              obtain rfl := Option.some.inj H
              go_enter Try.func8, Try.ntmps8
              go_wp2_with (first | ((with_reducible refine gate_callee (f := 27) rfl ?_); refine goesL_ (some 13) rfl rfl Try.func27 (by kernel_rfl) rfl #[.int .u8 a0] rfl (by (try simp only [List.map_toArray, List.map_cons, List.map_nil]); first | done | rfl | (simp only [List.length_drop, List.length_take]; rfl)) ?_; (with_reducible refine (impl_ASByte.calls a0 t147 t148 _ A3.out).mono ?_); rintro e w' ⟨rfl, ⟨nd, rfl⟩⟩; refine ⟨_, rfl, ?_⟩) | ((with_reducible refine gate_callee (f := 28) rfl ?_); refine goesL_ (some 18) rfl rfl Try.func28 (by kernel_rfl) rfl #[.int .i32 (Go.bits .and .i32 a1 2147483647)] rfl (by (try simp only [List.map_toArray, List.map_cons, List.map_nil]); first | done | rfl | (simp only [List.length_drop, List.length_take]; rfl)) ?_; (with_reducible refine (impl_ASRune.calls (Go.bits .and .i32 a1 2147483647) t149 t150 _ A4.out).mono ?_); rintro e w' ⟨rfl, ⟨nd, rfl⟩⟩; refine ⟨_, rfl, ?_⟩))
              go_ret
              exact ⟨by first | rfl | (simp [errW_none, errW_some] <;> rfl) | (simp [*, errW_none, errW_some] <;> rfl), by repeat (first | (with_reducible first | exact HB.out | apply below_alloc | apply pw_below_drewN | apply below_drew1) | exact HB.out)⟩
        · rw [if_neg c17] at H
          have c17b0 : (t149 == (decide ((Go.bits .and .i32 a1 2147483647) < 128))) = false := by simpa using c17
          (try (have c17b1 : decide (t149 = (decide ((Go.bits .and .i32 a1 2147483647) < 128))) = false := by simpa using c17))
          (try (have c17b2 : (t149 == (decide ((Go.bits .and .i32 a1 2147483647) < 128))) = false := by simpa using c17))
          (try (have c17b3 : ¬ (t149 = (decide ((Go.bits .and .i32 a1 2147483647) < 128))) := by simpa using c17))
          clear c17
          obtain rfl := Option.some.inj H
          go_enter Try.func8, Try.ntmps8
          go_wp2_with (first | ((with_reducible refine gate_callee (f := 27) rfl ?_); refine goesL_ (some 13) rfl rfl Try.func27 (by kernel_rfl) rfl #[.int .u8 a0] rfl (by (try simp only [List.map_toArray, List.map_cons, List.map_nil]); first | done | rfl | (simp only [List.length_drop, List.length_take]; rfl)) ?_; (with_reducible refine (impl_ASByte.calls a0 t147 t148 _ A3.out).mono ?_); rintro e w' ⟨rfl, ⟨nd, rfl⟩⟩; refine ⟨_, rfl, ?_⟩) | ((with_reducible refine gate_callee (f := 28) rfl ?_); refine goesL_ (some 18) rfl rfl Try.func28 (by kernel_rfl) rfl #[.int .i32 (Go.bits .and .i32 a1 2147483647)] rfl (by (try simp only [List.map_toArray, List.map_cons, List.map_nil]); first | done | rfl | (simp only [List.length_drop, List.length_take]; rfl)) ?_; (with_reducible refine (impl_ASRune.calls (Go.bits .and .i32 a1 2147483647) t149 t150 _ A4.out).mono ?_); rintro e w' ⟨rfl, ⟨nd, rfl⟩⟩; refine ⟨_, rfl, ?_⟩))
          go_ret
          exact ⟨by first | rfl | (simp [errW_none, errW_some] <;> rfl) | (simp [*, errW_none, errW_some] <;> rfl), by repeat (first | (with_reducible first | exact HB.out | apply below_alloc | apply pw_below_drewN | apply below_drew1) | exact HB.out)⟩
      · rw [if_neg c16] at H
        have c16b0 : (t148 == false) = false := by simpa using c16
        (try (have c16b1 : decide (t148 = false) = false := by simpa using c16))
        (try (have c16b2 : (t148 == false) = false := by simpa using c16))
        (try (have c16b3 : ¬ (t148 = false) := by simpa using c16))
        clear c16
        obtain rfl := Option.some.inj H
        go_enter Try.func8, Try.ntmps8
        go_wp2_with (first | ((with_reducible refine gate_callee (f := 27) rfl ?_); refine goesL_ (some 13) rfl rfl Try.func27 (by kernel_rfl) rfl #[.int .u8 a0] rfl (by (try simp only [List.map_toArray, List.map_cons, List.map_nil]); first | done | rfl | (simp only [List.length_drop, List.length_take]; rfl)) ?_; (with_reducible refine (impl_ASByte.calls a0 t147 t148 _ A3.out).mono ?_); rintro e w' ⟨rfl, ⟨nd, rfl⟩⟩; refine ⟨_, rfl, ?_⟩) | ((with_reducible refine gate_callee (f := 28) rfl ?_); refine goesL_ (some 18) rfl rfl Try.func28 (by kernel_rfl) rfl #[.int .i32 (Go.bits .and .i32 a1 2147483647)] rfl (by (try simp only [List.map_toArray, List.map_cons, List.map_nil]); first | done | rfl | (simp only [List.length_drop, List.length_take]; rfl)) ?_; (with_reducible refine (impl_ASRune.calls (Go.bits .and .i32 a1 2147483647) t149 t150 _ A4.out).mono ?_); rintro e w' ⟨rfl, ⟨nd, rfl⟩⟩; refine ⟨_, rfl, ?_⟩))
        go_ret
        exact ⟨by first | rfl | (simp [errW_none, errW_some] <;> rfl) | (simp [*, errW_none, errW_some] <;> rfl), by repeat (first | (with_reducible first | exact HB.out | apply below_alloc | apply pw_below_drewN | apply below_drew1) | exact HB.out)⟩
  · rw [if_neg c5] at H
    have c5b0 : (t147 == (decide (a0 < 128))) = false := by simpa using c5
    (try (have c5b1 : decide (t147 = (decide (a0 < 128))) = false := by simpa using c5))
    (try (have c5b2 : (t147 == (decide (a0 < 128))) = false := by simpa using c5))
    (try (have c5b3 : ¬ (t147 = (decide (a0 < 128))) := by simpa using c5))
    clear c5
    obtain rfl := Option.some.inj H
    go_enter Try.func8, Try.ntmps8
    go_wp2_with (first | ((with_reducible refine gate_callee (f := 27) rfl ?_); refine goesL_ (some 13) rfl rfl Try.func27 (by kernel_rfl) rfl #[.int .u8 a0] rfl (by (try simp only [List.map_toArray, List.map_cons, List.map_nil]); first | done | rfl | (simp only [List.length_drop, List.length_take]; rfl)) ?_; (with_reducible refine (impl_ASByte.calls a0 t147 t148 _ A3.out).mono ?_); rintro e w' ⟨rfl, ⟨nd, rfl⟩⟩; refine ⟨_, rfl, ?_⟩) | ((with_reducible refine gate_callee (f := 28) rfl ?_); refine goesL_ (some 18) rfl rfl Try.func28 (by kernel_rfl) rfl #[.int .i32 (Go.bits .and .i32 a1 2147483647)] rfl (by (try simp only [List.map_toArray, List.map_cons, List.map_nil]); first | done | rfl | (simp only [List.length_drop, List.length_take]; rfl)) ?_; (with_reducible refine (impl_ASRune.calls (Go.bits .and .i32 a1 2147483647) t149 t150 _ A4.out).mono ?_); rintro e w' ⟨rfl, ⟨nd, rfl⟩⟩; refine ⟨_, rfl, ?_⟩))
    go_ret
    exact ⟨by first | rfl | (simp [errW_none, errW_some] <;> rfl) | (simp [*, errW_none, errW_some] <;> rfl), by repeat (first | (with_reducible first | exact HB.out | apply below_alloc | apply pw_below_drewN | apply below_drew1) | exact HB.out)⟩

/-- THE ONE PURE STATEMENT of laws_FnASBytes: yours. -/
def laws_FnASBytes.Pure : Prop := ∀ (a0 : Int) (a1 : Int), (Lit.int .u8 a0).wf = true → (Lit.int .i32 a1).wf = true → ∃ k, laws_FnASBytes.f k a0 a1 = some true
theorem laws_FnASBytes.walk (P : laws_FnASBytes.Pure) (a0 : Int) (a1 : Int) (w : World) (w0 : (Lit.int .u8 a0).wf = true) (w1 : (Lit.int .i32 a1).wf = true) :
    Calls Try.prog 8 #[.int .u8 a0, .int .i32 a1] w fun e w' => e = .returned (.bool true) ∧ Below w.heap.size w w' := by
  obtain ⟨k, h⟩ := P a0 a1 w0 w1
  refine (laws_FnASBytes.calls k a0 a1 true w h).mono ?_
  rintro e w' ⟨rfl, hd⟩
  exact ⟨rfl, hd⟩

end Go.Proofs.Ytmhngpihkaignaa.PFnASBytes
