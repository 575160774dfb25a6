/- Written by mend.py (wip/) out of the print's text of this law: the functions of the law from 'asAwake' on, each with what it comes to; with no condition. -/
import Derived.Test.YtmhngpihkaignaaPFnASValidx0
import Derived.Test.YtmhngpihkaignaaPFnASValidx1
import Derived.Test.YtmhngpihkaignaaOwnMark
namespace Go.Proofs.Ytmhngpihkaignaa.PFnASValid
open Go.Proofs.Ytmhngpihkaignaa.OwnMark Go.RowKit Go.Proofs.YtmhngpihkaignaaW.PrintWords Go.Proofs.YtmhngpihkaignaaW.PrintLast Go.Proofs.YtmhngpihkaignaaW.PrintMore
attribute [local go_sem] max2_int min2_int max_two min_two max_three min_three max_four min_four   -- for this text's walks alone
set_option linter.unusedVariables false
set_option linter.unusedSimpArgs false

/-! ### impl_ASPrint: function 25 -/
def impl_ASPrint.f (k : Nat) (l0 : List Int) (a1 : Bool) : Option (Bool) := if a1 = true then ((ascii_ValidPrintString_47.f k (strOfNums l0)).bind fun t118 => (some t118)) else ((ascii_ValidPrint_48.f k l0).bind fun t119 => (some t119))
theorem impl_ASPrint.mono : ∀ a0 a1 k, LeO (impl_ASPrint.f k a0 a1) (impl_ASPrint.f (k + 1) a0 a1) := by
  intro a0 a1 k
  unfold impl_ASPrint.f
  repeat' first
      | (with_reducible exact ascii_ValidPrintString_47.mono _ _)
      | (with_reducible exact ascii_ValidPrint_48.mono _ _)
      | (with_reducible exact LeO.refl _)
      | (with_reducible exact LeO.none _)
      | (with_reducible refine LeO.ite ?_ ?_)
      | (with_reducible refine LeO.bind ?_ (fun _ => ?_))
      | exact ascii_ValidPrintString_47.mono _ _
      | exact ascii_ValidPrint_48.mono _ _
      | exact LeO.none _
      | refine LeO.ite ?_ ?_
      | refine LeO.bind ?_ (fun _ => ?_)
set_option maxHeartbeats 8000000 in
set_option maxRecDepth 100000 in
theorem impl_ASPrint.calls (k : Nat) (A0 : Option Addr) (c0 : Nat) (l0 : List Int) (a1 : Bool) (r : Bool) (w : World) (hr0 : Kd.C (Kd.int .u8) w A0 l0.length l0) (hc0 : l0.length ≤ c0) (h : impl_ASPrint.f k l0 a1 = some r) :
    Calls Try.prog 25 #[.slice A0 l0.length c0, .bool a1] w fun e w' => e = .returned (.bool r) ∧ Drawn0 w w' := by
  have HR0 := Aside0.mk hr0
  have HC0 := Aside0.mk hc0
  clear hr0 hc0
  have H : (if a1 = true then ((ascii_ValidPrintString_47.f k (strOfNums l0)).bind fun t118 => (some t118)) else ((ascii_ValidPrint_48.f k l0).bind fun t119 => (some t119))) = some r := h
  clear h
  by_cases c3 : a1 = true
  · subst c3
    have H1 : ((ascii_ValidPrintString_47.f k (strOfNums l0)).bind fun t118 => (some t118)) = some r := by rw [if_pos rfl] at H; exact H
    clear H
    have H := H1
    clear H1
    replace H := Option.bind_eq_some_iff.mp H
    obtain ⟨t118, A40, H⟩ := H
    replace H : (some t118) = some r := H
    have A4 := Aside0.mk A40
    clear A40
    obtain rfl := Option.some.inj H
    have hcv5 := Kd.C_string (P := Try.prog) (A := A0) (c := c0) Try.underlying31 Try.underlying5 Try.underlying9 HR0.out
    go_enter Try.func25, Try.ntmps25
    go_wp2_with (first | ((with_reducible refine gate_callee (f := 47) rfl ?_); refine goesL_ (some 8) rfl rfl Try.func47 (by kernel_rfl) rfl #[.string (strOfNums l0)] rfl (by (try simp only [List.map_toArray, List.map_cons, List.map_nil]); first | done | rfl | (simp only [List.length_drop, List.length_take]; rfl)) ?_; (with_reducible refine (ascii_ValidPrintString_47.calls k (strOfNums l0) t118 _ A4.out).mono ?_); rintro e w' ⟨rfl, ⟨nd, rfl⟩⟩; refine ⟨_, rfl, ?_⟩))
    go_ret
    exact ⟨by first | rfl | (simp; done) | (simp [*]; done), by repeat (first | exact Drawn0.refl _ | apply Drawn0.step)⟩
  · replace c3 := Bool.eq_false_iff.mpr c3
    subst c3
    have H1 : ((ascii_ValidPrint_48.f k l0).bind fun t119 => (some t119)) = some r := by rw [if_neg (show ¬ (false = true) by decide)] at H; exact H
    clear H
    have H := H1
    clear H1
    replace H := Option.bind_eq_some_iff.mp H
    obtain ⟨t119, A60, H⟩ := H
    replace H : (some t119) = some r := H
    have A6 := Aside0.mk A60
    clear A60
    obtain rfl := Option.some.inj H
    go_enter Try.func25, Try.ntmps25
    go_wp2_with (first | ((with_reducible refine gate_callee (f := 48) rfl ?_); refine goesL_ (some 10) rfl rfl Try.func48 (by kernel_rfl) rfl #[.slice A0 l0.length c0] rfl (by (try simp only [List.map_toArray, List.map_cons, List.map_nil]); first | done | rfl | (simp only [List.length_drop, List.length_take]; rfl)) ?_; (with_reducible refine (ascii_ValidPrint_48.calls k _ _ l0 t119 _ ?side1 ?side2 A6.out).mono ?_); (case side1 => repeat (first | exact HR0.out | (with_reducible refine Kd.C_alloc ?_ _) | (with_reducible refine Kd.C_drewN ?_ _) | (with_reducible refine Kd.C_drew ?_))); (case side2 => exact HC0.out); rintro e w' ⟨rfl, ⟨nd, rfl⟩⟩; refine ⟨_, rfl, ?_⟩))
    go_ret
    exact ⟨by first | rfl | (simp; done) | (simp [*]; done), by repeat (first | exact Drawn0.refl _ | apply Drawn0.step)⟩

/-! ### laws_asAwake: function 21 -/
def laws_asAwake.f (k : Nat)  : Option (Bool) := (impl_ASValid.f k (([97, 98, 99] : List Int)) true).bind fun t123 => (if t123 = true then ((impl_ASValid.f k (([97, 98, 255] : List Int)) false).bind fun t127 => (if t127 = true then (some false) else ((impl_ASFold.f k (([97, 66] : List Int)) (([65, 98] : List Int)) false).bind fun t134 => (if t134 = true then ((impl_ASPrint.f k (([97, 32, 98] : List Int)) false).bind fun t138 => (some t138)) else (some false))))) else (some false))
theorem laws_asAwake.mono : ∀ k, LeO (laws_asAwake.f k ) (laws_asAwake.f (k + 1) ) := by
  intro  k
  unfold laws_asAwake.f
  repeat' first
      | (with_reducible exact impl_ASFold.mono _ _ _ _)
      | (with_reducible exact impl_ASPrint.mono _ _ _)
      | (with_reducible exact impl_ASValid.mono _ _ _)
      | (with_reducible exact LeO.refl _)
      | (with_reducible exact LeO.none _)
      | (with_reducible refine LeO.ite ?_ ?_)
      | (with_reducible refine LeO.bind ?_ (fun _ => ?_))
      | exact impl_ASFold.mono _ _ _ _
      | exact impl_ASPrint.mono _ _ _
      | exact impl_ASValid.mono _ _ _
      | exact LeO.none _
      | refine LeO.ite ?_ ?_
      | refine LeO.bind ?_ (fun _ => ?_)
theorem awake_true (k : Nat) (r : Bool) (h : laws_asAwake.f k = some r) : r = true := by
  have h6 : laws_asAwake.f 6 = some true := by decide +kernel
  have up : ∀ n, laws_asAwake.f (6 + n) = some true := by
    intro n; induction n with
    | zero => exact h6
    | succ n ih => exact laws_asAwake.mono (6 + n) _ ih
  have up2 : ∀ n, laws_asAwake.f (k + n) = some r := by
    intro n; induction n with
    | zero => exact h
    | succ n ih => exact laws_asAwake.mono (k + n) _ ih
  have e := up k; rw [Nat.add_comm, up2 6] at e; injection e
set_option maxHeartbeats 8000000 in
set_option maxRecDepth 100000 in
theorem laws_asAwake.calls (k : Nat) (r : Bool) (w : World) (h : laws_asAwake.f k = some r) :
    Calls Try.prog 21 #[] w fun e w' => e = .returned (.bool r) ∧ Below w.heap.size w w' := by
  obtain rfl := awake_true k r h
  clear h
  have HB := Aside0.mk (Below.refl w.heap.size w)
  obtain ⟨y0, N0⟩ : ∃ y : List Int, Aside0 (y = [97, 98, 99]) := ⟨_, ⟨rfl⟩⟩
  obtain ⟨y1, N1⟩ : ∃ y : List Int, Aside0 (y = [97, 98, 255]) := ⟨_, ⟨rfl⟩⟩
  obtain ⟨y2, N2⟩ : ∃ y : List Int, Aside0 (y = [97, 66]) := ⟨_, ⟨rfl⟩⟩
  obtain ⟨y3, N3⟩ : ∃ y : List Int, Aside0 (y = [65, 98]) := ⟨_, ⟨rfl⟩⟩
  obtain ⟨y4, N4⟩ : ∃ y : List Int, Aside0 (y = [97, 32, 98]) := ⟨_, ⟨rfl⟩⟩
  have Fa0 : Aside0 (impl_ASValid.f 6 y0 true = some true) := ⟨by rw [N0.out]; decide +kernel⟩
  have Fa1 : Aside0 (impl_ASValid.f 6 y1 false = some false) := ⟨by rw [N1.out]; decide +kernel⟩
  have Fa2 : Aside0 (impl_ASFold.f 6 y2 y3 false = some true) := ⟨by rw [N2.out, N3.out]; decide +kernel⟩
  have Fa3 : Aside0 (impl_ASPrint.f 6 y4 false = some true) := ⟨by rw [N4.out]; decide +kernel⟩
  go_enter Try.func21, Try.ntmps21
  go_wp2_with (first | ((with_reducible refine gate_dst (N := 1) rfl ?_); (try (refine gate_guard (by rfl) ?_; dsimp only)); refine mark_lit (xs := y0) (w0 := w) Try.underlying31 Try.underlying5 (by rw [N0.out]; simp) (by rw [N0.out]; simp) ?hg (N := 1) ?hd (by repeat (first | (with_reducible first | exact HB.out | apply below_alloc | apply pw_below_drewN | apply below_drew1) | exact HB.out)) ?hr ?_; (case hd => rfl); (case hg => rfl); (case hr => rw [N0.out]; first | (go_simp; done) | (go_simp; rfl)); intro A0 c0 w1 w0 hcv0 hC hle hb hB2; have HC0 := Aside0.mk hC; have HL0 := Aside0.mk hle; clear HB; have HB := Aside0.mk hB2; clear hB2 hb hC hle) | (go_at_call 23; (with_reducible refine (impl_ASValid.calls 6 _ _ y0 true true _ ?s0 ?s1 Fa0.out).mono ?_); (case s0 => repeat (first | exact HC0.out | (with_reducible refine Kd.C_alloc ?_ _) | (with_reducible refine Kd.C_drewN ?_ _) | (with_reducible refine Kd.C_drew ?_))); (case s1 => exact HL0.out); rintro e w' ⟨rfl, ⟨nd, rfl⟩⟩) | ((with_reducible refine gate_dst (N := 5) rfl ?_); (try (refine gate_guard (by rfl) ?_; dsimp only)); refine mark_lit (xs := y1) (w0 := w) Try.underlying31 Try.underlying5 (by rw [N1.out]; simp) (by rw [N1.out]; simp) ?hg (N := 5) ?hd (by repeat (first | (with_reducible first | exact HB.out | apply below_alloc | apply pw_below_drewN | apply below_drew1) | exact HB.out)) ?hr ?_; (case hd => rfl); (case hg => rfl); (case hr => rw [N1.out]; first | (go_simp; done) | (go_simp; rfl)); intro A1 c1 w1 w1 hcv1 hC hle hb hB2; have HC1 := Aside0.mk hC; have HL1 := Aside0.mk hle; clear HB; have HB := Aside0.mk hB2; clear hB2 hb hC hle) | (go_at_call 23; (with_reducible refine (impl_ASValid.calls 6 _ _ y1 false false _ ?s0 ?s1 Fa1.out).mono ?_); (case s0 => repeat (first | exact HC1.out | (with_reducible refine Kd.C_alloc ?_ _) | (with_reducible refine Kd.C_drewN ?_ _) | (with_reducible refine Kd.C_drew ?_))); (case s1 => exact HL1.out); rintro e w' ⟨rfl, ⟨nd, rfl⟩⟩) | ((with_reducible refine gate_dst (N := 11) rfl ?_); (try (refine gate_guard (by rfl) ?_; dsimp only)); refine mark_lit (xs := y2) (w0 := w) Try.underlying31 Try.underlying5 (by rw [N2.out]; simp) (by rw [N2.out]; simp) ?hg (N := 11) ?hd (by repeat (first | (with_reducible first | exact HB.out | apply below_alloc | apply pw_below_drewN | apply below_drew1) | exact HB.out)) ?hr ?_; (case hd => rfl); (case hg => rfl); (case hr => rw [N2.out]; first | (go_simp; done) | (go_simp; rfl)); intro A2 c2 w1 w2 hcv2 hC hle hb hB2; have HC2 := Aside0.mk hC; have HL2 := Aside0.mk hle; clear HB; have HB := Aside0.mk hB2; clear hB2 hb hC hle) | ((with_reducible refine gate_dst (N := 13) rfl ?_); (try (refine gate_guard (by rfl) ?_; dsimp only)); refine mark_lit (xs := y3) (w0 := w) Try.underlying31 Try.underlying5 (by rw [N3.out]; simp) (by rw [N3.out]; simp) ?hg (N := 13) ?hd (by repeat (first | (with_reducible first | exact HB.out | apply below_alloc | apply pw_below_drewN | apply below_drew1) | exact HB.out)) ?hr ?_; (case hd => rfl); (case hg => rfl); (case hr => rw [N3.out]; first | (go_simp; done) | (go_simp; rfl)); intro A3 c3 w1 w3 hcv3 hC hle hb hB2; have HC3 := Aside0.mk hC; have HL3 := Aside0.mk hle; have n_ := Aside0.mk (Kd.C_below HC2.out hb); clear HC2; have HC2 := n_; clear n_; clear HB; have HB := Aside0.mk hB2; clear hB2 hb hC hle) | (go_at_call 19; (with_reducible refine (impl_ASFold.calls 6 _ _ y2 _ _ y3 false true _ ?s0 ?s1 ?s2 ?s3 Fa2.out).mono ?_); (case s0 => repeat (first | exact HC2.out | (with_reducible refine Kd.C_alloc ?_ _) | (with_reducible refine Kd.C_drewN ?_ _) | (with_reducible refine Kd.C_drew ?_))); (case s1 => exact HL2.out); (case s2 => repeat (first | exact HC3.out | (with_reducible refine Kd.C_alloc ?_ _) | (with_reducible refine Kd.C_drewN ?_ _) | (with_reducible refine Kd.C_drew ?_))); (case s3 => exact HL3.out); rintro e w' ⟨rfl, ⟨nd, rfl⟩⟩) | ((with_reducible refine gate_dst (N := 18) rfl ?_); (try (refine gate_guard (by rfl) ?_; dsimp only)); refine mark_lit (xs := y4) (w0 := w) Try.underlying31 Try.underlying5 (by rw [N4.out]; simp) (by rw [N4.out]; simp) ?hg (N := 18) ?hd (by repeat (first | (with_reducible first | exact HB.out | apply below_alloc | apply pw_below_drewN | apply below_drew1) | exact HB.out)) ?hr ?_; (case hd => rfl); (case hg => rfl); (case hr => rw [N4.out]; first | (go_simp; done) | (go_simp; rfl)); intro A4 c4 w1 w4 hcv4 hC hle hb hB2; have HC4 := Aside0.mk hC; have HL4 := Aside0.mk hle; clear HB; have HB := Aside0.mk hB2; clear hB2 hb hC hle) | (go_at_call 25; (with_reducible refine (impl_ASPrint.calls 6 _ _ y4 false true _ ?s0 ?s1 Fa3.out).mono ?_); (case s0 => repeat (first | exact HC4.out | (with_reducible refine Kd.C_alloc ?_ _) | (with_reducible refine Kd.C_drewN ?_ _) | (with_reducible refine Kd.C_drew ?_))); (case s1 => exact HL4.out); rintro e w' ⟨rfl, ⟨nd, rfl⟩⟩))
  go_ret
  exact ⟨rfl, (by repeat (first | (with_reducible first | exact HB.out | apply below_alloc | apply pw_below_drewN | apply below_drew1) | exact HB.out))⟩

/-! ### laws_asFew: function 22 -/
def laws_asFew.f (l0 : List Int) : Option (List Int) := if 0 ≤ (mn (l0.length : Int) 100) then (if (mn (l0.length : Int) 100) ≤ (l0.length : Int) then (some (l0.take ((mn (l0.length : Int) 100) : Int).toNat)) else (none)) else (none)
set_option maxHeartbeats 8000000 in
set_option maxRecDepth 100000 in
theorem laws_asFew.calls (P0_ : Nat → Prop) (A0 : Option Addr) (c0 : Nat) (l0 : List Int) (r : List Int) (w : World) (hs0 : Kd.V (Kd.int .u8) 5 w w.heap.size (fun k_ => P0_ k_) (.slice A0 l0.length c0) l0) (h : laws_asFew.f l0 = some r) :
    Calls Try.prog 22 #[.slice A0 l0.length c0] w fun e w' => ∃ v0_ : Value, e = .returned (v0_) ∧ Kd.V (Kd.int .u8) 5 w' w.heap.size (fun k_ => (P0_ k_ ∨ w.heap.size ≤ k_)) v0_ r ∧ Below w.heap.size w w' := by
  have HO0 := Aside0.mk (show Kd.V (Kd.int .u8) 5 w w.heap.size (fun k_ => (P0_ k_ ∨ w.heap.size ≤ k_)) (.slice A0 l0.length c0) l0 from Kd.V_mono hs0 (fun k_ hk => .inl hk))
  have HB := Aside0.mk (Below.refl w.heap.size w)
  have H : (if 0 ≤ (mn (l0.length : Int) 100) then (if (mn (l0.length : Int) 100) ≤ (l0.length : Int) then (some (l0.take ((mn (l0.length : Int) 100) : Int).toNat)) else (none)) else (none)) = some r := h
  clear h
  obtain ⟨ji2, hji2⟩ : ∃ j_ : Int, (mn (l0.length : Int) 100) = j_ := ⟨_, rfl⟩
  replace H : (if 0 ≤ (ji2) then (if (ji2) ≤ (l0.length : Int) then (some (l0.take ((ji2) : Int).toNat)) else (none)) else (none)) = some r := by first | (rw [hji2] at H; exact H) | (simp only [hji2] at H ⊢; exact H)
  (try (have hji2h : ji2 ≤ 100 := by (rw [← hji2]; unfold mn; (repeat' split) <;> omega)))
  (try (have hji2g : ji2 ≤ 64 := by omega))
  (try (have hji2l : 0 ≤ ji2 := by (rw [← hji2]; unfold mn; (repeat' split) <;> omega)))
  (try (have hji2m : 0 ≤ ji2 := by omega))
  have hji2_ : (if 100 < (l0.length : Int) then 100 else (l0.length : Int)) = ji2 := hji2
  by_cases c3 : 0 ≤ (ji2)
  · rw [if_pos c3] at H
    have c3b0 := eq_true c3
    have c3b1 : decide (0 ≤ (ji2)) = true := decide_eq_true c3
    clear c3
    by_cases c4 : (ji2) ≤ (l0.length : Int)
    · rw [if_pos c4] at H
      have c4b0 := eq_true c4
      have c4b1 : decide ((ji2) ≤ (l0.length : Int)) = true := decide_eq_true c4
      clear c4
      obtain ⟨y139, hy139⟩ : ∃ y_ : List Int, y_ = (l0.take ((ji2) : Int).toNat) := ⟨_, rfl⟩
      replace H : (some y139) = some r := by first | (rw [hy139]; with_reducible exact H) | (have H2_ := (Option.bind_some _ _).symm.trans H; rw [hy139]; with_reducible exact H2_) | (have H2_ := (Option.bind_some _ _).symm.trans H; with_reducible exact H2_) | with_reducible exact H | (rw [hy139]; exact H) | exact H
      have Ny139 := Aside0.mk hy139
      clear hy139
      obtain rfl := Option.some.inj H
      have q5 : ((ji2) : Int) ≤ ((l0.length : Int) : Int) := of_decide_eq_true (by first | (with_reducible assumption) | assumption)
      obtain ⟨i05, hi05, _, hsz5, _⟩ := info_parts info5
      have hroom5 : l0.length ≤ c0 := (Kd.V_reads' HO0.out).2.1
      have hC5 : Kd.F (Kd.int .u8) _ _ A0 l0.length l0 := (Kd.V_at (base := w.heap.size) HO0.out).2.2
      have hcut5 := cut_to (P := Try.prog) 31 5 .i64 Try.underlying31 hi05 A0 l0.length c0 (ji2) (of_decide_eq_true (by first | (with_reducible assumption) | assumption)) q5 hroom5
      have hr5 := Kd.F_take (m := ((ji2) : Int).toNat) hC5 (by omega)
      have hy5 : y139.length = ((ji2) : Int).toNat := (by rw [Ny139.out, List.length_take]; omega)
      rw [← Ny139.out] at hr5
      rw [← hy5] at hcut5
      have HO143 := Aside0.mk (show Kd.V (Kd.int .u8) 5 _ w.heap.size _ (.slice A0 y139.length c0) y139 from Kd.V_mk (by omega) hr5)
      have HC143 := Aside0.mk (show y139.length ≤ c0 from by omega)
      clear hr5 hC5 hroom5 hi05 hsz5
      have KY5 := Aside0.mk hy5
      clear hy5
      replace q5 := eq_true q5
      go_enter Try.func22, Try.ntmps22
      go_wp2
      go_ret
      exact ⟨_, by first | rfl | (simp [errW_none, errW_some] <;> rfl) | (simp only [← hji2]; first | rfl | (simp [errW_none, errW_some] <;> rfl)) | (simp [*, errW_none, errW_some] <;> rfl), by (with_reducible repeat (first | apply Kd.V_alloc | apply Kd.V_drewN | apply Kd.V_drew)); exact HO143.out, by repeat (first | (with_reducible first | exact HB.out | apply below_alloc | apply pw_below_drewN | apply below_drew1) | exact HB.out)⟩
    · rw [if_neg c4] at H
      exact absurd H (by simp)
  · rw [if_neg c3] at H
    exact absurd H (by simp)

/-! ### spec_ASValid: function 24 -/
def spec_ASValid.l0 : Nat → List Int → Int → Option (Bool)
  | 0, _, _ => none
  | k + 1, x0, x3 => if x3 < (x0.length : Int) then (if 0 ≤ x3 then (if (rd x0 x3) > 127 then (some false) else (spec_ASValid.l0 k x0 (wrap64 (x3 + 1)))) else (none)) else (some true)
def spec_ASValid.f (k : Nat) (l0 : List Int) : Option (Bool) := spec_ASValid.l0 k l0 0
theorem spec_ASValid.mono_l : ∀ k, (∀ y0 y1, LeO (spec_ASValid.l0 k y0 y1) (spec_ASValid.l0 (k + 1) y0 y1))
  | 0 => fun _ _ r h => by simp [spec_ASValid.l0] at h
  | k + 1 => by
    have ih0 := spec_ASValid.mono_l k
    · intro y0 y1
      unfold spec_ASValid.l0
      repeat' first
      | (with_reducible exact ih0 _ _)
      | (with_reducible exact LeO.refl _)
      | (with_reducible exact LeO.none _)
      | (with_reducible refine LeO.ite ?_ ?_)
      | (with_reducible refine LeO.bind ?_ (fun _ => ?_))
      | exact ih0 _ _
      | exact LeO.none _
      | refine LeO.ite ?_ ?_
      | refine LeO.bind ?_ (fun _ => ?_)
theorem spec_ASValid.mono : ∀ a0 k, LeO (spec_ASValid.f k a0) (spec_ASValid.f (k + 1) a0) := by
  intro a0 k
  have ih0 := spec_ASValid.mono_l k
  unfold spec_ASValid.f
  repeat' first
      | (with_reducible exact ih0 _ _)
      | (with_reducible exact LeO.refl _)
      | (with_reducible exact LeO.none _)
      | (with_reducible refine LeO.ite ?_ ?_)
      | (with_reducible refine LeO.bind ?_ (fun _ => ?_))
      | exact ih0 _ _
      | exact LeO.none _
      | refine LeO.ite ?_ ?_
      | refine LeO.bind ?_ (fun _ => ?_)
set_option maxHeartbeats 8000000 in
set_option maxRecDepth 100000 in
theorem spec_ASValid.calls (k : Nat) (A0 : Option Addr) (c0 : Nat) (l0 : List Int) (r : Bool) (w : World) (hr0 : Kd.C (Kd.int .u8) w A0 l0.length l0) (hc0 : l0.length ≤ c0) (h : spec_ASValid.f k l0 = some r) :
    Calls Try.prog 24 #[.slice A0 l0.length c0] w fun e w' => e = .returned (.bool r) ∧ Drawn0 w w' := by
  have HR0 := Aside0.mk hr0
  have HC0 := Aside0.mk hc0
  clear hr0 hc0
  have H : (spec_ASValid.l0 k l0 0) = some r := h
  clear h
  have H' := Aside0.mk H
  clear H
  go_enter Try.func24, Try.ntmps24
  go_wp2
  go_loopg [3] k (fun kq v3 w' => ∃ (x3_1 : Int), v3 = .int .i64 x3_1 ∧ Aside0 (spec_ASValid.l0 kq l0 x3_1 = some r) ∧ Aside0 (kq ≤ k) ∧ Drawn0 w w')
  case atStart => exact ⟨(0), (by first | rfl | (simp; done) | (simp [*]; done)), H', ⟨Nat.le_refl _⟩, by repeat (first | exact Drawn0.refl _ | apply Drawn0.step)⟩
  case round =>
    clear H'
    obtain ⟨x3_1, rfl, HA, HK1, ⟨m1, rfl⟩⟩ := hrel
    cases gk with
    | zero => exact absurd HA.out (by simp [spec_ASValid.l0])
    | succ k1 =>
      have H := HA.out
      clear HA
      simp only [spec_ASValid.l0] at H
      by_cases c2 : x3_1 < (l0.length : Int)
      · rw [if_pos c2] at H
        have c2b0 : decide (x3_1 < (l0.length : Int)) = true := decide_eq_true c2
        clear c2
        by_cases c3 : 0 ≤ x3_1
        · rw [if_pos c3] at H
          have c3b0 : decide (0 ≤ x3_1) = true := decide_eq_true c3
          clear c3
          by_cases c4 : (rd l0 x3_1) > 127
          · rw [if_pos c4] at H
            have c4b0 : decide (127 < (rd l0 x3_1)) = true := decide_eq_true c4
            clear c4
            obtain rfl := Option.some.inj H
            have p144 : 0 ≤ (x3_1 : Int) := of_decide_eq_true (by first | (with_reducible assumption) | assumption)
            have q144 : x3_1 < (l0.length : Int) := of_decide_eq_true (by first | (with_reducible assumption) | assumption)
            obtain ⟨ad144, e144, hx144_0⟩ := Kd.at_int HR0.out x3_1 p144 q144
            cases e144
            replace p144 := eq_true p144
            replace q144 := eq_true q144
            go_wp2
            go_ret
            exact ⟨by first | rfl | (simp; done) | (simp [*]; done), by repeat (first | exact Drawn0.refl _ | apply Drawn0.step)⟩
          · rw [if_neg c4] at H
            have c4b0 : decide (127 < (rd l0 x3_1)) = false := decide_eq_false c4
            clear c4
            have H' := Aside0.mk H
            clear H
            have p144 : 0 ≤ (x3_1 : Int) := of_decide_eq_true (by first | (with_reducible assumption) | assumption)
            have q144 : x3_1 < (l0.length : Int) := of_decide_eq_true (by first | (with_reducible assumption) | assumption)
            obtain ⟨ad144, e144, hx144_0⟩ := Kd.at_int HR0.out x3_1 p144 q144
            cases e144
            replace p144 := eq_true p144
            replace q144 := eq_true q144
            go_wp2
            go_roundg k1
            case measure => have := HK1.out; omega
            case rel => exact ⟨(wrap64 (x3_1 + 1)), (by first | rfl | (simp; done) | (simp [*]; done)), H', ⟨by have := HK1.out; omega⟩, by repeat (first | exact Drawn0.refl _ | apply Drawn0.step)⟩
        · rw [if_neg c3] at H
          exact absurd H (by simp)
      · rw [if_neg c2] at H
        have c2b0 : decide (x3_1 < (l0.length : Int)) = false := decide_eq_false c2
        clear c2
        obtain rfl := Option.some.inj H
        go_wp2
        go_ret
        exact ⟨by first | rfl | (simp; done) | (simp [*]; done), by repeat (first | exact Drawn0.refl _ | apply Drawn0.step)⟩

/-! ### spec_ASPrint: function 26 -/
def spec_ASPrint.l0 : Nat → List Int → Int → Option (Bool)
  | 0, _, _ => none
  | k + 1, x0, x3 => if x3 < (x0.length : Int) then (if 0 ≤ x3 then (if (rd x0 x3) < 32 then (some false) else (if (rd x0 x3) > 126 then (some false) else (spec_ASPrint.l0 k x0 (wrap64 (x3 + 1))))) else (none)) else (some true)
def spec_ASPrint.f (k : Nat) (l0 : List Int) : Option (Bool) := spec_ASPrint.l0 k l0 0
theorem spec_ASPrint.mono_l : ∀ k, (∀ y0 y1, LeO (spec_ASPrint.l0 k y0 y1) (spec_ASPrint.l0 (k + 1) y0 y1))
  | 0 => fun _ _ r h => by simp [spec_ASPrint.l0] at h
  | k + 1 => by
    have ih0 := spec_ASPrint.mono_l k
    · intro y0 y1
      unfold spec_ASPrint.l0
      repeat' first
      | (with_reducible exact ih0 _ _)
      | (with_reducible exact LeO.refl _)
      | (with_reducible exact LeO.none _)
      | (with_reducible refine LeO.ite ?_ ?_)
      | (with_reducible refine LeO.bind ?_ (fun _ => ?_))
      | exact ih0 _ _
      | exact LeO.none _
      | refine LeO.ite ?_ ?_
      | refine LeO.bind ?_ (fun _ => ?_)
theorem spec_ASPrint.mono : ∀ a0 k, LeO (spec_ASPrint.f k a0) (spec_ASPrint.f (k + 1) a0) := by
  intro a0 k
  have ih0 := spec_ASPrint.mono_l k
  unfold spec_ASPrint.f
  repeat' first
      | (with_reducible exact ih0 _ _)
      | (with_reducible exact LeO.refl _)
      | (with_reducible exact LeO.none _)
      | (with_reducible refine LeO.ite ?_ ?_)
      | (with_reducible refine LeO.bind ?_ (fun _ => ?_))
      | exact ih0 _ _
      | exact LeO.none _
      | refine LeO.ite ?_ ?_
      | refine LeO.bind ?_ (fun _ => ?_)
set_option maxHeartbeats 8000000 in
set_option maxRecDepth 100000 in
theorem spec_ASPrint.calls (k : Nat) (A0 : Option Addr) (c0 : Nat) (l0 : List Int) (r : Bool) (w : World) (hr0 : Kd.C (Kd.int .u8) w A0 l0.length l0) (hc0 : l0.length ≤ c0) (h : spec_ASPrint.f k l0 = some r) :
    Calls Try.prog 26 #[.slice A0 l0.length c0] w fun e w' => e = .returned (.bool r) ∧ Drawn0 w w' := by
  have HR0 := Aside0.mk hr0
  have HC0 := Aside0.mk hc0
  clear hr0 hc0
  have H : (spec_ASPrint.l0 k l0 0) = some r := h
  clear h
  have H' := Aside0.mk H
  clear H
  go_enter Try.func26, Try.ntmps26
  go_wp2
  go_loopg [3] k (fun kq v3 w' => ∃ (x3_1 : Int), v3 = .int .i64 x3_1 ∧ Aside0 (spec_ASPrint.l0 kq l0 x3_1 = some r) ∧ Aside0 (kq ≤ k) ∧ Drawn0 w w')
  case atStart => exact ⟨(0), (by first | rfl | (simp; done) | (simp [*]; done)), H', ⟨Nat.le_refl _⟩, by repeat (first | exact Drawn0.refl _ | apply Drawn0.step)⟩
  case round =>
    clear H'
    obtain ⟨x3_1, rfl, HA, HK1, ⟨m1, rfl⟩⟩ := hrel
    cases gk with
    | zero => exact absurd HA.out (by simp [spec_ASPrint.l0])
    | succ k1 =>
      have H := HA.out
      clear HA
      simp only [spec_ASPrint.l0] at H
      by_cases c2 : x3_1 < (l0.length : Int)
      · rw [if_pos c2] at H
        have c2b0 : decide (x3_1 < (l0.length : Int)) = true := decide_eq_true c2
        clear c2
        by_cases c3 : 0 ≤ x3_1
        · rw [if_pos c3] at H
          have c3b0 : decide (0 ≤ x3_1) = true := decide_eq_true c3
          clear c3
          by_cases c4 : (rd l0 x3_1) < 32
          · rw [if_pos c4] at H
            have c4b0 : decide ((rd l0 x3_1) < 32) = true := decide_eq_true c4
            clear c4
            obtain rfl := Option.some.inj H
            have p145 : 0 ≤ (x3_1 : Int) := of_decide_eq_true (by first | (with_reducible assumption) | assumption)
            have q145 : x3_1 < (l0.length : Int) := of_decide_eq_true (by first | (with_reducible assumption) | assumption)
            obtain ⟨ad145, e145, hx145_0⟩ := Kd.at_int HR0.out x3_1 p145 q145
            cases e145
            replace p145 := eq_true p145
            replace q145 := eq_true q145
            go_wp2
            go_ret
            exact ⟨by first | rfl | (simp; done) | (simp [*]; done), by repeat (first | exact Drawn0.refl _ | apply Drawn0.step)⟩
          · rw [if_neg c4] at H
            have c4b0 : decide ((rd l0 x3_1) < 32) = false := decide_eq_false c4
            clear c4
            by_cases c5 : (rd l0 x3_1) > 126
            · rw [if_pos c5] at H
              have c5b0 : decide (126 < (rd l0 x3_1)) = true := decide_eq_true c5
              clear c5
              obtain rfl := Option.some.inj H
              have p145 : 0 ≤ (x3_1 : Int) := of_decide_eq_true (by first | (with_reducible assumption) | assumption)
              have q145 : x3_1 < (l0.length : Int) := of_decide_eq_true (by first | (with_reducible assumption) | assumption)
              obtain ⟨ad145, e145, hx145_0⟩ := Kd.at_int HR0.out x3_1 p145 q145
              cases e145
              replace p145 := eq_true p145
              replace q145 := eq_true q145
              have p146 : 0 ≤ (x3_1 : Int) := of_decide_eq_true (by first | (with_reducible assumption) | assumption)
              have q146 : x3_1 < (l0.length : Int) := of_decide_eq_true (by first | (with_reducible assumption) | assumption)
              obtain ⟨ad146, e146, hx146_0⟩ := Kd.at_int HR0.out x3_1 p146 q146
              obtain rfl : ad145 = ad146 := (by injection e146)
              replace p146 := eq_true p146
              replace q146 := eq_true q146
              go_wp2
              go_ret
              exact ⟨by first | rfl | (simp; done) | (simp [*]; done), by repeat (first | exact Drawn0.refl _ | apply Drawn0.step)⟩
            · rw [if_neg c5] at H
              have c5b0 : decide (126 < (rd l0 x3_1)) = false := decide_eq_false c5
              clear c5
              have H' := Aside0.mk H
              clear H
              have p145 : 0 ≤ (x3_1 : Int) := of_decide_eq_true (by first | (with_reducible assumption) | assumption)
              have q145 : x3_1 < (l0.length : Int) := of_decide_eq_true (by first | (with_reducible assumption) | assumption)
              obtain ⟨ad145, e145, hx145_0⟩ := Kd.at_int HR0.out x3_1 p145 q145
              cases e145
              replace p145 := eq_true p145
              replace q145 := eq_true q145
              have p146 : 0 ≤ (x3_1 : Int) := of_decide_eq_true (by first | (with_reducible assumption) | assumption)
              have q146 : x3_1 < (l0.length : Int) := of_decide_eq_true (by first | (with_reducible assumption) | assumption)
              obtain ⟨ad146, e146, hx146_0⟩ := Kd.at_int HR0.out x3_1 p146 q146
              obtain rfl : ad145 = ad146 := (by injection e146)
              replace p146 := eq_true p146
              replace q146 := eq_true q146
              go_wp2
              go_roundg k1
              case measure => have := HK1.out; omega
              case rel => exact ⟨(wrap64 (x3_1 + 1)), (by first | rfl | (simp; done) | (simp [*]; done)), H', ⟨by have := HK1.out; omega⟩, by repeat (first | exact Drawn0.refl _ | apply Drawn0.step)⟩
        · rw [if_neg c3] at H
          exact absurd H (by simp)
      · rw [if_neg c2] at H
        have c2b0 : decide (x3_1 < (l0.length : Int)) = false := decide_eq_false c2
        clear c2
        obtain rfl := Option.some.inj H
        go_wp2
        go_ret
        exact ⟨by first | rfl | (simp; done) | (simp [*]; done), by repeat (first | exact Drawn0.refl _ | apply Drawn0.step)⟩

/-! ### laws_FnASValid: function 7 -/
def laws_FnASValid.l0 : Nat → List Int → List Bool → Int → Int → Option (Bool)
  | 0, _, _, _, _ => none
  | k + 1, x0, x10, x11, x12 => if x12 < x11 then (if 0 ≤ x12 then (if x12 < (x10.length : Int) then ((impl_ASValid.f k x0 (rdOf false x10 x12)).bind fun t155 => ((spec_ASValid.f k x0).bind fun t156 => (if (t155 != t156) = true then (some false) else ((impl_ASPrint.f k x0 (rdOf false x10 x12)).bind fun t157 => ((spec_ASPrint.f k x0).bind fun t158 => (if (t157 != t158) = true then (some false) else (laws_FnASValid.l0 k x0 x10 x11 (wrap64 (x12 + 1))))))))) else (none)) else (none)) else ((laws_asAwake.f k).bind fun t153 => (some t153))
def laws_FnASValid.f (k : Nat) (l0 : List Int) : Option (Bool) := if (l0.length : Int) > 2147483647 then (some true) else ((laws_asFew.f l0).bind fun t147 => ((some (([false, true] : List Bool) : List Bool)).bind fun y150 => (laws_FnASValid.l0 k t147 y150 (y150.length : Int) 0)))
theorem laws_FnASValid.mono_l : ∀ k, (∀ y0 y1 y2 y3, LeO (laws_FnASValid.l0 k y0 y1 y2 y3) (laws_FnASValid.l0 (k + 1) y0 y1 y2 y3))
  | 0 => fun _ _ _ _ r h => by simp [laws_FnASValid.l0] at h
  | k + 1 => by
    have ih0 := laws_FnASValid.mono_l k
    · intro y0 y1 y2 y3
      unfold laws_FnASValid.l0
      repeat' first
      | (with_reducible exact ih0 _ _ _ _)
      | (with_reducible exact impl_ASPrint.mono _ _ _)
      | (with_reducible exact impl_ASValid.mono _ _ _)
      | (with_reducible exact laws_asAwake.mono _)
      | (with_reducible exact spec_ASPrint.mono _ _)
      | (with_reducible exact spec_ASValid.mono _ _)
      | (with_reducible exact LeO.refl _)
      | (with_reducible exact LeO.none _)
      | (with_reducible refine LeO.ite ?_ ?_)
      | (with_reducible refine LeO.bind ?_ (fun _ => ?_))
      | exact ih0 _ _ _ _
      | exact impl_ASPrint.mono _ _ _
      | exact impl_ASValid.mono _ _ _
      | exact laws_asAwake.mono _
      | exact spec_ASPrint.mono _ _
      | exact spec_ASValid.mono _ _
      | exact LeO.none _
      | refine LeO.ite ?_ ?_
      | refine LeO.bind ?_ (fun _ => ?_)
theorem laws_FnASValid.mono : ∀ a0 k, LeO (laws_FnASValid.f k a0) (laws_FnASValid.f (k + 1) a0) := by
  intro a0 k
  have ih0 := laws_FnASValid.mono_l k
  unfold laws_FnASValid.f
  repeat' first
      | (with_reducible exact ih0 _ _ _ _)
      | (with_reducible exact impl_ASPrint.mono _ _ _)
      | (with_reducible exact impl_ASValid.mono _ _ _)
      | (with_reducible exact laws_asAwake.mono _)
      | (with_reducible exact spec_ASPrint.mono _ _)
      | (with_reducible exact spec_ASValid.mono _ _)
      | (with_reducible exact LeO.refl _)
      | (with_reducible exact LeO.none _)
      | (with_reducible refine LeO.ite ?_ ?_)
      | (with_reducible refine LeO.bind ?_ (fun _ => ?_))
      | exact ih0 _ _ _ _
      | exact impl_ASPrint.mono _ _ _
      | exact impl_ASValid.mono _ _ _
      | exact laws_asAwake.mono _
      | exact spec_ASPrint.mono _ _
      | exact spec_ASValid.mono _ _
      | exact LeO.none _
      | refine LeO.ite ?_ ?_
      | refine LeO.bind ?_ (fun _ => ?_)
set_option maxHeartbeats 8000000 in
set_option maxRecDepth 100000 in
theorem laws_FnASValid.calls (k : Nat) (A0 : Option Addr) (c0 : Nat) (l0 : List Int) (r : Bool) (w : World) (hr0 : Kd.C (Kd.int .u8) w A0 l0.length l0) (hc0 : l0.length ≤ c0) (h : laws_FnASValid.f k l0 = some r) :
    Calls Try.prog 7 #[.slice A0 l0.length c0] w fun e w' => e = .returned (.bool r) ∧ Below w.heap.size w w' := by
  have HR0 := Aside0.mk hr0
  have HC0 := Aside0.mk hc0
  clear hr0 hc0
  have HB := Aside0.mk (Below.refl w.heap.size w)
  have H : (if (l0.length : Int) > 2147483647 then (some true) else ((laws_asFew.f l0).bind fun t147 => ((some (([false, true] : List Bool) : List Bool)).bind fun y150 => (laws_FnASValid.l0 k t147 y150 (y150.length : Int) 0)))) = some r := h
  clear h
  by_cases c2 : (l0.length : Int) > 2147483647
  · rw [if_pos c2] at H
    have c2b0 : decide (2147483647 < (l0.length : Int)) = true := decide_eq_true c2
    have c2b1 : decide (2147483647 < l0.length) = true := decide_eq_true (by omega)
    clear c2
    obtain rfl := Option.some.inj H
    go_enter Try.func7, Try.ntmps7
    go_wp2
    go_ret
    exact ⟨by first | rfl | (simp [errW_none, errW_some] <;> rfl) | (simp [*, errW_none, errW_some] <;> rfl), by repeat (first | (with_reducible first | exact HB.out | apply below_alloc | apply pw_below_drewN | apply below_drew1) | exact HB.out)⟩
  · rw [if_neg c2] at H
    have c2b0 : decide (2147483647 < (l0.length : Int)) = false := decide_eq_false c2
    have c2b1 : decide (2147483647 < l0.length) = false := decide_eq_false (by omega)
    clear c2
    replace H := Option.bind_eq_some_iff.mp H
    obtain ⟨t147, A30, H⟩ := H
    replace H : ((some (([false, true] : List Bool) : List Bool)).bind fun y150 => (laws_FnASValid.l0 k t147 y150 (y150.length : Int) 0)) = some r := H
    have A3 := Aside0.mk A30
    clear A30
    obtain ⟨y150, hy150⟩ : ∃ y_ : List Bool, y_ = (([false, true] : List Bool)) := ⟨_, rfl⟩
    replace H : (laws_FnASValid.l0 k t147 y150 (y150.length : Int) 0) = some r := by first | (rw [hy150]; with_reducible exact H) | (have H2_ := (Option.bind_some _ _).symm.trans H; rw [hy150]; with_reducible exact H2_) | (have H2_ := (Option.bind_some _ _).symm.trans H; with_reducible exact H2_) | with_reducible exact H | (rw [hy150]; exact H) | exact H
    have Ny150 := Aside0.mk hy150
    clear hy150
    have H' := Aside0.mk H
    clear H
    go_enter Try.func7, Try.ntmps7
    go_wp2_with (first | ((with_reducible refine gate_callee (f := 22) rfl ?_); refine goesL_ (some 9) rfl rfl Try.func22 (by kernel_rfl) rfl #[.slice A0 l0.length c0] rfl (by (try simp only [List.map_toArray, List.map_cons, List.map_nil]); first | done | rfl | (simp only [List.length_drop, List.length_take]; rfl)) ?_; (with_reducible refine (laws_asFew.calls (fun k_ => k_ < w.heap.size) _ _ l0 t147 _ ?side1 A3.out).mono ?_); (case side1 => exact Kd.V_mk HC0.out (Kd.F_below (Kd.C_F (Kd.heap_int .u8) HR0.out) (by repeat (first | (with_reducible first | exact HB.out | apply below_alloc | apply pw_below_drewN | apply below_drew1) | exact HB.out)))); rintro e w4 ⟨v148, rfl, ho0, hb⟩; refine ⟨_, rfl, ?_⟩; have n0_ := Aside0.mk (Kd.V_lower (Kd.V_mono (ok' := fun k_ => True) ho0 (fun k_ hk_ => trivial)) (below_size (by repeat (first | (with_reducible first | exact HB.out | apply below_alloc | apply pw_below_drewN | apply below_drew1) | exact HB.out)))); have n1_ := Aside0.mk (below_step (by repeat (first | (with_reducible first | exact HB.out | apply below_alloc | apply pw_below_drewN | apply below_drew1) | exact HB.out)) hb); clear HB; have HO149 := n0_; have HB := n1_; clear n0_ n1_; (try clear hb); (try clear hb2); (try clear hk); (try clear hi); (try clear ho0)) | ((with_reducible refine gate_dst (N := 10) rfl ?_); refine Kd.R_lit Kd.bool _ 4 ?hg (N := 10) ?hd (xs := ([false, true] : List Bool)) (inner := [.bool false, .bool true]) (ok := fun _ => True) (okp := fun _ => True) ?hr ?hp (fun _ hk => hk) trivial (Below.refl _ _) (Nat.le_refl _) (by simp) ?_; (case hd => rfl); (case hg => rfl); (case hr => first | (go_simp; done) | (go_simp; rfl)); (case hp => exact (Reps.one (show Kd.M Kd.bool _ _ _ false [.bool false] from rfl) (Reps.one (show Kd.M Kd.bool _ _ _ true [.bool true] from rfl) (Reps.none _ _)))); intro v151 w5 ho6 hb hg_ hnew_; clear hg_ hnew_; (first | rw [← Ny150.out] at ho6 | (simp only [Int.reduceToNat] at ho6; rw [← Ny150.out] at ho6)); have n0_ := Aside0.mk (Kd.V_elder' (by (with_reducible repeat (first | apply Kd.V_alloc | apply Kd.V_drewN | apply Kd.V_drew)); exact HO149.out) (Kd.R_base ho6) hb); have n1_ := Aside0.mk (Kd.R_lower ho6 (below_size (by repeat (first | (with_reducible first | exact HB.out | apply below_alloc | apply pw_below_drewN | apply below_drew1) | exact HB.out)))); have n2_ := Aside0.mk (below_step (by repeat (first | (with_reducible first | exact HB.out | apply below_alloc | apply pw_below_drewN | apply below_drew1) | exact HB.out)) hb); clear HO149; clear HB; have HO149 := n0_; have HO152 := n1_; have HB := n2_; clear n0_ n1_ n2_; clear hb ho6; obtain ⟨Ao7, co7, eo7⟩ := Kd.R_slice HO152.out; subst eo7))
    go_loopg [12] k (fun kq v12 w' => ∃ (x12_1 : Int), v12 = .int .i64 x12_1 ∧ Aside0 (laws_FnASValid.l0 kq t147 y150 (y150.length : Int) x12_1 = some r) ∧ Aside0 (kq ≤ k) ∧ Aside0 (Kd.V (Kd.int .u8) 5 w' w.heap.size (fun k_ => some k_ ≠ ((.slice Ao7 y150.length co7) : Value).ownBlock) v148 t147) ∧ Aside0 (Kd.R Kd.bool 4 w' w.heap.size (fun _ => True) (.slice Ao7 y150.length co7) y150) ∧ Aside0 (Below w.heap.size w w'))
    case atStart => exact ⟨(0), (by first | rfl | (simp; done) | (simp [*]; done)), H', ⟨Nat.le_refl _⟩, ⟨by (with_reducible repeat (first | apply Kd.V_alloc | apply Kd.V_drewN | apply Kd.V_drew)); exact Kd.V_mono HO149.out (fun _ hk => hk.2)⟩, ⟨by (with_reducible repeat (first | apply Kd.R_alloc | apply Kd.R_drewN | apply Kd.R_drew)); exact HO152.out⟩, ⟨by repeat (first | (with_reducible first | exact HB.out | apply below_alloc | apply pw_below_drewN | apply below_drew1) | exact HB.out)⟩⟩
    case round =>
      clear H'
      try clear c2
      try clear c2b0
      try clear c2b1
      try clear p2
      try clear c7
      obtain ⟨x12_1, rfl, HA, HK1, HO_0, HO_10, HB⟩ := hrel
      cases gk with
      | zero => exact absurd HA.out (by simp [laws_FnASValid.l0])
      | succ k1 =>
        have H := HA.out
        clear HA
        simp only [laws_FnASValid.l0] at H
        by_cases c8 : x12_1 < (y150.length : Int)
        · rw [if_pos c8] at H
          have c8b0 : decide (x12_1 < (y150.length : Int)) = true := decide_eq_true c8
          clear c8
          by_cases c9 : 0 ≤ x12_1
          · rw [if_pos c9] at H
            have c9b0 : decide (0 ≤ x12_1) = true := decide_eq_true c9
            clear c9
            by_cases c10 : x12_1 < (y150.length : Int)
            · rw [if_pos c10] at H
              have c10b0 : decide (x12_1 < (y150.length : Int)) = true := decide_eq_true c10
              clear c10
              replace H := Option.bind_eq_some_iff.mp H
              obtain ⟨t155, A110, H⟩ := H
              replace H : ((spec_ASValid.f k1 t147).bind fun t156 => (if (t155 != t156) = true then (some false) else ((impl_ASPrint.f k1 t147 (rdOf false y150 x12_1)).bind fun t157 => ((spec_ASPrint.f k1 t147).bind fun t158 => (if (t157 != t158) = true then (some false) else (laws_FnASValid.l0 k1 t147 y150 (y150.length : Int) (wrap64 (x12_1 + 1)))))))) = some r := H
              have A11 := Aside0.mk A110
              clear A110
              replace H := Option.bind_eq_some_iff.mp H
              obtain ⟨t156, A120, H⟩ := H
              replace H : (if (t155 != t156) = true then (some false) else ((impl_ASPrint.f k1 t147 (rdOf false y150 x12_1)).bind fun t157 => ((spec_ASPrint.f k1 t147).bind fun t158 => (if (t157 != t158) = true then (some false) else (laws_FnASValid.l0 k1 t147 y150 (y150.length : Int) (wrap64 (x12_1 + 1))))))) = some r := H
              have A12 := Aside0.mk A120
              clear A120
              by_cases c13 : (t155 != t156) = true
              · rw [if_pos c13] at H
                have c13b0 : (t155 != t156) = true := c13
                (try (have c13b1 : decide (t155 = t156) = false := by simpa using c13))
                (try (have c13b2 : (t155 == t156) = false := by simpa using c13))
                (try (have c13b3 : ¬ (t155 = t156) := by simpa using c13))
                clear c13
                obtain rfl := Option.some.inj H
                have p154 : 0 ≤ (x12_1 : Int) := of_decide_eq_true (by first | (with_reducible assumption) | assumption)
                have q154 : x12_1 < (y150.length : Int) := of_decide_eq_true (by first | (with_reducible assumption) | assumption)
                obtain ⟨ad154, e154, hx154_0⟩ := Kd.at_bool (Kd.R_reads' HO_10.out).2.2 x12_1 p154 q154
                cases e154
                replace p154 := eq_true p154
                replace q154 := eq_true q154
                obtain ⟨Ao14, co14, eo14⟩ := Kd.V_slice HO_0.out
                subst eo14
                go_wp2_with (first | ((with_reducible refine gate_callee (f := 23) rfl ?_); refine goesL_ (some 18) rfl rfl Try.func23 (by kernel_rfl) rfl #[.slice Ao14 t147.length co14, .bool (rdOf false y150 x12_1)] rfl (by (try simp only [List.map_toArray, List.map_cons, List.map_nil]); first | done | rfl | (simp only [List.length_drop, List.length_take]; rfl)) ?_; (with_reducible refine (impl_ASValid.calls k1 _ _ t147 (rdOf false y150 x12_1) t155 _ ?side1 ?side2 A11.out).mono ?_); (case side1 => repeat (first | exact (Kd.V_reads' HO_0.out).2.2 | (with_reducible refine Kd.C_alloc ?_ _) | (with_reducible refine Kd.C_drewN ?_ _) | (with_reducible refine Kd.C_drew ?_))); (case side2 => exact (Kd.V_reads' HO_0.out).2.1); rintro e w' ⟨rfl, ⟨nd, rfl⟩⟩; refine ⟨_, rfl, ?_⟩) | ((with_reducible refine gate_callee (f := 24) rfl ?_); refine goesL_ (some 20) rfl rfl Try.func24 (by kernel_rfl) rfl #[.slice Ao14 t147.length co14] rfl (by (try simp only [List.map_toArray, List.map_cons, List.map_nil]); first | done | rfl | (simp only [List.length_drop, List.length_take]; rfl)) ?_; (with_reducible refine (spec_ASValid.calls k1 _ _ t147 t156 _ ?side1 ?side2 A12.out).mono ?_); (case side1 => repeat (first | exact (Kd.V_reads' HO_0.out).2.2 | (with_reducible refine Kd.C_alloc ?_ _) | (with_reducible refine Kd.C_drewN ?_ _) | (with_reducible refine Kd.C_drew ?_))); (case side2 => exact (Kd.V_reads' HO_0.out).2.1); rintro e w' ⟨rfl, ⟨nd, rfl⟩⟩; refine ⟨_, rfl, ?_⟩))
                go_ret
                exact ⟨by first | rfl | (simp [errW_none, errW_some] <;> rfl) | (simp [*, errW_none, errW_some] <;> rfl), by repeat (first | (with_reducible first | exact HB.out | apply below_alloc | apply pw_below_drewN | apply below_drew1) | exact HB.out)⟩
              · rw [if_neg c13] at H
                have c13b0 : (t155 != t156) = false := by simpa using c13
                (try (have c13b1 : decide (t155 = t156) = true := by simpa using c13))
                (try (have c13b2 : (t155 == t156) = true := by simpa using c13))
                clear c13
                replace H := Option.bind_eq_some_iff.mp H
                obtain ⟨t157, A150, H⟩ := H
                replace H : ((spec_ASPrint.f k1 t147).bind fun t158 => (if (t157 != t158) = true then (some false) else (laws_FnASValid.l0 k1 t147 y150 (y150.length : Int) (wrap64 (x12_1 + 1))))) = some r := H
                have A15 := Aside0.mk A150
                clear A150
                replace H := Option.bind_eq_some_iff.mp H
                obtain ⟨t158, A160, H⟩ := H
                replace H : (if (t157 != t158) = true then (some false) else (laws_FnASValid.l0 k1 t147 y150 (y150.length : Int) (wrap64 (x12_1 + 1)))) = some r := H
                have A16 := Aside0.mk A160
                clear A160
                by_cases c17 : (t157 != t158) = true
                · rw [if_pos c17] at H
                  have c17b0 : (t157 != t158) = true := c17
                  (try (have c17b1 : decide (t157 = t158) = false := by simpa using c17))
                  (try (have c17b2 : (t157 == t158) = false := by simpa using c17))
                  (try (have c17b3 : ¬ (t157 = t158) := by simpa using c17))
                  clear c17
                  obtain rfl := Option.some.inj H
                  have p154 : 0 ≤ (x12_1 : Int) := of_decide_eq_true (by first | (with_reducible assumption) | assumption)
                  have q154 : x12_1 < (y150.length : Int) := of_decide_eq_true (by first | (with_reducible assumption) | assumption)
                  obtain ⟨ad154, e154, hx154_0⟩ := Kd.at_bool (Kd.R_reads' HO_10.out).2.2 x12_1 p154 q154
                  cases e154
                  replace p154 := eq_true p154
                  replace q154 := eq_true q154
                  obtain ⟨Ao18, co18, eo18⟩ := Kd.V_slice HO_0.out
                  subst eo18
                  go_wp2_with (first | ((with_reducible refine gate_callee (f := 23) rfl ?_); refine goesL_ (some 18) rfl rfl Try.func23 (by kernel_rfl) rfl #[.slice Ao18 t147.length co18, .bool (rdOf false y150 x12_1)] rfl (by (try simp only [List.map_toArray, List.map_cons, List.map_nil]); first | done | rfl | (simp only [List.length_drop, List.length_take]; rfl)) ?_; (with_reducible refine (impl_ASValid.calls k1 _ _ t147 (rdOf false y150 x12_1) t155 _ ?side1 ?side2 A11.out).mono ?_); (case side1 => repeat (first | exact (Kd.V_reads' HO_0.out).2.2 | (with_reducible refine Kd.C_alloc ?_ _) | (with_reducible refine Kd.C_drewN ?_ _) | (with_reducible refine Kd.C_drew ?_))); (case side2 => exact (Kd.V_reads' HO_0.out).2.1); rintro e w' ⟨rfl, ⟨nd, rfl⟩⟩; refine ⟨_, rfl, ?_⟩) | ((with_reducible refine gate_callee (f := 24) rfl ?_); refine goesL_ (some 20) rfl rfl Try.func24 (by kernel_rfl) rfl #[.slice Ao18 t147.length co18] rfl (by (try simp only [List.map_toArray, List.map_cons, List.map_nil]); first | done | rfl | (simp only [List.length_drop, List.length_take]; rfl)) ?_; (with_reducible refine (spec_ASValid.calls k1 _ _ t147 t156 _ ?side1 ?side2 A12.out).mono ?_); (case side1 => repeat (first | exact (Kd.V_reads' HO_0.out).2.2 | (with_reducible refine Kd.C_alloc ?_ _) | (with_reducible refine Kd.C_drewN ?_ _) | (with_reducible refine Kd.C_drew ?_))); (case side2 => exact (Kd.V_reads' HO_0.out).2.1); rintro e w' ⟨rfl, ⟨nd, rfl⟩⟩; refine ⟨_, rfl, ?_⟩) | (go_at_call 25; (with_reducible refine (impl_ASPrint.calls k1 _ _ t147 (rdOf false y150 x12_1) t157 _ ?side1 ?side2 A15.out).mono ?_); (case side1 => repeat (first | exact (Kd.V_reads' HO_0.out).2.2 | (with_reducible refine Kd.C_alloc ?_ _) | (with_reducible refine Kd.C_drewN ?_ _) | (with_reducible refine Kd.C_drew ?_))); (case side2 => exact (Kd.V_reads' HO_0.out).2.1); rintro e w' ⟨rfl, ⟨nd, rfl⟩⟩) | (go_at_call 26; (with_reducible refine (spec_ASPrint.calls k1 _ _ t147 t158 _ ?side1 ?side2 A16.out).mono ?_); (case side1 => repeat (first | exact (Kd.V_reads' HO_0.out).2.2 | (with_reducible refine Kd.C_alloc ?_ _) | (with_reducible refine Kd.C_drewN ?_ _) | (with_reducible refine Kd.C_drew ?_))); (case side2 => exact (Kd.V_reads' HO_0.out).2.1); rintro e w' ⟨rfl, ⟨nd, rfl⟩⟩))
                  go_ret
                  exact ⟨by first | rfl | (simp [errW_none, errW_some] <;> rfl) | (simp [*, errW_none, errW_some] <;> rfl), by repeat (first | (with_reducible first | exact HB.out | apply below_alloc | apply pw_below_drewN | apply below_drew1) | exact HB.out)⟩
                · rw [if_neg c17] at H
                  have c17b0 : (t157 != t158) = false := by simpa using c17
                  (try (have c17b1 : decide (t157 = t158) = true := by simpa using c17))
                  (try (have c17b2 : (t157 == t158) = true := by simpa using c17))
                  clear c17
                  have H' := Aside0.mk H
                  clear H
                  have p154 : 0 ≤ (x12_1 : Int) := of_decide_eq_true (by first | (with_reducible assumption) | assumption)
                  have q154 : x12_1 < (y150.length : Int) := of_decide_eq_true (by first | (with_reducible assumption) | assumption)
                  obtain ⟨ad154, e154, hx154_0⟩ := Kd.at_bool (Kd.R_reads' HO_10.out).2.2 x12_1 p154 q154
                  cases e154
                  replace p154 := eq_true p154
                  replace q154 := eq_true q154
                  obtain ⟨Ao19, co19, eo19⟩ := Kd.V_slice HO_0.out
                  subst eo19
                  go_wp2_with (first | ((with_reducible refine gate_callee (f := 23) rfl ?_); refine goesL_ (some 18) rfl rfl Try.func23 (by kernel_rfl) rfl #[.slice Ao19 t147.length co19, .bool (rdOf false y150 x12_1)] rfl (by (try simp only [List.map_toArray, List.map_cons, List.map_nil]); first | done | rfl | (simp only [List.length_drop, List.length_take]; rfl)) ?_; (with_reducible refine (impl_ASValid.calls k1 _ _ t147 (rdOf false y150 x12_1) t155 _ ?side1 ?side2 A11.out).mono ?_); (case side1 => repeat (first | exact (Kd.V_reads' HO_0.out).2.2 | (with_reducible refine Kd.C_alloc ?_ _) | (with_reducible refine Kd.C_drewN ?_ _) | (with_reducible refine Kd.C_drew ?_))); (case side2 => exact (Kd.V_reads' HO_0.out).2.1); rintro e w' ⟨rfl, ⟨nd, rfl⟩⟩; refine ⟨_, rfl, ?_⟩) | ((with_reducible refine gate_callee (f := 24) rfl ?_); refine goesL_ (some 20) rfl rfl Try.func24 (by kernel_rfl) rfl #[.slice Ao19 t147.length co19] rfl (by (try simp only [List.map_toArray, List.map_cons, List.map_nil]); first | done | rfl | (simp only [List.length_drop, List.length_take]; rfl)) ?_; (with_reducible refine (spec_ASValid.calls k1 _ _ t147 t156 _ ?side1 ?side2 A12.out).mono ?_); (case side1 => repeat (first | exact (Kd.V_reads' HO_0.out).2.2 | (with_reducible refine Kd.C_alloc ?_ _) | (with_reducible refine Kd.C_drewN ?_ _) | (with_reducible refine Kd.C_drew ?_))); (case side2 => exact (Kd.V_reads' HO_0.out).2.1); rintro e w' ⟨rfl, ⟨nd, rfl⟩⟩; refine ⟨_, rfl, ?_⟩) | (go_at_call 25; (with_reducible refine (impl_ASPrint.calls k1 _ _ t147 (rdOf false y150 x12_1) t157 _ ?side1 ?side2 A15.out).mono ?_); (case side1 => repeat (first | exact (Kd.V_reads' HO_0.out).2.2 | (with_reducible refine Kd.C_alloc ?_ _) | (with_reducible refine Kd.C_drewN ?_ _) | (with_reducible refine Kd.C_drew ?_))); (case side2 => exact (Kd.V_reads' HO_0.out).2.1); rintro e w' ⟨rfl, ⟨nd, rfl⟩⟩) | (go_at_call 26; (with_reducible refine (spec_ASPrint.calls k1 _ _ t147 t158 _ ?side1 ?side2 A16.out).mono ?_); (case side1 => repeat (first | exact (Kd.V_reads' HO_0.out).2.2 | (with_reducible refine Kd.C_alloc ?_ _) | (with_reducible refine Kd.C_drewN ?_ _) | (with_reducible refine Kd.C_drew ?_))); (case side2 => exact (Kd.V_reads' HO_0.out).2.1); rintro e w' ⟨rfl, ⟨nd, rfl⟩⟩))
                  go_roundg k1
                  case measure => have := HK1.out; omega
                  case rel => exact ⟨(wrap64 (x12_1 + 1)), (by first | rfl | (simp; done) | (simp [*]; done)), H', ⟨by have := HK1.out; omega⟩, ⟨by (with_reducible repeat (first | apply Kd.V_alloc | apply Kd.V_drewN | apply Kd.V_drew)); exact HO_0.out⟩, ⟨by (with_reducible repeat (first | apply Kd.R_alloc | apply Kd.R_drewN | apply Kd.R_drew)); exact HO_10.out⟩, ⟨by repeat (first | (with_reducible first | exact HB.out | apply below_alloc | apply pw_below_drewN | apply below_drew1) | exact HB.out)⟩⟩
            · rw [if_neg c10] at H
              exact absurd H (by simp)
          · rw [if_neg c9] at H
            exact absurd H (by simp)
        · rw [if_neg c8] at H
          have c8b0 : decide (x12_1 < (y150.length : Int)) = false := decide_eq_false c8
          clear c8
          replace H := Option.bind_eq_some_iff.mp H
          obtain ⟨t153, A200, H⟩ := H
          replace H : (some t153) = some r := H
          have A20 := Aside0.mk A200
          clear A200
          obtain rfl := Option.some.inj H
          go_wp2_with (first | ((with_reducible refine gate_callee (f := 21) rfl ?_); refine goesL_ (some 31) rfl rfl Try.func21 (by kernel_rfl) rfl #[] rfl (by (try simp only [List.map_toArray, List.map_cons, List.map_nil]); first | done | rfl | (simp only [List.length_drop, List.length_take]; rfl)) ?_; (with_reducible refine (laws_asAwake.calls k1  t153 _ A20.out).mono ?_); rintro e w21 ⟨rfl, hb⟩; refine ⟨_, rfl, ?_⟩; have n0_ := Aside0.mk (Kd.V_below (by (with_reducible repeat (first | apply Kd.V_alloc | apply Kd.V_drewN | apply Kd.V_drew)); exact HO_0.out) hb); have n1_ := Aside0.mk (Kd.R_below (by (with_reducible repeat (first | apply Kd.R_alloc | apply Kd.R_drewN | apply Kd.R_drew)); exact HO_10.out) hb); have n2_ := Aside0.mk (below_step (by repeat (first | (with_reducible first | exact HB.out | apply below_alloc | apply pw_below_drewN | apply below_drew1) | exact HB.out)) hb); clear HO_0; clear HO_10; clear HB; have HO_0 := n0_; have HO_10 := n1_; have HB := n2_; clear n0_ n1_ n2_; (try clear hb); (try clear hb2); (try clear hk); (try clear hi)))
          go_ret
          exact ⟨by first | rfl | (simp [errW_none, errW_some] <;> rfl) | (simp [*, errW_none, errW_some] <;> rfl), by repeat (first | (with_reducible first | exact HB.out | apply below_alloc | apply pw_below_drewN | apply below_drew1) | exact HB.out)⟩

/-- THE ONE PURE STATEMENT of laws_FnASValid: yours. -/
def laws_FnASValid.Pure : Prop := ∀ (l0 : List Int), l0.length ≤ maxLen → l0.length * 1 ≤ 140737488351232 → (∀ x ∈ l0, (Lit.int .u8 x).wf = true) → ∃ k, laws_FnASValid.f k l0 = some true
theorem laws_FnASValid.walk (P : laws_FnASValid.Pure) (a0 : Option Addr) (len0 cap0 : Nat) (z0 : List Int) (w : World) (w0 : (a0 = none ∧ len0 = 0 ∧ cap0 = 0 ∧ z0 = []) ∨ ∃ x, a0 = some x ∧ len0 ≤ cap0 ∧ cap0 ≤ maxLen ∧ z0.length = cap0 ∧ (∀ i, i < z0.length → w.cell? (x.add i) = some (.int .u8 (z0.getD i 0))) ∧ ∀ n ∈ z0, (Lit.int .u8 n).wf = true) (y0 : len0 * 1 ≤ 140737488351232) :
    Calls Try.prog 7 #[.slice a0 len0 cap0] w fun e w' => e = .returned (.bool true) ∧ Below w.heap.size w w' := by
  obtain ⟨l0, rfl, hr0, hm0, hw0, hc0⟩ := ReadsInt.ofRowC w0
  obtain ⟨k, h⟩ := P l0 hm0 y0 hw0
  refine (laws_FnASValid.calls k _ _ l0 true w (Kd.C_of_reads (d := (0 : Int)) (h1 := fun _ => rfl) hr0) hc0 h).mono ?_
  rintro e w' ⟨rfl, hd⟩
  exact ⟨rfl, hd⟩

end Go.Proofs.Ytmhngpihkaignaa.PFnASValid
