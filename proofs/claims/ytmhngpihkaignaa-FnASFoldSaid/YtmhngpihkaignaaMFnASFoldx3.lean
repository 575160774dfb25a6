/- Written by mend.py (wip/) out of the print's text of this law: the functions of the law from 'asAwake' on, each with what it comes to; with no condition. -/
import Derived.Test.YtmhngpihkaignaaPFnASFoldx0
import Derived.Test.YtmhngpihkaignaaPFnASFoldx1
import Derived.Test.YtmhngpihkaignaaMFnASFoldx2
namespace Go.Proofs.Ytmhngpihkaignaa.PFnASFold
open Go.RowKit Go.Proofs.YtmhngpihkaignaaW.PrintWords Go.Proofs.YtmhngpihkaignaaW.PrintLast Go.Proofs.YtmhngpihkaignaaW.PrintMore
attribute [local go_sem] max2_int min2_int max_two min_two max_three min_three max_four min_four   -- for this text's walks alone
set_option linter.unusedVariables false
set_option linter.unusedSimpArgs false

/-! ### laws_FnASFold: function 6 -/
mutual
def laws_FnASFold.j0 : Nat → List Int → List Int → List Int → Bool → Option (Bool)
  | 0, _, _, _, _ => none
  | k + 1, x0, x1, x2, x26 => if x26 = true then (some true) else ((laws_asOnly.f k x0).bind fun t155 => ((laws_asOnly.f k x1).bind fun t158 => ((some (([] : List Int) : List Int)).bind fun y161 => (if y161.length + t155.length < 140737488355328 then ((some (y161 ++ t155 : List Int)).bind fun y164 => (laws_FnASFold.l0 k x2 t155 t158 y164 (y164.length : Int) 0)) else (none)))))
def laws_FnASFold.l0 : Nat → List Int → List Int → List Int → List Int → Int → Int → Option (Bool)
  | 0, _, _, _, _, _, _ => none
  | k + 1, x2, x7, x8, x9, x35, x36 => if x36 < x35 then (if 0 ≤ x36 then (if x36 < (x9.length : Int) then (if (x2.length : Int) > 0 then (if (x2.length : Int) = 0 then (none) else (if 0 ≤ (Int.tmod x36 (x2.length : Int)) then (if (Int.tmod x36 (x2.length : Int)) < (x2.length : Int) then (if (Int.tmod (rd x2 (Int.tmod x36 (x2.length : Int))) 2) = 0 then (if (Go.bits .or .u8 (rd x9 x36) 32) ≥ 97 then (if (Go.bits .or .u8 (rd x9 x36) 32) ≤ 122 then (laws_FnASFold.l0 k x2 x7 x8 (x9.set (x36 : Int).toNat (Go.bits .xor .u8 (rd x9 x36) 32)) x35 (wrap64 (x36 + 1))) else (laws_FnASFold.l0 k x2 x7 x8 x9 x35 (wrap64 (x36 + 1)))) else (laws_FnASFold.l0 k x2 x7 x8 x9 x35 (wrap64 (x36 + 1)))) else (laws_FnASFold.l0 k x2 x7 x8 x9 x35 (wrap64 (x36 + 1)))) else (none)) else (none))) else (laws_FnASFold.l0 k x2 x7 x8 x9 x35 (wrap64 (x36 + 1)))) else (none)) else (none)) else ((some (([false, true] : List Bool) : List Bool)).bind fun y171 => (laws_FnASFold.l1 k x7 x8 x9 y171 (y171.length : Int) 0))
def laws_FnASFold.l1 : Nat → List Int → List Int → List Int → List Bool → Int → Int → Option (Bool)
  | 0, _, _, _, _, _, _ => none
  | k + 1, x7, x8, x9, x73, x74, x75 => if x75 < x74 then (if 0 ≤ x75 then (if x75 < (x73.length : Int) then ((impl_ASFold.f k x7 x8 (rdOf false x73 x75)).bind fun t176 => ((spec_ASFold.f k x7 x8).bind fun t177 => (if (t176 != t177) = true then (some false) else ((impl_ASFold.f k x8 x7 (rdOf false x73 x75)).bind fun t178 => ((spec_ASFold.f k x7 x8).bind fun t179 => (if (t178 != t179) = true then (some false) else ((impl_ASFold.f k x7 x9 (rdOf false x73 x75)).bind fun t180 => (if t180 = true then (laws_FnASFold.l1 k x7 x8 x9 x73 x74 (wrap64 (x75 + 1))) else (some false))))))))) else (none)) else (none)) else ((laws_asAwake.f k).bind fun t174 => (some t174))
end
def laws_FnASFold.f (k : Nat) (l0 : List Int) (l1 : List Int) (l2 : List Int) : Option (Bool) := if (l0.length : Int) > 2147483647 then (laws_FnASFold.j0 k l0 l1 l2 true) else (if (l1.length : Int) > 2147483647 then (laws_FnASFold.j0 k l0 l1 l2 true) else (laws_FnASFold.j0 k l0 l1 l2 (decide ((l2.length : Int) > 2147483647))))
theorem laws_FnASFold.mono_l : ∀ k, (∀ y0 y1 y2 y3, LeO (laws_FnASFold.j0 k y0 y1 y2 y3) (laws_FnASFold.j0 (k + 1) y0 y1 y2 y3)) ∧ (∀ y0 y1 y2 y3 y4 y5, LeO (laws_FnASFold.l0 k y0 y1 y2 y3 y4 y5) (laws_FnASFold.l0 (k + 1) y0 y1 y2 y3 y4 y5)) ∧ (∀ y0 y1 y2 y3 y4 y5, LeO (laws_FnASFold.l1 k y0 y1 y2 y3 y4 y5) (laws_FnASFold.l1 (k + 1) y0 y1 y2 y3 y4 y5))
  | 0 => ⟨fun _ _ _ _ r h => by simp [laws_FnASFold.j0] at h, fun _ _ _ _ _ _ r h => by simp [laws_FnASFold.l0] at h, fun _ _ _ _ _ _ r h => by simp [laws_FnASFold.l1] at h⟩
  | k + 1 => by
    obtain ⟨ih0, ih1, ih2⟩ := laws_FnASFold.mono_l k
    refine ⟨?_, ?_, ?_⟩
    · intro y0 y1 y2 y3
      unfold laws_FnASFold.j0
      repeat' first
      | (with_reducible exact ih0 _ _ _ _)
      | (with_reducible exact ih1 _ _ _ _ _ _)
      | (with_reducible exact ih2 _ _ _ _ _ _)
      | (with_reducible exact impl_ASFold.mono _ _ _ _)
      | (with_reducible exact laws_asAwake.mono _)
      | (with_reducible exact laws_asOnly.mono _ _)
      | (with_reducible exact spec_ASFold.mono _ _ _)
      | (with_reducible exact LeO.refl _)
      | (with_reducible exact LeO.none _)
      | (with_reducible refine LeO.ite ?_ ?_)
      | (with_reducible refine LeO.bind ?_ (fun _ => ?_))
      | exact ih0 _ _ _ _
      | exact ih1 _ _ _ _ _ _
      | exact ih2 _ _ _ _ _ _
      | exact impl_ASFold.mono _ _ _ _
      | exact laws_asAwake.mono _
      | exact laws_asOnly.mono _ _
      | exact spec_ASFold.mono _ _ _
      | exact LeO.none _
      | refine LeO.ite ?_ ?_
      | refine LeO.bind ?_ (fun _ => ?_)
    · intro y0 y1 y2 y3 y4 y5
      unfold laws_FnASFold.l0
      repeat' first
      | (with_reducible exact ih0 _ _ _ _)
      | (with_reducible exact ih1 _ _ _ _ _ _)
      | (with_reducible exact ih2 _ _ _ _ _ _)
      | (with_reducible exact impl_ASFold.mono _ _ _ _)
      | (with_reducible exact laws_asAwake.mono _)
      | (with_reducible exact laws_asOnly.mono _ _)
      | (with_reducible exact spec_ASFold.mono _ _ _)
      | (with_reducible exact LeO.refl _)
      | (with_reducible exact LeO.none _)
      | (with_reducible refine LeO.ite ?_ ?_)
      | (with_reducible refine LeO.bind ?_ (fun _ => ?_))
      | exact ih0 _ _ _ _
      | exact ih1 _ _ _ _ _ _
      | exact ih2 _ _ _ _ _ _
      | exact impl_ASFold.mono _ _ _ _
      | exact laws_asAwake.mono _
      | exact laws_asOnly.mono _ _
      | exact spec_ASFold.mono _ _ _
      | exact LeO.none _
      | refine LeO.ite ?_ ?_
      | refine LeO.bind ?_ (fun _ => ?_)
    · intro y0 y1 y2 y3 y4 y5
      unfold laws_FnASFold.l1
      repeat' first
      | (with_reducible exact ih0 _ _ _ _)
      | (with_reducible exact ih1 _ _ _ _ _ _)
      | (with_reducible exact ih2 _ _ _ _ _ _)
      | (with_reducible exact impl_ASFold.mono _ _ _ _)
      | (with_reducible exact laws_asAwake.mono _)
      | (with_reducible exact laws_asOnly.mono _ _)
      | (with_reducible exact spec_ASFold.mono _ _ _)
      | (with_reducible exact LeO.refl _)
      | (with_reducible exact LeO.none _)
      | (with_reducible refine LeO.ite ?_ ?_)
      | (with_reducible refine LeO.bind ?_ (fun _ => ?_))
      | exact ih0 _ _ _ _
      | exact ih1 _ _ _ _ _ _
      | exact ih2 _ _ _ _ _ _
      | exact impl_ASFold.mono _ _ _ _
      | exact laws_asAwake.mono _
      | exact laws_asOnly.mono _ _
      | exact spec_ASFold.mono _ _ _
      | exact LeO.none _
      | refine LeO.ite ?_ ?_
      | refine LeO.bind ?_ (fun _ => ?_)
theorem laws_FnASFold.mono : ∀ a0 a1 a2 k, LeO (laws_FnASFold.f k a0 a1 a2) (laws_FnASFold.f (k + 1) a0 a1 a2) := by
  intro a0 a1 a2 k
  obtain ⟨ih0, ih1, ih2⟩ := laws_FnASFold.mono_l k
  unfold laws_FnASFold.f
  repeat' first
      | (with_reducible exact ih0 _ _ _ _)
      | (with_reducible exact ih1 _ _ _ _ _ _)
      | (with_reducible exact ih2 _ _ _ _ _ _)
      | (with_reducible exact impl_ASFold.mono _ _ _ _)
      | (with_reducible exact laws_asAwake.mono _)
      | (with_reducible exact laws_asOnly.mono _ _)
      | (with_reducible exact spec_ASFold.mono _ _ _)
      | (with_reducible exact LeO.refl _)
      | (with_reducible exact LeO.none _)
      | (with_reducible refine LeO.ite ?_ ?_)
      | (with_reducible refine LeO.bind ?_ (fun _ => ?_))
      | exact ih0 _ _ _ _
      | exact ih1 _ _ _ _ _ _
      | exact ih2 _ _ _ _ _ _
      | exact impl_ASFold.mono _ _ _ _
      | exact laws_asAwake.mono _
      | exact laws_asOnly.mono _ _
      | exact spec_ASFold.mono _ _ _
      | exact LeO.none _
      | refine LeO.ite ?_ ?_
      | refine LeO.bind ?_ (fun _ => ?_)
set_option maxHeartbeats 8000000 in
set_option maxRecDepth 100000 in
theorem laws_FnASFold.calls (k : Nat) (A0 : Option Addr) (c0 : Nat) (l0 : List Int) (A1 : Option Addr) (c1 : Nat) (l1 : List Int) (A2 : Option Addr) (c2 : Nat) (l2 : List Int) (r : Bool) (w : World) (hr0 : Kd.C (Kd.int .u8) w A0 l0.length l0) (hc0 : l0.length ≤ c0) (hr1 : Kd.C (Kd.int .u8) w A1 l1.length l1) (hc1 : l1.length ≤ c1) (hr2 : Kd.C (Kd.int .u8) w A2 l2.length l2) (hc2 : l2.length ≤ c2) (h : laws_FnASFold.f k l0 l1 l2 = some r) :
    Calls Try.prog 6 #[.slice A0 l0.length c0, .slice A1 l1.length c1, .slice A2 l2.length c2] w fun e w' => e = .returned (.bool r) ∧ Below w.heap.size w w' := by
  have HR0 := Aside0.mk hr0
  have HC0 := Aside0.mk hc0
  clear hr0 hc0
  have HR1 := Aside0.mk hr1
  have HC1 := Aside0.mk hc1
  clear hr1 hc1
  have HR2 := Aside0.mk hr2
  have HC2 := Aside0.mk hc2
  clear hr2 hc2
  have HB := Aside0.mk (Below.refl w.heap.size w)
  have H : (if (l0.length : Int) > 2147483647 then (laws_FnASFold.j0 k l0 l1 l2 true) else (if (l1.length : Int) > 2147483647 then (laws_FnASFold.j0 k l0 l1 l2 true) else (laws_FnASFold.j0 k l0 l1 l2 (decide ((l2.length : Int) > 2147483647))))) = some r := h
  clear h
  have HC4 := Aside0.mk H
  clear H
  go_enter Try.func6, Try.ntmps6
  go_upto_region 1 with (fail)
  go_cut [26] (fun v26 wc => ∃ (kq : Nat) (x26_3 : Bool), v26 = .bool x26_3 ∧ Aside0 (laws_FnASFold.j0 kq l0 l1 l2 x26_3 = some r) ∧ Aside0 (kq ≤ k) ∧ Aside0 (Below w.heap.size w wc))
  case first =>
    have H := HC4.out
    clear HC4
    by_cases c5 : (l0.length : Int) > 2147483647
    · rw [if_pos c5] at H
      have c5b0 : decide (2147483647 < (l0.length : Int)) = true := decide_eq_true c5
      have c5b1 : decide (2147483647 < l0.length) = true := decide_eq_true (by omega)
      clear c5
      (first | rw [c5b0] | (simp only [i64_w, i32_w]; rw [c5b0]) | skip)
      have H' := Aside0.mk H
      clear H
      go_wp2
      go_meet
      case rel => exact ⟨_, (true), (by first | rfl | (simp; done) | (simp [*]; done)), H', ⟨by first | omega | exact Nat.le_refl _⟩, ⟨by repeat (first | (with_reducible first | exact HB.out | apply below_alloc | apply pw_below_drewN | apply below_drew1) | exact HB.out)⟩⟩
    · rw [if_neg c5] at H
      have c5b0 : decide (2147483647 < (l0.length : Int)) = false := decide_eq_false c5
      have c5b1 : decide (2147483647 < l0.length) = false := decide_eq_false (by omega)
      clear c5
      (first | rw [c5b0] | (simp only [i64_w, i32_w]; rw [c5b0]) | skip)
      by_cases c6 : (l1.length : Int) > 2147483647
      · rw [if_pos c6] at H
        have c6b0 : decide (2147483647 < (l1.length : Int)) = true := decide_eq_true c6
        have c6b1 : decide (2147483647 < l1.length) = true := decide_eq_true (by omega)
        clear c6
        have H' := Aside0.mk H
        clear H
        go_wp2
        go_meet
        case rel => exact ⟨_, (true), (by first | rfl | (simp; done) | (simp [*]; done)), H', ⟨by first | omega | exact Nat.le_refl _⟩, ⟨by repeat (first | (with_reducible first | exact HB.out | apply below_alloc | apply pw_below_drewN | apply below_drew1) | exact HB.out)⟩⟩
      · rw [if_neg c6] at H
        have c6b0 : decide (2147483647 < (l1.length : Int)) = false := decide_eq_false c6
        have c6b1 : decide (2147483647 < l1.length) = false := decide_eq_false (by omega)
        clear c6
        have H' := Aside0.mk H
        clear H
        go_wp2
        go_meet
        case rel => exact ⟨_, (decide ((l2.length : Int) > 2147483647)), (by first | rfl | (simp; done) | (simp [*]; done)), H', ⟨by first | omega | exact Nat.le_refl _⟩, ⟨by repeat (first | (with_reducible first | exact HB.out | apply below_alloc | apply pw_below_drewN | apply below_drew1) | exact HB.out)⟩⟩
  case rest =>
    clear HC4
    try clear c1
    try clear c2
    try clear p2
    try clear c5
    try clear c5b0
    try clear c5b1
    try clear c6
    try clear c6b0
    try clear c6b1
    obtain ⟨kq, x26_3, rfl, HA, HJ3, HB⟩ := hcut
    cases kq with
    | zero => exact absurd HA.out (by simp [laws_FnASFold.j0])
    | succ kj3 =>
      have H := HA.out
      clear HA
      simp only [laws_FnASFold.j0] at H
      by_cases c7 : x26_3 = true
      · subst c7
        have H1 : (some true) = some r := by rw [if_pos rfl] at H; exact H
        clear H
        have H := H1
        clear H1
        obtain rfl := Option.some.inj H
        go_wp2
        go_ret
        exact ⟨by first | rfl | (simp [errW_none, errW_some] <;> rfl) | (simp [*, errW_none, errW_some] <;> rfl), by repeat (first | (with_reducible first | exact HB.out | apply below_alloc | apply pw_below_drewN | apply below_drew1) | exact HB.out)⟩
      · replace c7 := Bool.eq_false_iff.mpr c7
        subst c7
        have H1 : ((laws_asOnly.f kj3 l0).bind fun t155 => ((laws_asOnly.f kj3 l1).bind fun t158 => ((some (([] : List Int) : List Int)).bind fun y161 => (if y161.length + t155.length < 140737488355328 then ((some (y161 ++ t155 : List Int)).bind fun y164 => (laws_FnASFold.l0 kj3 l2 t155 t158 y164 (y164.length : Int) 0)) else (none))))) = some r := by rw [if_neg (show ¬ (false = true) by decide)] at H; exact H
        clear H
        have H := H1
        clear H1
        replace H := Option.bind_eq_some_iff.mp H
        obtain ⟨t155, A80, H⟩ := H
        replace H : ((laws_asOnly.f kj3 l1).bind fun t158 => ((some (([] : List Int) : List Int)).bind fun y161 => (if y161.length + t155.length < 140737488355328 then ((some (y161 ++ t155 : List Int)).bind fun y164 => (laws_FnASFold.l0 kj3 l2 t155 t158 y164 (y164.length : Int) 0)) else (none)))) = some r := H
        have A8 := Aside0.mk A80
        clear A80
        replace H := Option.bind_eq_some_iff.mp H
        obtain ⟨t158, A90, H⟩ := H
        replace H : ((some (([] : List Int) : List Int)).bind fun y161 => (if y161.length + t155.length < 140737488355328 then ((some (y161 ++ t155 : List Int)).bind fun y164 => (laws_FnASFold.l0 kj3 l2 t155 t158 y164 (y164.length : Int) 0)) else (none))) = some r := H
        have A9 := Aside0.mk A90
        clear A90
        obtain ⟨y161, hy161⟩ : ∃ y_ : List Int, y_ = (([] : List Int)) := ⟨_, rfl⟩
        replace H : (if y161.length + t155.length < 140737488355328 then ((some (y161 ++ t155 : List Int)).bind fun y164 => (laws_FnASFold.l0 kj3 l2 t155 t158 y164 (y164.length : Int) 0)) else (none)) = some r := by first | (rw [hy161]; with_reducible exact H) | (have H2_ := (Option.bind_some _ _).symm.trans H; rw [hy161]; with_reducible exact H2_) | (have H2_ := (Option.bind_some _ _).symm.trans H; with_reducible exact H2_) | with_reducible exact H | (rw [hy161]; exact H) | exact H
        have Ny161 := Aside0.mk hy161
        clear hy161
        by_cases c10 : y161.length + t155.length < 140737488355328
        · rw [if_pos c10] at H
          have LMc10 := Aside0.mk c10
          clear c10
          obtain ⟨y164, hy164⟩ : ∃ y_ : List Int, y_ = (y161 ++ t155) := ⟨_, rfl⟩
          replace H : (laws_FnASFold.l0 kj3 l2 t155 t158 y164 (y164.length : Int) 0) = some r := by first | (rw [hy164]; with_reducible exact H) | (have H2_ := (Option.bind_some _ _).symm.trans H; rw [hy164]; with_reducible exact H2_) | (have H2_ := (Option.bind_some _ _).symm.trans H; with_reducible exact H2_) | with_reducible exact H | (rw [hy164]; exact H) | exact H
          have Ny164 := Aside0.mk hy164
          clear hy164
          have H' := Aside0.mk H
          clear H
          go_wp2_with (first | ((with_reducible refine gate_callee (f := 18) rfl ?_); refine goesL_ (some 28) rfl rfl Try.func18 (by kernel_rfl) rfl #[.slice A0 l0.length c0] rfl (by (try simp only [List.map_toArray, List.map_cons, List.map_nil]); first | done | rfl | (simp only [List.length_drop, List.length_take]; rfl)) ?_; (with_reducible refine (laws_asOnly.calls kj3 _ _ l0 t155 _ ?side1 ?side2 A8.out).mono ?_); (case side1 => repeat (first | exact (Kd.C_below HR0.out HB.out) | (with_reducible refine Kd.C_alloc ?_ _) | (with_reducible refine Kd.C_drewN ?_ _) | (with_reducible refine Kd.C_drew ?_))); (case side2 => exact HC0.out); rintro e w11 ⟨v156, rfl, ho0, hb⟩; refine ⟨_, rfl, ?_⟩; have n0_ := Aside0.mk (Kd.R_lower ho0 (below_size (by repeat (first | (with_reducible first | exact HB.out | apply below_alloc | apply pw_below_drewN | apply below_drew1) | exact HB.out)))); have n1_ := Aside0.mk (below_step (by repeat (first | (with_reducible first | exact HB.out | apply below_alloc | apply pw_below_drewN | apply below_drew1) | exact HB.out)) hb); clear HB; have HO157 := n0_; have HB := n1_; clear n0_ n1_; (try clear hb); (try clear hb2); (try clear hk); (try clear hi); (try clear ho0)) | ((with_reducible refine gate_callee (f := 18) rfl ?_); refine goesL_ (some 30) rfl rfl Try.func18 (by kernel_rfl) rfl #[.slice A1 l1.length c1] rfl (by (try simp only [List.map_toArray, List.map_cons, List.map_nil]); first | done | rfl | (simp only [List.length_drop, List.length_take]; rfl)) ?_; (with_reducible refine (laws_asOnly.calls kj3 _ _ l1 t158 _ ?side1 ?side2 A9.out).mono ?_); (case side1 => repeat (first | exact (Kd.C_below HR1.out HB.out) | (with_reducible refine Kd.C_alloc ?_ _) | (with_reducible refine Kd.C_drewN ?_ _) | (with_reducible refine Kd.C_drew ?_))); (case side2 => exact HC1.out); rintro e w12 ⟨v159, rfl, ho0, hb⟩; refine ⟨_, rfl, ?_⟩; have n0_ := Aside0.mk (Kd.R_elder' (by (with_reducible repeat (first | apply Kd.R_alloc | apply Kd.R_drewN | apply Kd.R_drew)); exact HO157.out) (Kd.R_base ho0) hb); have n1_ := Aside0.mk (Kd.R_lower (Kd.R_new' ho0 (Kd.R_lt (by (with_reducible repeat (first | apply Kd.R_alloc | apply Kd.R_drewN | apply Kd.R_drew)); exact HO157.out))) (below_size (by repeat (first | (with_reducible first | exact HB.out | apply below_alloc | apply pw_below_drewN | apply below_drew1) | exact HB.out)))); have n2_ := Aside0.mk (below_step (by repeat (first | (with_reducible first | exact HB.out | apply below_alloc | apply pw_below_drewN | apply below_drew1) | exact HB.out)) hb); clear HO157; clear HB; have HO157 := n0_; have HO160 := n1_; have HB := n2_; clear n0_ n1_ n2_; (try clear hb); (try clear hb2); (try clear hk); (try clear hi); (try clear ho0)) | ((with_reducible refine gate_dst (N := 31) rfl ?_); (try (refine gate_guard (by rfl) ?_; dsimp only)); refine Kd.R_lit (Kd.int .u8) _ 5 ?hg (N := 31) ?hd (xs := ([] : List Int)) (inner := []) (ok := fun _ => True) (okp := fun _ => True) ?hr ?hp (fun _ hk => hk) trivial (Below.refl _ _) (Nat.le_refl _) (by simp) ?_; (case hd => rfl); (case hg => rfl); (case hr => first | (go_simp; done) | (go_simp; rfl)); (case hp => exact (Reps.none _ _)); intro v162 w13 ho14 hb hg_ hnew_; clear hg_ hnew_; (first | rw [← Ny161.out] at ho14 | (simp only [Int.reduceToNat] at ho14; rw [← Ny161.out] at ho14)); have n0_ := Aside0.mk (Kd.R_elder' (by (with_reducible repeat (first | apply Kd.R_alloc | apply Kd.R_drewN | apply Kd.R_drew)); exact HO157.out) (Kd.R_base ho14) hb); have n1_ := Aside0.mk (Kd.R_elder' (by (with_reducible repeat (first | apply Kd.R_alloc | apply Kd.R_drewN | apply Kd.R_drew)); exact HO160.out) (Kd.R_base ho14) hb); have n2_ := Aside0.mk (Kd.R_lower (Kd.R_new' (Kd.R_new' ho14 (Kd.R_lt (by (with_reducible repeat (first | apply Kd.R_alloc | apply Kd.R_drewN | apply Kd.R_drew)); exact HO157.out))) (Kd.R_lt (by (with_reducible repeat (first | apply Kd.R_alloc | apply Kd.R_drewN | apply Kd.R_drew)); exact HO160.out))) (below_size (by repeat (first | (with_reducible first | exact HB.out | apply below_alloc | apply pw_below_drewN | apply below_drew1) | exact HB.out)))); have n3_ := Aside0.mk (below_step (by repeat (first | (with_reducible first | exact HB.out | apply below_alloc | apply pw_below_drewN | apply below_drew1) | exact HB.out)) hb); clear HO157; clear HO160; clear HB; have HO157 := n0_; have HO160 := n1_; have HO163 := n2_; have HB := n3_; clear n0_ n1_ n2_ n3_; clear hb ho14; obtain ⟨Ao16, co16, eo16⟩ := Kd.R_slice HO157.out; subst eo16) | ((with_reducible refine gate_builtin (b := .append) (xs := #[.tmp 31, .tmp 32]) rfl ?_); (try (refine gate_guard (by rfl) ?_; dsimp only)); at_builtin; refine Kd.R_append_rows (Kd.int .u8) (w0 := w) w.heap.size rfl (.tmp 31) (.tmp 32) 31 5 (.int .u8 0) 1 rfl Try.underlying31 info5 rfl (by decide) (by omega) v162 y161 t155 _ _ _ (fun k_ => some k_ ≠ (.slice Ao16 t155.length co16 : Value).ownBlock ∧ some k_ ≠ (v159 : Value).ownBlock) (fun _ => False) rfl rfl ?aO ?aR (fun _ _ h => h) (fun _ h => h.elim) ?aF ?aB ?aS ?aL ?_; (case aR => repeat (first | exact (Kd.R_reads' HO157.out).2.2 | (with_reducible refine Kd.C_alloc ?_ _) | (with_reducible refine Kd.C_drewN ?_ _) | (with_reducible refine Kd.C_drew ?_))); (case aB => exact (by repeat (first | (with_reducible first | exact HB.out | apply below_alloc | apply pw_below_drewN | apply below_drew1) | exact HB.out))); (case aF => exact (fun k_ hk => ⟨Kd.fresh' (Kd.R_lt (by (with_reducible repeat (first | apply Kd.R_alloc | apply Kd.R_drewN | apply Kd.R_drew)); exact HO157.out)) k_ hk, Kd.fresh' (Kd.R_lt (by (with_reducible repeat (first | apply Kd.R_alloc | apply Kd.R_drewN | apply Kd.R_drew)); exact HO160.out)) k_ hk⟩)); (case aO => exact (by (with_reducible repeat (first | apply Kd.R_alloc | apply Kd.R_drewN | apply Kd.R_drew)); exact Kd.R_mono HO163.out (fun _ hk => ⟨hk.1.2, hk.2⟩))); (case aS => exact (below_size (by repeat (first | (with_reducible first | exact HB.out | apply below_alloc | apply pw_below_drewN | apply below_drew1) | exact HB.out)))); (case aL => have := LMc10.out; omega); intro v165 w15 ho hb hg hat; rw [← Ny164.out] at ho; have n0_ := Aside0.mk (Kd.R_after (ok := (fun k_ => some k_ ≠ (v159 : Value).ownBlock)) (by (with_reducible repeat (first | apply Kd.R_alloc | apply Kd.R_drewN | apply Kd.R_drew)); exact Kd.R_mono HO157.out (fun _ hk => ⟨hk.1.2, hk.2⟩)) hg hat); have n1_ := Aside0.mk (Kd.R_after (ok := (fun k_ => some k_ ≠ (.slice Ao16 t155.length co16 : Value).ownBlock)) (by (with_reducible repeat (first | apply Kd.R_alloc | apply Kd.R_drewN | apply Kd.R_drew)); exact Kd.R_mono HO160.out (fun _ hk => ⟨hk.1.2, hk.2⟩)) hg hat); have n2_ := Aside0.mk (hb); have n3_ := Aside0.mk (ho); clear HO157; clear HO160; clear HB; clear HO163; have HO157 := n0_; have HO160 := n1_; have HB := n2_; have HO166 := n3_; clear n0_ n1_ n2_ n3_; clear ho hb hg hat; obtain ⟨Ao17, co17, eo17⟩ := Kd.R_slice HO166.out; subst eo17))
          go_loopg [36] kj3 (fun kq v36 w' => ∃ (x9_2 : List Int) (x36_2 : Int), v36 = .int .i64 x36_2 ∧ Aside0 (laws_FnASFold.l0 kq l2 t155 t158 x9_2 (y164.length : Int) x36_2 = some r) ∧ Aside0 (kq ≤ kj3) ∧ Aside0 (Kd.R (Kd.int .u8) 5 w' w.heap.size (fun k_ => some k_ ≠ (v159 : Value).ownBlock ∧ some k_ ≠ ((.slice Ao17 y164.length co17) : Value).ownBlock) (.slice Ao16 t155.length co16) t155) ∧ Aside0 (Kd.R (Kd.int .u8) 5 w' w.heap.size (fun k_ => some k_ ≠ ((.slice Ao16 t155.length co16) : Value).ownBlock ∧ some k_ ≠ ((.slice Ao17 y164.length co17) : Value).ownBlock) v159 t158) ∧ Aside0 (Kd.R (Kd.int .u8) 5 w' w.heap.size (fun k_ => some k_ ≠ ((.slice Ao16 t155.length co16) : Value).ownBlock ∧ some k_ ≠ (v159 : Value).ownBlock) (.slice Ao17 y164.length co17) x9_2) ∧ Aside0 (Below w.heap.size w w'))
          case atStart => exact ⟨(y164), (0), (by first | rfl | (simp; done) | (simp [*]; done)), H', ⟨Nat.le_refl _⟩, ⟨by (with_reducible repeat (first | apply Kd.R_alloc | apply Kd.R_drewN | apply Kd.R_drew)); exact HO157.out⟩, ⟨by (with_reducible repeat (first | apply Kd.R_alloc | apply Kd.R_drewN | apply Kd.R_drew)); exact HO160.out⟩, ⟨by (with_reducible repeat (first | apply Kd.R_alloc | apply Kd.R_drewN | apply Kd.R_drew)); exact HO166.out⟩, ⟨by repeat (first | (with_reducible first | exact HB.out | apply below_alloc | apply pw_below_drewN | apply below_drew1) | exact HB.out)⟩⟩
          case round =>
            clear H'
            try clear c1
            try clear c2
            try clear p2
            try clear c5
            try clear c5b0
            try clear c5b1
            try clear c6
            try clear c6b0
            try clear c6b1
            try clear c7
            try clear c10
            try clear p2
            obtain ⟨x9_2, x36_2, rfl, HA, HK2, HO_7, HO_8, HO_9, HB⟩ := hrel
            have hl9_2 := (Kd.R_reads' HO_9.out).1
            rw [hl9_2] at HO_9
            (try simp only [hl9_2])
            (try simp only [hl9_2] at HO_7)
            (try simp only [hl9_2] at HO_8)
            cases gk with
            | zero => exact absurd HA.out (by simp [laws_FnASFold.l0])
            | succ k2 =>
              have H := HA.out
              clear HA
              simp only [laws_FnASFold.l0] at H
              by_cases c18 : x36_2 < (y164.length : Int)
              · rw [if_pos c18] at H
                have c18b0 : decide (x36_2 < (y164.length : Int)) = true := decide_eq_true c18
                clear c18
                by_cases c19 : 0 ≤ x36_2
                · rw [if_pos c19] at H
                  have c19b0 : decide (0 ≤ x36_2) = true := decide_eq_true c19
                  clear c19
                  by_cases c20 : x36_2 < (x9_2.length : Int)
                  · rw [if_pos c20] at H
                    have c20b0 : decide (x36_2 < (x9_2.length : Int)) = true := decide_eq_true c20
                    clear c20
                    by_cases c21 : (l2.length : Int) > 0
                    · rw [if_pos c21] at H
                      have c21b0 : decide (0 < (l2.length : Int)) = true := decide_eq_true c21
                      have c21b1 : decide (0 < l2.length) = true := decide_eq_true (by omega)
                      clear c21
                      by_cases c22 : (l2.length : Int) = 0
                      · rw [if_pos c22] at H
                        exact absurd H (by simp)
                      · rw [if_neg c22] at H
                        have c22b0 : ((l2.length : Int) == 0) = false := beq_eq_false_iff_ne.mpr c22
                        have c22b1 : ((l2.length : Int) != 0) = true := bne_iff_ne.mpr c22
                        have c22b2 : ¬ (l2 = []) := fun h_ => c22 (by rw [h_]; rfl)
                        obtain ⟨ji23, hji23⟩ : ∃ j_ : Int, (Int.tmod x36_2 (l2.length : Int)) = j_ := ⟨_, rfl⟩
                        replace H : (if 0 ≤ (ji23) then (if (ji23) < (l2.length : Int) then (if (Int.tmod (rd l2 (ji23)) 2) = 0 then (if (Go.bits .or .u8 (rd x9_2 x36_2) 32) ≥ 97 then (if (Go.bits .or .u8 (rd x9_2 x36_2) 32) ≤ 122 then (laws_FnASFold.l0 k2 l2 t155 t158 (x9_2.set (x36_2 : Int).toNat (Go.bits .xor .u8 (rd x9_2 x36_2) 32)) (y164.length : Int) (wrap64 (x36_2 + 1))) else (laws_FnASFold.l0 k2 l2 t155 t158 x9_2 (y164.length : Int) (wrap64 (x36_2 + 1)))) else (laws_FnASFold.l0 k2 l2 t155 t158 x9_2 (y164.length : Int) (wrap64 (x36_2 + 1)))) else (laws_FnASFold.l0 k2 l2 t155 t158 x9_2 (y164.length : Int) (wrap64 (x36_2 + 1)))) else (none)) else (none)) = some r := by first | (rw [hji23] at H; exact H) | (simp only [hji23] at H ⊢; exact H)
                        by_cases c24 : 0 ≤ (ji23)
                        · rw [if_pos c24] at H
                          have c24b0 : decide (0 ≤ (ji23)) = true := decide_eq_true c24
                          clear c24
                          by_cases c25 : (ji23) < (l2.length : Int)
                          · rw [if_pos c25] at H
                            have c25b0 : decide ((ji23) < (l2.length : Int)) = true := decide_eq_true c25
                            clear c25
                            by_cases c26 : (Int.tmod (rd l2 (ji23)) 2) = 0
                            · rw [if_pos c26] at H
                              have c26b0 : ((Int.tmod (rd l2 (ji23)) 2) == 0) = true := beq_iff_eq.mpr c26
                              have c26b1 : ((Int.tmod (rd l2 (ji23)) 2) != 0) = false := bne_eq_false_iff_eq.mpr c26
                              clear c26
                              by_cases c27 : (Go.bits .or .u8 (rd x9_2 x36_2) 32) ≥ 97
                              · rw [if_pos c27] at H
                                have c27b0 : decide (97 ≤ (Go.bits .or .u8 (rd x9_2 x36_2) 32)) = true := decide_eq_true c27
                                clear c27
                                by_cases c28 : (Go.bits .or .u8 (rd x9_2 x36_2) 32) ≤ 122
                                · rw [if_pos c28] at H
                                  have c28b0 : decide ((Go.bits .or .u8 (rd x9_2 x36_2) 32) ≤ 122) = true := decide_eq_true c28
                                  clear c28
                                  obtain ⟨y170, hy170⟩ : ∃ y_ : List Int, y_ = (x9_2.set (x36_2 : Int).toNat (Go.bits .xor .u8 (rd x9_2 x36_2) 32)) := ⟨_, rfl⟩
                                  replace H : (laws_FnASFold.l0 k2 l2 t155 t158 y170 (y164.length : Int) (wrap64 (x36_2 + 1))) = some r := by first | (rw [hy170]; with_reducible exact H) | (have H2_ := (Option.bind_some _ _).symm.trans H; rw [hy170]; with_reducible exact H2_) | (have H2_ := (Option.bind_some _ _).symm.trans H; with_reducible exact H2_) | with_reducible exact H | (rw [hy170]; exact H) | exact H
                                  have Ny170 := Aside0.mk hy170
                                  clear hy170
                                  have H' := Aside0.mk H
                                  clear H
                                  have p167 : 0 ≤ (x36_2 : Int) := of_decide_eq_true (by first | (with_reducible assumption) | assumption)
                                  have q167 : x36_2 < (x9_2.length : Int) := of_decide_eq_true (by first | (with_reducible assumption) | assumption)
                                  obtain ⟨ad167, e167, hx167_0⟩ := Kd.at_int (Kd.R_reads' HO_9.out).2.2 x36_2 p167 q167
                                  cases e167
                                  replace p167 := eq_true p167
                                  replace q167 := eq_true q167
                                  have p168 : 0 ≤ ((ji23) : Int) := of_decide_eq_true (by first | (with_reducible assumption) | assumption)
                                  have q168 : (ji23) < (l2.length : Int) := of_decide_eq_true (by first | (with_reducible assumption) | assumption)
                                  obtain ⟨ad168, e168, hx168_0⟩ := Kd.at_int HR2.out (ji23) p168 q168
                                  cases e168
                                  replace hx168_0 := (HB.out.cell (World.block_lt_of_cell? w _ hx168_0)).trans hx168_0
                                  replace p168 := eq_true p168
                                  replace q168 := eq_true q168
                                  have p169 : 0 ≤ (x36_2 : Int) := of_decide_eq_true (by first | (with_reducible assumption) | assumption)
                                  have q169 : x36_2 < (x9_2.length : Int) := of_decide_eq_true (by first | (with_reducible assumption) | assumption)
                                  obtain ⟨ad169, e169, hx169_0⟩ := Kd.at_int (Kd.R_reads' HO_9.out).2.2 x36_2 p169 q169
                                  obtain rfl : ad167 = ad169 := (by injection e169)
                                  replace p169 := eq_true p169
                                  replace q169 := eq_true q169
                                  have p29 : 0 ≤ (x36_2 : Int) := of_decide_eq_true (by first | (with_reducible assumption) | assumption)
                                  have q29 : (x36_2 : Int) < ((x9_2.length : Int) : Int) := of_decide_eq_true (by first | (with_reducible assumption) | assumption)
                                  obtain ⟨go29, co29, eo29, gb29, gl29, cl29, HG29⟩ := Kd.R_form HO_9.out (by omega)
                                  (first | cases eo29 | (injection eo29 with ea_ en_ ec_; (first | subst ea_ | (injection ea_ with ea_; subst ea_)); subst ec_; clear en_))
                                  have GB29 := Aside0.mk gb29
                                  have GG29 := Aside0.mk HG29
                                  clear gb29 gl29 HG29
                                  (first | simp only [add_plain] at hx167_0 | skip)
                                  (first | simp only [add_plain] at hx169_0 | skip)
                                  obtain ⟨hx29_0, hf29_0⟩ := Kd.R_celln 0 HO_9.out (x36_2 : Int) p29 q29
                                  replace p29 := eq_true p29
                                  replace q29 := eq_true q29
                                  have HP30 := Kd.R_putg HO_9.out (x36_2 : Int) (Go.bits .xor .u8 (rd x9_2 x36_2) 32)
                                  go_wp2_with (first | ((with_reducible refine gate_store (t := 5) (p := 71) rfl ?_); refine store_event (t := 5) (p := 71) (v := ?vo_w31) (w1 := (wr.setCell ⟨go29, (x36_2 : Int).toNat, none⟩ (.int .u8 (Go.bits .xor .u8 (rd x9_2 x36_2) 32)))) ?hg ?ho ?hn ?hr ?_; (case ho => rfl); (case hg => rfl); (case hn => rfl); (case hr => first | (go_simp; done) | (go_simp; rfl)); intro w31 hw; have hg : wr.grownBy w31 (some go29) := (by rw [hw]; exact HP30.2); have hp_ : Kd.R (Kd.int .u8) 5 w31 w.heap.size (fun k_ => some k_ ≠ (.slice Ao16 t155.length co16 : Value).ownBlock ∧ some k_ ≠ (v159 : Value).ownBlock) (.slice (some ⟨go29, 0, none⟩) x9_2.length co17) y170 := (by rw [hw, Ny170.out]; exact HP30.1); clear HP30; have n0_ := Aside0.mk (Kd.R_after (v := (.slice (some ⟨go29, 0, none⟩) x9_2.length co17)) (v1 := (.slice (some ⟨go29, 0, none⟩) x9_2.length co17)) (ok := (fun k_ => some k_ ≠ (v159 : Value).ownBlock)) (by (with_reducible repeat (first | apply Kd.R_alloc | apply Kd.R_drewN | apply Kd.R_drew)); exact HO_7.out) hg (.inl rfl)); have n1_ := Aside0.mk (Kd.R_after (v := (.slice (some ⟨go29, 0, none⟩) x9_2.length co17)) (v1 := (.slice (some ⟨go29, 0, none⟩) x9_2.length co17)) (ok := (fun k_ => some k_ ≠ (.slice Ao16 t155.length co16 : Value).ownBlock)) (by (with_reducible repeat (first | apply Kd.R_alloc | apply Kd.R_drewN | apply Kd.R_drew)); exact HO_8.out) hg (.inl rfl)); have n2_ := Aside0.mk (hp_); have n3_ := Aside0.mk ((by rw [hw]; exact below_set (HB.out) GB29.out : Below w.heap.size w w31)); clear HO_7; clear HO_8; clear HO_9; clear HB; have HO_7 := n0_; have HO_8 := n1_; have HO_9 := n2_; have HB := n3_; clear n0_ n1_ n2_ n3_; clear hg hw hp_))
                                  (try simp only [← hl9_2])
                                  go_roundg k2
                                  case measure => have := HJ3.out; have := HK2.out; omega
                                  case rel => exact ⟨(y170), (wrap64 (x36_2 + 1)), (by first | rfl | (simp; done) | (simp [*]; done)), H', ⟨by have := HJ3.out; have := HK2.out; omega⟩, ⟨by (try simp only [hl9_2]); (with_reducible repeat (first | apply Kd.R_alloc | apply Kd.R_drewN | apply Kd.R_drew)); exact HO_7.out⟩, ⟨by (try simp only [hl9_2]); (with_reducible repeat (first | apply Kd.R_alloc | apply Kd.R_drewN | apply Kd.R_drew)); exact HO_8.out⟩, ⟨by (try simp only [hl9_2]); (with_reducible repeat (first | apply Kd.R_alloc | apply Kd.R_drewN | apply Kd.R_drew)); exact HO_9.out⟩, ⟨by repeat (first | (with_reducible first | exact HB.out | apply below_alloc | apply pw_below_drewN | apply below_drew1) | exact HB.out)⟩⟩
                                · rw [if_neg c28] at H
                                  have c28b0 : decide ((Go.bits .or .u8 (rd x9_2 x36_2) 32) ≤ 122) = false := decide_eq_false c28
                                  clear c28
                                  have H' := Aside0.mk H
                                  clear H
                                  have p167 : 0 ≤ (x36_2 : Int) := of_decide_eq_true (by first | (with_reducible assumption) | assumption)
                                  have q167 : x36_2 < (x9_2.length : Int) := of_decide_eq_true (by first | (with_reducible assumption) | assumption)
                                  obtain ⟨ad167, e167, hx167_0⟩ := Kd.at_int (Kd.R_reads' HO_9.out).2.2 x36_2 p167 q167
                                  cases e167
                                  replace p167 := eq_true p167
                                  replace q167 := eq_true q167
                                  have p168 : 0 ≤ ((ji23) : Int) := of_decide_eq_true (by first | (with_reducible assumption) | assumption)
                                  have q168 : (ji23) < (l2.length : Int) := of_decide_eq_true (by first | (with_reducible assumption) | assumption)
                                  obtain ⟨ad168, e168, hx168_0⟩ := Kd.at_int HR2.out (ji23) p168 q168
                                  cases e168
                                  replace hx168_0 := (HB.out.cell (World.block_lt_of_cell? w _ hx168_0)).trans hx168_0
                                  replace p168 := eq_true p168
                                  replace q168 := eq_true q168
                                  go_wp2
                                  (try simp only [← hl9_2])
                                  go_roundg k2
                                  case measure => have := HJ3.out; have := HK2.out; omega
                                  case rel => exact ⟨(x9_2), (wrap64 (x36_2 + 1)), (by first | rfl | (simp; done) | (simp [*]; done)), H', ⟨by have := HJ3.out; have := HK2.out; omega⟩, ⟨by (try simp only [hl9_2]); (with_reducible repeat (first | apply Kd.R_alloc | apply Kd.R_drewN | apply Kd.R_drew)); exact HO_7.out⟩, ⟨by (try simp only [hl9_2]); (with_reducible repeat (first | apply Kd.R_alloc | apply Kd.R_drewN | apply Kd.R_drew)); exact HO_8.out⟩, ⟨by (try simp only [hl9_2]); (with_reducible repeat (first | apply Kd.R_alloc | apply Kd.R_drewN | apply Kd.R_drew)); exact HO_9.out⟩, ⟨by repeat (first | (with_reducible first | exact HB.out | apply below_alloc | apply pw_below_drewN | apply below_drew1) | exact HB.out)⟩⟩
                              · rw [if_neg c27] at H
                                have c27b0 : decide (97 ≤ (Go.bits .or .u8 (rd x9_2 x36_2) 32)) = false := decide_eq_false c27
                                clear c27
                                have H' := Aside0.mk H
                                clear H
                                have p167 : 0 ≤ (x36_2 : Int) := of_decide_eq_true (by first | (with_reducible assumption) | assumption)
                                have q167 : x36_2 < (x9_2.length : Int) := of_decide_eq_true (by first | (with_reducible assumption) | assumption)
                                obtain ⟨ad167, e167, hx167_0⟩ := Kd.at_int (Kd.R_reads' HO_9.out).2.2 x36_2 p167 q167
                                cases e167
                                replace p167 := eq_true p167
                                replace q167 := eq_true q167
                                have p168 : 0 ≤ ((ji23) : Int) := of_decide_eq_true (by first | (with_reducible assumption) | assumption)
                                have q168 : (ji23) < (l2.length : Int) := of_decide_eq_true (by first | (with_reducible assumption) | assumption)
                                obtain ⟨ad168, e168, hx168_0⟩ := Kd.at_int HR2.out (ji23) p168 q168
                                cases e168
                                replace hx168_0 := (HB.out.cell (World.block_lt_of_cell? w _ hx168_0)).trans hx168_0
                                replace p168 := eq_true p168
                                replace q168 := eq_true q168
                                go_wp2
                                (try simp only [← hl9_2])
                                go_roundg k2
                                case measure => have := HJ3.out; have := HK2.out; omega
                                case rel => exact ⟨(x9_2), (wrap64 (x36_2 + 1)), (by first | rfl | (simp; done) | (simp [*]; done)), H', ⟨by have := HJ3.out; have := HK2.out; omega⟩, ⟨by (try simp only [hl9_2]); (with_reducible repeat (first | apply Kd.R_alloc | apply Kd.R_drewN | apply Kd.R_drew)); exact HO_7.out⟩, ⟨by (try simp only [hl9_2]); (with_reducible repeat (first | apply Kd.R_alloc | apply Kd.R_drewN | apply Kd.R_drew)); exact HO_8.out⟩, ⟨by (try simp only [hl9_2]); (with_reducible repeat (first | apply Kd.R_alloc | apply Kd.R_drewN | apply Kd.R_drew)); exact HO_9.out⟩, ⟨by repeat (first | (with_reducible first | exact HB.out | apply below_alloc | apply pw_below_drewN | apply below_drew1) | exact HB.out)⟩⟩
                            · rw [if_neg c26] at H
                              have c26b0 : ((Int.tmod (rd l2 (ji23)) 2) == 0) = false := beq_eq_false_iff_ne.mpr c26
                              have c26b1 : ((Int.tmod (rd l2 (ji23)) 2) != 0) = true := bne_iff_ne.mpr c26
                              have H' := Aside0.mk H
                              clear H
                              have p167 : 0 ≤ (x36_2 : Int) := of_decide_eq_true (by first | (with_reducible assumption) | assumption)
                              have q167 : x36_2 < (x9_2.length : Int) := of_decide_eq_true (by first | (with_reducible assumption) | assumption)
                              obtain ⟨ad167, e167, hx167_0⟩ := Kd.at_int (Kd.R_reads' HO_9.out).2.2 x36_2 p167 q167
                              cases e167
                              replace p167 := eq_true p167
                              replace q167 := eq_true q167
                              have p168 : 0 ≤ ((ji23) : Int) := of_decide_eq_true (by first | (with_reducible assumption) | assumption)
                              have q168 : (ji23) < (l2.length : Int) := of_decide_eq_true (by first | (with_reducible assumption) | assumption)
                              obtain ⟨ad168, e168, hx168_0⟩ := Kd.at_int HR2.out (ji23) p168 q168
                              cases e168
                              replace hx168_0 := (HB.out.cell (World.block_lt_of_cell? w _ hx168_0)).trans hx168_0
                              replace p168 := eq_true p168
                              replace q168 := eq_true q168
                              go_wp2
                              (try simp only [← hl9_2])
                              go_roundg k2
                              case measure => have := HJ3.out; have := HK2.out; omega
                              case rel => exact ⟨(x9_2), (wrap64 (x36_2 + 1)), (by first | rfl | (simp; done) | (simp [*]; done)), H', ⟨by have := HJ3.out; have := HK2.out; omega⟩, ⟨by (try simp only [hl9_2]); (with_reducible repeat (first | apply Kd.R_alloc | apply Kd.R_drewN | apply Kd.R_drew)); exact HO_7.out⟩, ⟨by (try simp only [hl9_2]); (with_reducible repeat (first | apply Kd.R_alloc | apply Kd.R_drewN | apply Kd.R_drew)); exact HO_8.out⟩, ⟨by (try simp only [hl9_2]); (with_reducible repeat (first | apply Kd.R_alloc | apply Kd.R_drewN | apply Kd.R_drew)); exact HO_9.out⟩, ⟨by repeat (first | (with_reducible first | exact HB.out | apply below_alloc | apply pw_below_drewN | apply below_drew1) | exact HB.out)⟩⟩
                          · rw [if_neg c25] at H
                            exact absurd H (by simp)
                        · rw [if_neg c24] at H
                          exact absurd H (by simp)
                    · rw [if_neg c21] at H
                      have c21b0 : decide (0 < (l2.length : Int)) = false := decide_eq_false c21
                      have c21b1 : decide (0 < l2.length) = false := decide_eq_false (by omega)
                      clear c21
                      have H' := Aside0.mk H
                      clear H
                      have p167 : 0 ≤ (x36_2 : Int) := of_decide_eq_true (by first | (with_reducible assumption) | assumption)
                      have q167 : x36_2 < (x9_2.length : Int) := of_decide_eq_true (by first | (with_reducible assumption) | assumption)
                      obtain ⟨ad167, e167, hx167_0⟩ := Kd.at_int (Kd.R_reads' HO_9.out).2.2 x36_2 p167 q167
                      cases e167
                      replace p167 := eq_true p167
                      replace q167 := eq_true q167
                      go_wp2
                      (try simp only [← hl9_2])
                      go_roundg k2
                      case measure => have := HJ3.out; have := HK2.out; omega
                      case rel => exact ⟨(x9_2), (wrap64 (x36_2 + 1)), (by first | rfl | (simp; done) | (simp [*]; done)), H', ⟨by have := HJ3.out; have := HK2.out; omega⟩, ⟨by (try simp only [hl9_2]); (with_reducible repeat (first | apply Kd.R_alloc | apply Kd.R_drewN | apply Kd.R_drew)); exact HO_7.out⟩, ⟨by (try simp only [hl9_2]); (with_reducible repeat (first | apply Kd.R_alloc | apply Kd.R_drewN | apply Kd.R_drew)); exact HO_8.out⟩, ⟨by (try simp only [hl9_2]); (with_reducible repeat (first | apply Kd.R_alloc | apply Kd.R_drewN | apply Kd.R_drew)); exact HO_9.out⟩, ⟨by repeat (first | (with_reducible first | exact HB.out | apply below_alloc | apply pw_below_drewN | apply below_drew1) | exact HB.out)⟩⟩
                  · rw [if_neg c20] at H
                    exact absurd H (by simp)
                · rw [if_neg c19] at H
                  exact absurd H (by simp)
              · rw [if_neg c18] at H
                have c18b0 : decide (x36_2 < (y164.length : Int)) = false := decide_eq_false c18
                have c18d0 : decide (x36_2 < (x9_2.length : Int)) = false := by rw [← hl9_2]; exact c18b0
                clear c18
                obtain ⟨y171, hy171⟩ : ∃ y_ : List Bool, y_ = (([false, true] : List Bool)) := ⟨_, rfl⟩
                replace H : (laws_FnASFold.l1 k2 t155 t158 x9_2 y171 (y171.length : Int) 0) = some r := by first | (rw [hy171]; with_reducible exact H) | (have H2_ := (Option.bind_some _ _).symm.trans H; rw [hy171]; with_reducible exact H2_) | (have H2_ := (Option.bind_some _ _).symm.trans H; with_reducible exact H2_) | with_reducible exact H | (rw [hy171]; exact H) | exact H
                have Ny171 := Aside0.mk hy171
                clear hy171
                have H' := Aside0.mk H
                clear H
                go_wp2_with (first | ((with_reducible refine gate_dst (N := 73) rfl ?_); (try (refine gate_guard (by rfl) ?_; dsimp only)); refine Kd.R_lit Kd.bool _ 4 ?hg (N := 73) ?hd (xs := ([false, true] : List Bool)) (inner := [.bool false, .bool true]) (ok := fun _ => True) (okp := fun _ => True) ?hr ?hp (fun _ hk => hk) trivial (Below.refl _ _) (Nat.le_refl _) (by simp) ?_; (case hd => rfl); (case hg => rfl); (case hr => first | (go_simp; done) | (go_simp; rfl)); (case hp => exact (Reps.one (show Kd.M Kd.bool _ _ _ false [.bool false] from rfl) (Reps.one (show Kd.M Kd.bool _ _ _ true [.bool true] from rfl) (Reps.none _ _)))); intro v172 w32 ho33 hb hg_ hnew_; clear hg_ hnew_; (first | rw [← Ny171.out] at ho33 | (simp only [Int.reduceToNat] at ho33; rw [← Ny171.out] at ho33)); have n0_ := Aside0.mk (Kd.R_below (by (with_reducible repeat (first | apply Kd.R_alloc | apply Kd.R_drewN | apply Kd.R_drew)); exact HO_7.out) hb); have n1_ := Aside0.mk (Kd.R_below (by (with_reducible repeat (first | apply Kd.R_alloc | apply Kd.R_drewN | apply Kd.R_drew)); exact HO_8.out) hb); have n2_ := Aside0.mk (Kd.R_below (by (with_reducible repeat (first | apply Kd.R_alloc | apply Kd.R_drewN | apply Kd.R_drew)); exact HO_9.out) hb); have n3_ := Aside0.mk (Kd.R_lower ho33 (below_size (by repeat (first | (with_reducible first | exact HB.out | apply below_alloc | apply pw_below_drewN | apply below_drew1) | exact HB.out)))); have n4_ := Aside0.mk (below_step (by repeat (first | (with_reducible first | exact HB.out | apply below_alloc | apply pw_below_drewN | apply below_drew1) | exact HB.out)) hb); clear HO_7; clear HO_8; clear HO_9; clear HB; have HO_7 := n0_; have HO_8 := n1_; have HO_9 := n2_; have HO173 := n3_; have HB := n4_; clear n0_ n1_ n2_ n3_ n4_; clear hb ho33; obtain ⟨Ao34, co34, eo34⟩ := Kd.R_slice HO173.out; subst eo34))
                go_loopg [75] k2 (fun kq v75 w' => ∃ (x75_3 : Int), v75 = .int .i64 x75_3 ∧ Aside0 (laws_FnASFold.l1 kq t155 t158 x9_2 y171 (y171.length : Int) x75_3 = some r) ∧ Aside0 (kq ≤ k2) ∧ Aside0 (Kd.R (Kd.int .u8) 5 w' w.heap.size (fun k_ => some k_ ≠ (v159 : Value).ownBlock ∧ some k_ ≠ ((.slice Ao17 x9_2.length co17) : Value).ownBlock) (.slice Ao16 t155.length co16) t155) ∧ Aside0 (Kd.R (Kd.int .u8) 5 w' w.heap.size (fun k_ => some k_ ≠ ((.slice Ao16 t155.length co16) : Value).ownBlock ∧ some k_ ≠ ((.slice Ao17 x9_2.length co17) : Value).ownBlock) v159 t158) ∧ Aside0 (Kd.R (Kd.int .u8) 5 w' w.heap.size (fun k_ => some k_ ≠ ((.slice Ao16 t155.length co16) : Value).ownBlock ∧ some k_ ≠ (v159 : Value).ownBlock) (.slice Ao17 x9_2.length co17) x9_2) ∧ Aside0 (Kd.R Kd.bool 4 w' w.heap.size (fun _ => True) (.slice Ao34 y171.length co34) y171) ∧ Aside0 (Below w.heap.size w w'))
                case atStart => exact ⟨(0), (by first | rfl | (simp; done) | (simp [*]; done)), H', ⟨Nat.le_refl _⟩, ⟨by (try simp only [hl9_2]); (with_reducible repeat (first | apply Kd.R_alloc | apply Kd.R_drewN | apply Kd.R_drew)); exact HO_7.out⟩, ⟨by (try simp only [hl9_2]); (with_reducible repeat (first | apply Kd.R_alloc | apply Kd.R_drewN | apply Kd.R_drew)); exact HO_8.out⟩, ⟨by (try simp only [hl9_2]); (with_reducible repeat (first | apply Kd.R_alloc | apply Kd.R_drewN | apply Kd.R_drew)); exact HO_9.out⟩, ⟨by (try simp only [hl9_2]); (with_reducible repeat (first | apply Kd.R_alloc | apply Kd.R_drewN | apply Kd.R_drew)); exact HO173.out⟩, ⟨by repeat (first | (with_reducible first | exact HB.out | apply below_alloc | apply pw_below_drewN | apply below_drew1) | exact HB.out)⟩⟩
                case round =>
                  clear H'
                  try clear c1
                  try clear p1
                  try clear q1
                  try clear hx1
                  try clear c2
                  try clear p2
                  try clear q2
                  try clear hx2
                  try clear c5
                  try clear c5b0
                  try clear c5b1
                  try clear c6
                  try clear c6b0
                  try clear c6b1
                  try clear p6
                  try clear c7
                  try clear c10
                  try clear p16
                  try clear q16
                  try clear hx16
                  try clear c18
                  try clear c18b0
                  try clear c19
                  try clear c19b0
                  try clear c20
                  try clear c20b0
                  try clear c21
                  try clear c21b0
                  try clear c21b1
                  try clear c22
                  try clear c22b0
                  try clear c22b1
                  try clear c22b2
                  try clear c24
                  try clear c24b0
                  try clear c25
                  try clear c25b0
                  try clear c26
                  try clear c26b0
                  try clear c26b1
                  try clear c27
                  try clear c27b0
                  try clear c28
                  try clear c28b0
                  try clear p29
                  try clear q29
                  try clear hx29
                  try clear hf29
                  try clear hx167_0
                  try clear hx168_0
                  try clear hx169_0
                  try clear hx29_0
                  try clear p167
                  try clear p168
                  try clear p169
                  try clear p2
                  try clear p29
                  try clear q167
                  try clear q168
                  try clear q169
                  try clear q29
                  obtain ⟨x75_3, rfl, HA, HK3, HO_7, HO_8, HO_9, HO_73, HB⟩ := hrel
                  cases gk with
                  | zero => exact absurd HA.out (by simp [laws_FnASFold.l1])
                  | succ k3 =>
                    have H := HA.out
                    clear HA
                    simp only [laws_FnASFold.l1] at H
                    by_cases c35 : x75_3 < (y171.length : Int)
                    · rw [if_pos c35] at H
                      have c35b0 : decide (x75_3 < (y171.length : Int)) = true := decide_eq_true c35
                      clear c35
                      by_cases c36 : 0 ≤ x75_3
                      · rw [if_pos c36] at H
                        have c36b0 : decide (0 ≤ x75_3) = true := decide_eq_true c36
                        clear c36
                        by_cases c37 : x75_3 < (y171.length : Int)
                        · rw [if_pos c37] at H
                          have c37b0 : decide (x75_3 < (y171.length : Int)) = true := decide_eq_true c37
                          clear c37
                          replace H := Option.bind_eq_some_iff.mp H
                          obtain ⟨t176, A380, H⟩ := H
                          replace H : ((spec_ASFold.f k3 t155 t158).bind fun t177 => (if (t176 != t177) = true then (some false) else ((impl_ASFold.f k3 t158 t155 (rdOf false y171 x75_3)).bind fun t178 => ((spec_ASFold.f k3 t155 t158).bind fun t179 => (if (t178 != t179) = true then (some false) else ((impl_ASFold.f k3 t155 x9_2 (rdOf false y171 x75_3)).bind fun t180 => (if t180 = true then (laws_FnASFold.l1 k3 t155 t158 x9_2 y171 (y171.length : Int) (wrap64 (x75_3 + 1))) else (some false)))))))) = some r := H
                          have A38 := Aside0.mk A380
                          clear A380
                          replace H := Option.bind_eq_some_iff.mp H
                          obtain ⟨t177, A390, H⟩ := H
                          replace H : (if (t176 != t177) = true then (some false) else ((impl_ASFold.f k3 t158 t155 (rdOf false y171 x75_3)).bind fun t178 => ((spec_ASFold.f k3 t155 t158).bind fun t179 => (if (t178 != t179) = true then (some false) else ((impl_ASFold.f k3 t155 x9_2 (rdOf false y171 x75_3)).bind fun t180 => (if t180 = true then (laws_FnASFold.l1 k3 t155 t158 x9_2 y171 (y171.length : Int) (wrap64 (x75_3 + 1))) else (some false))))))) = some r := H
                          have A39 := Aside0.mk A390
                          clear A390
                          by_cases c40 : (t176 != t177) = true
                          · rw [if_pos c40] at H
                            have c40b0 : (t176 != t177) = true := c40
                            (try (have c40b1 : decide (t176 = t177) = false := by simpa using c40))
                            (try (have c40b2 : (t176 == t177) = false := by simpa using c40))
                            (try (have c40b3 : ¬ (t176 = t177) := by simpa using c40))
                            clear c40
                            obtain rfl := Option.some.inj H
                            have p175 : 0 ≤ (x75_3 : Int) := of_decide_eq_true (by first | (with_reducible assumption) | assumption)
                            have q175 : x75_3 < (y171.length : Int) := of_decide_eq_true (by first | (with_reducible assumption) | assumption)
                            obtain ⟨ad175, e175, hx175_0⟩ := Kd.at_bool (Kd.R_reads' HO_73.out).2.2 x75_3 p175 q175
                            cases e175
                            replace p175 := eq_true p175
                            replace q175 := eq_true q175
                            obtain ⟨Ao41, co41, eo41⟩ := Kd.R_slice HO_8.out
                            subst eo41
                            go_wp2_with (first | ((with_reducible refine gate_callee (f := 19) rfl ?_); refine goesL_ (some 82) rfl rfl Try.func19 (by kernel_rfl) rfl #[.slice Ao16 t155.length co16, .slice Ao41 t158.length co41, .bool (rdOf false y171 x75_3)] rfl (by (try simp only [List.map_toArray, List.map_cons, List.map_nil]); first | done | rfl | (simp only [List.length_drop, List.length_take]; rfl)) ?_; (with_reducible refine (impl_ASFold.calls k3 _ _ t155 _ _ t158 (rdOf false y171 x75_3) t176 _ ?side1 ?side2 ?side3 ?side4 A38.out).mono ?_); (case side1 => repeat (first | exact (Kd.R_reads' HO_7.out).2.2 | (with_reducible refine Kd.C_alloc ?_ _) | (with_reducible refine Kd.C_drewN ?_ _) | (with_reducible refine Kd.C_drew ?_))); (case side2 => exact (Kd.R_reads' HO_7.out).2.1); (case side3 => repeat (first | exact (Kd.R_reads' HO_8.out).2.2 | (with_reducible refine Kd.C_alloc ?_ _) | (with_reducible refine Kd.C_drewN ?_ _) | (with_reducible refine Kd.C_drew ?_))); (case side4 => exact (Kd.R_reads' HO_8.out).2.1); rintro e w' ⟨rfl, ⟨nd, rfl⟩⟩; refine ⟨_, rfl, ?_⟩) | ((with_reducible refine gate_callee (f := 20) rfl ?_); refine goesL_ (some 85) rfl rfl Try.func20 (by kernel_rfl) rfl #[.slice Ao16 t155.length co16, .slice Ao41 t158.length co41] rfl (by (try simp only [List.map_toArray, List.map_cons, List.map_nil]); first | done | rfl | (simp only [List.length_drop, List.length_take]; rfl)) ?_; (with_reducible refine (spec_ASFold.calls k3 _ _ t155 _ _ t158 t177 _ ?side1 ?side2 ?side3 ?side4 A39.out).mono ?_); (case side1 => repeat (first | exact (Kd.R_reads' HO_7.out).2.2 | (with_reducible refine Kd.C_alloc ?_ _) | (with_reducible refine Kd.C_drewN ?_ _) | (with_reducible refine Kd.C_drew ?_))); (case side2 => exact (Kd.R_reads' HO_7.out).2.1); (case side3 => repeat (first | exact (Kd.R_reads' HO_8.out).2.2 | (with_reducible refine Kd.C_alloc ?_ _) | (with_reducible refine Kd.C_drewN ?_ _) | (with_reducible refine Kd.C_drew ?_))); (case side4 => exact (Kd.R_reads' HO_8.out).2.1); rintro e w' ⟨rfl, ⟨nd, rfl⟩⟩; refine ⟨_, rfl, ?_⟩))
                            go_ret
                            exact ⟨by first | rfl | (simp [errW_none, errW_some] <;> rfl) | (simp [*, errW_none, errW_some] <;> rfl), by repeat (first | (with_reducible first | exact HB.out | apply below_alloc | apply pw_below_drewN | apply below_drew1) | exact HB.out)⟩
                          · rw [if_neg c40] at H
                            have c40b0 : (t176 != t177) = false := by simpa using c40
                            (try (have c40b1 : decide (t176 = t177) = true := by simpa using c40))
                            (try (have c40b2 : (t176 == t177) = true := by simpa using c40))
                            clear c40
                            replace H := Option.bind_eq_some_iff.mp H
                            obtain ⟨t178, A420, H⟩ := H
                            replace H : ((spec_ASFold.f k3 t155 t158).bind fun t179 => (if (t178 != t179) = true then (some false) else ((impl_ASFold.f k3 t155 x9_2 (rdOf false y171 x75_3)).bind fun t180 => (if t180 = true then (laws_FnASFold.l1 k3 t155 t158 x9_2 y171 (y171.length : Int) (wrap64 (x75_3 + 1))) else (some false))))) = some r := H
                            have A42 := Aside0.mk A420
                            clear A420
                            replace H := Option.bind_eq_some_iff.mp H
                            obtain ⟨t179, A430, H⟩ := H
                            replace H : (if (t178 != t179) = true then (some false) else ((impl_ASFold.f k3 t155 x9_2 (rdOf false y171 x75_3)).bind fun t180 => (if t180 = true then (laws_FnASFold.l1 k3 t155 t158 x9_2 y171 (y171.length : Int) (wrap64 (x75_3 + 1))) else (some false)))) = some r := H
                            have A43 := Aside0.mk A430
                            clear A430
                            by_cases c44 : (t178 != t179) = true
                            · rw [if_pos c44] at H
                              have c44b0 : (t178 != t179) = true := c44
                              (try (have c44b1 : decide (t178 = t179) = false := by simpa using c44))
                              (try (have c44b2 : (t178 == t179) = false := by simpa using c44))
                              (try (have c44b3 : ¬ (t178 = t179) := by simpa using c44))
                              clear c44
                              obtain rfl := Option.some.inj H
                              have p175 : 0 ≤ (x75_3 : Int) := of_decide_eq_true (by first | (with_reducible assumption) | assumption)
                              have q175 : x75_3 < (y171.length : Int) := of_decide_eq_true (by first | (with_reducible assumption) | assumption)
                              obtain ⟨ad175, e175, hx175_0⟩ := Kd.at_bool (Kd.R_reads' HO_73.out).2.2 x75_3 p175 q175
                              cases e175
                              replace p175 := eq_true p175
                              replace q175 := eq_true q175
                              obtain ⟨Ao45, co45, eo45⟩ := Kd.R_slice HO_8.out
                              subst eo45
                              go_wp2_with (first | ((with_reducible refine gate_callee (f := 19) rfl ?_); refine goesL_ (some 82) rfl rfl Try.func19 (by kernel_rfl) rfl #[.slice Ao16 t155.length co16, .slice Ao45 t158.length co45, .bool (rdOf false y171 x75_3)] rfl (by (try simp only [List.map_toArray, List.map_cons, List.map_nil]); first | done | rfl | (simp only [List.length_drop, List.length_take]; rfl)) ?_; (with_reducible refine (impl_ASFold.calls k3 _ _ t155 _ _ t158 (rdOf false y171 x75_3) t176 _ ?side1 ?side2 ?side3 ?side4 A38.out).mono ?_); (case side1 => repeat (first | exact (Kd.R_reads' HO_7.out).2.2 | (with_reducible refine Kd.C_alloc ?_ _) | (with_reducible refine Kd.C_drewN ?_ _) | (with_reducible refine Kd.C_drew ?_))); (case side2 => exact (Kd.R_reads' HO_7.out).2.1); (case side3 => repeat (first | exact (Kd.R_reads' HO_8.out).2.2 | (with_reducible refine Kd.C_alloc ?_ _) | (with_reducible refine Kd.C_drewN ?_ _) | (with_reducible refine Kd.C_drew ?_))); (case side4 => exact (Kd.R_reads' HO_8.out).2.1); rintro e w' ⟨rfl, ⟨nd, rfl⟩⟩; refine ⟨_, rfl, ?_⟩) | ((with_reducible refine gate_callee (f := 20) rfl ?_); refine goesL_ (some 85) rfl rfl Try.func20 (by kernel_rfl) rfl #[.slice Ao16 t155.length co16, .slice Ao45 t158.length co45] rfl (by (try simp only [List.map_toArray, List.map_cons, List.map_nil]); first | done | rfl | (simp only [List.length_drop, List.length_take]; rfl)) ?_; (with_reducible refine (spec_ASFold.calls k3 _ _ t155 _ _ t158 t177 _ ?side1 ?side2 ?side3 ?side4 A39.out).mono ?_); (case side1 => repeat (first | exact (Kd.R_reads' HO_7.out).2.2 | (with_reducible refine Kd.C_alloc ?_ _) | (with_reducible refine Kd.C_drewN ?_ _) | (with_reducible refine Kd.C_drew ?_))); (case side2 => exact (Kd.R_reads' HO_7.out).2.1); (case side3 => repeat (first | exact (Kd.R_reads' HO_8.out).2.2 | (with_reducible refine Kd.C_alloc ?_ _) | (with_reducible refine Kd.C_drewN ?_ _) | (with_reducible refine Kd.C_drew ?_))); (case side4 => exact (Kd.R_reads' HO_8.out).2.1); rintro e w' ⟨rfl, ⟨nd, rfl⟩⟩; refine ⟨_, rfl, ?_⟩) | (go_at_call 19; (with_reducible refine (impl_ASFold.calls k3 _ _ t158 _ _ t155 (rdOf false y171 x75_3) t178 _ ?side1 ?side2 ?side3 ?side4 A42.out).mono ?_); (case side1 => repeat (first | exact (Kd.R_reads' HO_8.out).2.2 | (with_reducible refine Kd.C_alloc ?_ _) | (with_reducible refine Kd.C_drewN ?_ _) | (with_reducible refine Kd.C_drew ?_))); (case side2 => exact (Kd.R_reads' HO_8.out).2.1); (case side3 => repeat (first | exact (Kd.R_reads' HO_7.out).2.2 | (with_reducible refine Kd.C_alloc ?_ _) | (with_reducible refine Kd.C_drewN ?_ _) | (with_reducible refine Kd.C_drew ?_))); (case side4 => exact (Kd.R_reads' HO_7.out).2.1); rintro e w' ⟨rfl, ⟨nd, rfl⟩⟩) | (go_at_call 20; (with_reducible refine (spec_ASFold.calls k3 _ _ t155 _ _ t158 t179 _ ?side1 ?side2 ?side3 ?side4 A43.out).mono ?_); (case side1 => repeat (first | exact (Kd.R_reads' HO_7.out).2.2 | (with_reducible refine Kd.C_alloc ?_ _) | (with_reducible refine Kd.C_drewN ?_ _) | (with_reducible refine Kd.C_drew ?_))); (case side2 => exact (Kd.R_reads' HO_7.out).2.1); (case side3 => repeat (first | exact (Kd.R_reads' HO_8.out).2.2 | (with_reducible refine Kd.C_alloc ?_ _) | (with_reducible refine Kd.C_drewN ?_ _) | (with_reducible refine Kd.C_drew ?_))); (case side4 => exact (Kd.R_reads' HO_8.out).2.1); rintro e w' ⟨rfl, ⟨nd, rfl⟩⟩))
                              go_ret
                              exact ⟨by first | rfl | (simp [errW_none, errW_some] <;> rfl) | (simp [*, errW_none, errW_some] <;> rfl), by repeat (first | (with_reducible first | exact HB.out | apply below_alloc | apply pw_below_drewN | apply below_drew1) | exact HB.out)⟩
                            · rw [if_neg c44] at H
                              have c44b0 : (t178 != t179) = false := by simpa using c44
                              (try (have c44b1 : decide (t178 = t179) = true := by simpa using c44))
                              (try (have c44b2 : (t178 == t179) = true := by simpa using c44))
                              clear c44
                              replace H := Option.bind_eq_some_iff.mp H
                              obtain ⟨t180, A460, H⟩ := H
                              replace H : (if t180 = true then (laws_FnASFold.l1 k3 t155 t158 x9_2 y171 (y171.length : Int) (wrap64 (x75_3 + 1))) else (some false)) = some r := H
                              have A46 := Aside0.mk A460
                              clear A460
                              by_cases c47 : t180 = true
                              · subst c47
                                have H1 : (laws_FnASFold.l1 k3 t155 t158 x9_2 y171 (y171.length : Int) (wrap64 (x75_3 + 1))) = some r := by rw [if_pos rfl] at H; exact H
                                clear H
                                have H := H1
                                clear H1
                                have H' := Aside0.mk H
                                clear H
                                have p175 : 0 ≤ (x75_3 : Int) := of_decide_eq_true (by first | (with_reducible assumption) | assumption)
                                have q175 : x75_3 < (y171.length : Int) := of_decide_eq_true (by first | (with_reducible assumption) | assumption)
                                obtain ⟨ad175, e175, hx175_0⟩ := Kd.at_bool (Kd.R_reads' HO_73.out).2.2 x75_3 p175 q175
                                cases e175
                                replace p175 := eq_true p175
                                replace q175 := eq_true q175
                                obtain ⟨Ao48, co48, eo48⟩ := Kd.R_slice HO_8.out
                                subst eo48
                                go_wp2_with (first | ((with_reducible refine gate_callee (f := 19) rfl ?_); refine goesL_ (some 82) rfl rfl Try.func19 (by kernel_rfl) rfl #[.slice Ao16 t155.length co16, .slice Ao48 t158.length co48, .bool (rdOf false y171 x75_3)] rfl (by (try simp only [List.map_toArray, List.map_cons, List.map_nil]); first | done | rfl | (simp only [List.length_drop, List.length_take]; rfl)) ?_; (with_reducible refine (impl_ASFold.calls k3 _ _ t155 _ _ t158 (rdOf false y171 x75_3) t176 _ ?side1 ?side2 ?side3 ?side4 A38.out).mono ?_); (case side1 => repeat (first | exact (Kd.R_reads' HO_7.out).2.2 | (with_reducible refine Kd.C_alloc ?_ _) | (with_reducible refine Kd.C_drewN ?_ _) | (with_reducible refine Kd.C_drew ?_))); (case side2 => exact (Kd.R_reads' HO_7.out).2.1); (case side3 => repeat (first | exact (Kd.R_reads' HO_8.out).2.2 | (with_reducible refine Kd.C_alloc ?_ _) | (with_reducible refine Kd.C_drewN ?_ _) | (with_reducible refine Kd.C_drew ?_))); (case side4 => exact (Kd.R_reads' HO_8.out).2.1); rintro e w' ⟨rfl, ⟨nd, rfl⟩⟩; refine ⟨_, rfl, ?_⟩) | ((with_reducible refine gate_callee (f := 20) rfl ?_); refine goesL_ (some 85) rfl rfl Try.func20 (by kernel_rfl) rfl #[.slice Ao16 t155.length co16, .slice Ao48 t158.length co48] rfl (by (try simp only [List.map_toArray, List.map_cons, List.map_nil]); first | done | rfl | (simp only [List.length_drop, List.length_take]; rfl)) ?_; (with_reducible refine (spec_ASFold.calls k3 _ _ t155 _ _ t158 t177 _ ?side1 ?side2 ?side3 ?side4 A39.out).mono ?_); (case side1 => repeat (first | exact (Kd.R_reads' HO_7.out).2.2 | (with_reducible refine Kd.C_alloc ?_ _) | (with_reducible refine Kd.C_drewN ?_ _) | (with_reducible refine Kd.C_drew ?_))); (case side2 => exact (Kd.R_reads' HO_7.out).2.1); (case side3 => repeat (first | exact (Kd.R_reads' HO_8.out).2.2 | (with_reducible refine Kd.C_alloc ?_ _) | (with_reducible refine Kd.C_drewN ?_ _) | (with_reducible refine Kd.C_drew ?_))); (case side4 => exact (Kd.R_reads' HO_8.out).2.1); rintro e w' ⟨rfl, ⟨nd, rfl⟩⟩; refine ⟨_, rfl, ?_⟩) | (go_at_call 19; (with_reducible refine (impl_ASFold.calls k3 _ _ t158 _ _ t155 (rdOf false y171 x75_3) t178 _ ?side1 ?side2 ?side3 ?side4 A42.out).mono ?_); (case side1 => repeat (first | exact (Kd.R_reads' HO_8.out).2.2 | (with_reducible refine Kd.C_alloc ?_ _) | (with_reducible refine Kd.C_drewN ?_ _) | (with_reducible refine Kd.C_drew ?_))); (case side2 => exact (Kd.R_reads' HO_8.out).2.1); (case side3 => repeat (first | exact (Kd.R_reads' HO_7.out).2.2 | (with_reducible refine Kd.C_alloc ?_ _) | (with_reducible refine Kd.C_drewN ?_ _) | (with_reducible refine Kd.C_drew ?_))); (case side4 => exact (Kd.R_reads' HO_7.out).2.1); rintro e w' ⟨rfl, ⟨nd, rfl⟩⟩) | (go_at_call 20; (with_reducible refine (spec_ASFold.calls k3 _ _ t155 _ _ t158 t179 _ ?side1 ?side2 ?side3 ?side4 A43.out).mono ?_); (case side1 => repeat (first | exact (Kd.R_reads' HO_7.out).2.2 | (with_reducible refine Kd.C_alloc ?_ _) | (with_reducible refine Kd.C_drewN ?_ _) | (with_reducible refine Kd.C_drew ?_))); (case side2 => exact (Kd.R_reads' HO_7.out).2.1); (case side3 => repeat (first | exact (Kd.R_reads' HO_8.out).2.2 | (with_reducible refine Kd.C_alloc ?_ _) | (with_reducible refine Kd.C_drewN ?_ _) | (with_reducible refine Kd.C_drew ?_))); (case side4 => exact (Kd.R_reads' HO_8.out).2.1); rintro e w' ⟨rfl, ⟨nd, rfl⟩⟩) | (go_at_call 19; (with_reducible refine (impl_ASFold.calls k3 _ _ t155 _ _ x9_2 (rdOf false y171 x75_3) true _ ?side1 ?side2 ?side3 ?side4 A46.out).mono ?_); (case side1 => repeat (first | exact (Kd.R_reads' HO_7.out).2.2 | (with_reducible refine Kd.C_alloc ?_ _) | (with_reducible refine Kd.C_drewN ?_ _) | (with_reducible refine Kd.C_drew ?_))); (case side2 => exact (Kd.R_reads' HO_7.out).2.1); (case side3 => repeat (first | exact (Kd.R_reads' HO_9.out).2.2 | (with_reducible refine Kd.C_alloc ?_ _) | (with_reducible refine Kd.C_drewN ?_ _) | (with_reducible refine Kd.C_drew ?_))); (case side4 => exact (Kd.R_reads' HO_9.out).2.1); rintro e w' ⟨rfl, ⟨nd, rfl⟩⟩))
                                go_roundg k3
                                case measure => have := HJ3.out; have := HK2.out; have := HK3.out; omega
                                case rel => exact ⟨(wrap64 (x75_3 + 1)), (by first | rfl | (simp; done) | (simp [*]; done)), H', ⟨by have := HJ3.out; have := HK2.out; have := HK3.out; omega⟩, ⟨by (try simp only [hl9_2]); (with_reducible repeat (first | apply Kd.R_alloc | apply Kd.R_drewN | apply Kd.R_drew)); exact HO_7.out⟩, ⟨by (try simp only [hl9_2]); (with_reducible repeat (first | apply Kd.R_alloc | apply Kd.R_drewN | apply Kd.R_drew)); exact HO_8.out⟩, ⟨by (try simp only [hl9_2]); (with_reducible repeat (first | apply Kd.R_alloc | apply Kd.R_drewN | apply Kd.R_drew)); exact HO_9.out⟩, ⟨by (try simp only [hl9_2]); (with_reducible repeat (first | apply Kd.R_alloc | apply Kd.R_drewN | apply Kd.R_drew)); exact HO_73.out⟩, ⟨by repeat (first | (with_reducible first | exact HB.out | apply below_alloc | apply pw_below_drewN | apply below_drew1) | exact HB.out)⟩⟩
                              · replace c47 := Bool.eq_false_iff.mpr c47
                                subst c47
                                have H1 : (some false) = some r := by rw [if_neg (show ¬ (false = true) by decide)] at H; exact H
                                clear H
                                have H := H1
                                clear H1
                                obtain rfl := Option.some.inj H
                                have p175 : 0 ≤ (x75_3 : Int) := of_decide_eq_true (by first | (with_reducible assumption) | assumption)
                                have q175 : x75_3 < (y171.length : Int) := of_decide_eq_true (by first | (with_reducible assumption) | assumption)
                                obtain ⟨ad175, e175, hx175_0⟩ := Kd.at_bool (Kd.R_reads' HO_73.out).2.2 x75_3 p175 q175
                                cases e175
                                replace p175 := eq_true p175
                                replace q175 := eq_true q175
                                obtain ⟨Ao49, co49, eo49⟩ := Kd.R_slice HO_8.out
                                subst eo49
                                go_wp2_with (first | ((with_reducible refine gate_callee (f := 19) rfl ?_); refine goesL_ (some 82) rfl rfl Try.func19 (by kernel_rfl) rfl #[.slice Ao16 t155.length co16, .slice Ao49 t158.length co49, .bool (rdOf false y171 x75_3)] rfl (by (try simp only [List.map_toArray, List.map_cons, List.map_nil]); first | done | rfl | (simp only [List.length_drop, List.length_take]; rfl)) ?_; (with_reducible refine (impl_ASFold.calls k3 _ _ t155 _ _ t158 (rdOf false y171 x75_3) t176 _ ?side1 ?side2 ?side3 ?side4 A38.out).mono ?_); (case side1 => repeat (first | exact (Kd.R_reads' HO_7.out).2.2 | (with_reducible refine Kd.C_alloc ?_ _) | (with_reducible refine Kd.C_drewN ?_ _) | (with_reducible refine Kd.C_drew ?_))); (case side2 => exact (Kd.R_reads' HO_7.out).2.1); (case side3 => repeat (first | exact (Kd.R_reads' HO_8.out).2.2 | (with_reducible refine Kd.C_alloc ?_ _) | (with_reducible refine Kd.C_drewN ?_ _) | (with_reducible refine Kd.C_drew ?_))); (case side4 => exact (Kd.R_reads' HO_8.out).2.1); rintro e w' ⟨rfl, ⟨nd, rfl⟩⟩; refine ⟨_, rfl, ?_⟩) | ((with_reducible refine gate_callee (f := 20) rfl ?_); refine goesL_ (some 85) rfl rfl Try.func20 (by kernel_rfl) rfl #[.slice Ao16 t155.length co16, .slice Ao49 t158.length co49] rfl (by (try simp only [List.map_toArray, List.map_cons, List.map_nil]); first | done | rfl | (simp only [List.length_drop, List.length_take]; rfl)) ?_; (with_reducible refine (spec_ASFold.calls k3 _ _ t155 _ _ t158 t177 _ ?side1 ?side2 ?side3 ?side4 A39.out).mono ?_); (case side1 => repeat (first | exact (Kd.R_reads' HO_7.out).2.2 | (with_reducible refine Kd.C_alloc ?_ _) | (with_reducible refine Kd.C_drewN ?_ _) | (with_reducible refine Kd.C_drew ?_))); (case side2 => exact (Kd.R_reads' HO_7.out).2.1); (case side3 => repeat (first | exact (Kd.R_reads' HO_8.out).2.2 | (with_reducible refine Kd.C_alloc ?_ _) | (with_reducible refine Kd.C_drewN ?_ _) | (with_reducible refine Kd.C_drew ?_))); (case side4 => exact (Kd.R_reads' HO_8.out).2.1); rintro e w' ⟨rfl, ⟨nd, rfl⟩⟩; refine ⟨_, rfl, ?_⟩) | (go_at_call 19; (with_reducible refine (impl_ASFold.calls k3 _ _ t158 _ _ t155 (rdOf false y171 x75_3) t178 _ ?side1 ?side2 ?side3 ?side4 A42.out).mono ?_); (case side1 => repeat (first | exact (Kd.R_reads' HO_8.out).2.2 | (with_reducible refine Kd.C_alloc ?_ _) | (with_reducible refine Kd.C_drewN ?_ _) | (with_reducible refine Kd.C_drew ?_))); (case side2 => exact (Kd.R_reads' HO_8.out).2.1); (case side3 => repeat (first | exact (Kd.R_reads' HO_7.out).2.2 | (with_reducible refine Kd.C_alloc ?_ _) | (with_reducible refine Kd.C_drewN ?_ _) | (with_reducible refine Kd.C_drew ?_))); (case side4 => exact (Kd.R_reads' HO_7.out).2.1); rintro e w' ⟨rfl, ⟨nd, rfl⟩⟩) | (go_at_call 20; (with_reducible refine (spec_ASFold.calls k3 _ _ t155 _ _ t158 t179 _ ?side1 ?side2 ?side3 ?side4 A43.out).mono ?_); (case side1 => repeat (first | exact (Kd.R_reads' HO_7.out).2.2 | (with_reducible refine Kd.C_alloc ?_ _) | (with_reducible refine Kd.C_drewN ?_ _) | (with_reducible refine Kd.C_drew ?_))); (case side2 => exact (Kd.R_reads' HO_7.out).2.1); (case side3 => repeat (first | exact (Kd.R_reads' HO_8.out).2.2 | (with_reducible refine Kd.C_alloc ?_ _) | (with_reducible refine Kd.C_drewN ?_ _) | (with_reducible refine Kd.C_drew ?_))); (case side4 => exact (Kd.R_reads' HO_8.out).2.1); rintro e w' ⟨rfl, ⟨nd, rfl⟩⟩) | (go_at_call 19; (with_reducible refine (impl_ASFold.calls k3 _ _ t155 _ _ x9_2 (rdOf false y171 x75_3) false _ ?side1 ?side2 ?side3 ?side4 A46.out).mono ?_); (case side1 => repeat (first | exact (Kd.R_reads' HO_7.out).2.2 | (with_reducible refine Kd.C_alloc ?_ _) | (with_reducible refine Kd.C_drewN ?_ _) | (with_reducible refine Kd.C_drew ?_))); (case side2 => exact (Kd.R_reads' HO_7.out).2.1); (case side3 => repeat (first | exact (Kd.R_reads' HO_9.out).2.2 | (with_reducible refine Kd.C_alloc ?_ _) | (with_reducible refine Kd.C_drewN ?_ _) | (with_reducible refine Kd.C_drew ?_))); (case side4 => exact (Kd.R_reads' HO_9.out).2.1); rintro e w' ⟨rfl, ⟨nd, rfl⟩⟩))
                                go_ret
                                exact ⟨by first | rfl | (simp [errW_none, errW_some] <;> rfl) | (simp [*, errW_none, errW_some] <;> rfl), by repeat (first | (with_reducible first | exact HB.out | apply below_alloc | apply pw_below_drewN | apply below_drew1) | exact HB.out)⟩
                        · rw [if_neg c37] at H
                          exact absurd H (by simp)
                      · rw [if_neg c36] at H
                        exact absurd H (by simp)
                    · rw [if_neg c35] at H
                      have c35b0 : decide (x75_3 < (y171.length : Int)) = false := decide_eq_false c35
                      clear c35
                      replace H := Option.bind_eq_some_iff.mp H
                      obtain ⟨t174, A500, H⟩ := H
                      replace H : (some t174) = some r := H
                      have A50 := Aside0.mk A500
                      clear A500
                      obtain rfl := Option.some.inj H
                      go_wp2_with (first | ((with_reducible refine gate_callee (f := 21) rfl ?_); refine goesL_ (some 105) rfl rfl Try.func21 (by kernel_rfl) rfl #[] rfl (by (try simp only [List.map_toArray, List.map_cons, List.map_nil]); first | done | rfl | (simp only [List.length_drop, List.length_take]; rfl)) ?_; (with_reducible refine (laws_asAwake.calls k3  t174 _ A50.out).mono ?_); rintro e w51 ⟨rfl, hb⟩; refine ⟨_, rfl, ?_⟩; have n0_ := Aside0.mk (Kd.R_below (by (with_reducible repeat (first | apply Kd.R_alloc | apply Kd.R_drewN | apply Kd.R_drew)); exact HO_7.out) hb); have n1_ := Aside0.mk (Kd.R_below (by (with_reducible repeat (first | apply Kd.R_alloc | apply Kd.R_drewN | apply Kd.R_drew)); exact HO_8.out) hb); have n2_ := Aside0.mk (Kd.R_below (by (with_reducible repeat (first | apply Kd.R_alloc | apply Kd.R_drewN | apply Kd.R_drew)); exact HO_9.out) hb); have n3_ := Aside0.mk (Kd.R_below (by (with_reducible repeat (first | apply Kd.R_alloc | apply Kd.R_drewN | apply Kd.R_drew)); exact HO_73.out) hb); have n4_ := Aside0.mk (below_step (by repeat (first | (with_reducible first | exact HB.out | apply below_alloc | apply pw_below_drewN | apply below_drew1) | exact HB.out)) hb); clear HO_7; clear HO_8; clear HO_9; clear HO_73; clear HB; have HO_7 := n0_; have HO_8 := n1_; have HO_9 := n2_; have HO_73 := n3_; have HB := n4_; clear n0_ n1_ n2_ n3_ n4_; (try clear hb); (try clear hb2); (try clear hk); (try clear hi)))
                      go_ret
                      exact ⟨by first | rfl | (simp [errW_none, errW_some] <;> rfl) | (simp [*, errW_none, errW_some] <;> rfl), by repeat (first | (with_reducible first | exact HB.out | apply below_alloc | apply pw_below_drewN | apply below_drew1) | exact HB.out)⟩
        · rw [if_neg c10] at H
          exact absurd H (by simp)

/-- THE ONE PURE STATEMENT of laws_FnASFold: yours. -/
def laws_FnASFold.Pure : Prop := ∀ (l0 : List Int) (l1 : List Int) (l2 : List Int), l0.length ≤ maxLen → l0.length * 1 ≤ 140737488351232 → (∀ x ∈ l0, (Lit.int .u8 x).wf = true) → l1.length ≤ maxLen → l1.length * 1 ≤ 140737488351232 → (∀ x ∈ l1, (Lit.int .u8 x).wf = true) → l2.length ≤ maxLen → l2.length * 1 ≤ 140737488351232 → (∀ x ∈ l2, (Lit.int .u8 x).wf = true) → ∃ k, laws_FnASFold.f k l0 l1 l2 = some true
theorem laws_FnASFold.walk (P : laws_FnASFold.Pure) (a0 : Option Addr) (len0 cap0 : Nat) (z0 : List Int) (a1 : Option Addr) (len1 cap1 : Nat) (z1 : List Int) (a2 : Option Addr) (len2 cap2 : Nat) (z2 : List Int) (w : World) (w0 : (a0 = none ∧ len0 = 0 ∧ cap0 = 0 ∧ z0 = []) ∨ ∃ x, a0 = some x ∧ len0 ≤ cap0 ∧ cap0 ≤ maxLen ∧ z0.length = cap0 ∧ (∀ i, i < z0.length → w.cell? (x.add i) = some (.int .u8 (z0.getD i 0))) ∧ ∀ n ∈ z0, (Lit.int .u8 n).wf = true) (y0 : len0 * 1 ≤ 140737488351232) (w1 : (a1 = none ∧ len1 = 0 ∧ cap1 = 0 ∧ z1 = []) ∨ ∃ x, a1 = some x ∧ len1 ≤ cap1 ∧ cap1 ≤ maxLen ∧ z1.length = cap1 ∧ (∀ i, i < z1.length → w.cell? (x.add i) = some (.int .u8 (z1.getD i 0))) ∧ ∀ n ∈ z1, (Lit.int .u8 n).wf = true) (y1 : len1 * 1 ≤ 140737488351232) (w2 : (a2 = none ∧ len2 = 0 ∧ cap2 = 0 ∧ z2 = []) ∨ ∃ x, a2 = some x ∧ len2 ≤ cap2 ∧ cap2 ≤ maxLen ∧ z2.length = cap2 ∧ (∀ i, i < z2.length → w.cell? (x.add i) = some (.int .u8 (z2.getD i 0))) ∧ ∀ n ∈ z2, (Lit.int .u8 n).wf = true) (y2 : len2 * 1 ≤ 140737488351232) :
    Calls Try.prog 6 #[.slice a0 len0 cap0, .slice a1 len1 cap1, .slice a2 len2 cap2] w fun e w' => e = .returned (.bool true) ∧ Below w.heap.size w w' := by
  obtain ⟨l0, rfl, hr0, hm0, hw0, hc0⟩ := ReadsInt.ofRowC w0
  obtain ⟨l1, rfl, hr1, hm1, hw1, hc1⟩ := ReadsInt.ofRowC w1
  obtain ⟨l2, rfl, hr2, hm2, hw2, hc2⟩ := ReadsInt.ofRowC w2
  obtain ⟨k, h⟩ := P l0 l1 l2 hm0 y0 hw0 hm1 y1 hw1 hm2 y2 hw2
  refine (laws_FnASFold.calls k _ _ l0 _ _ l1 _ _ l2 true w (Kd.C_of_reads (d := (0 : Int)) (h1 := fun _ => rfl) hr0) hc0 (Kd.C_of_reads (d := (0 : Int)) (h1 := fun _ => rfl) hr1) hc1 (Kd.C_of_reads (d := (0 : Int)) (h1 := fun _ => rfl) hr2) hc2 h).mono ?_
  rintro e w' ⟨rfl, hd⟩
  exact ⟨rfl, hd⟩

end Go.Proofs.Ytmhngpihkaignaa.PFnASFold
