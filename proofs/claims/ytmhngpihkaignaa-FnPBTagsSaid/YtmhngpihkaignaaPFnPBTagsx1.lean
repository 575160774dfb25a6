-- PRINTED BY print.sh 35421559b90ae4d0a3588c463048766b98c2df88dd9212a6774a882060cdf62d: not written by this session
import Derived.Test.YtmhngpihkaignaaPFnPBTagsx0
namespace Go.Proofs.Ytmhngpihkaignaa.PFnPBTags
open Go.RowKit Go.Proofs.YtmhngpihkaignaaW.PrintWords Go.Proofs.YtmhngpihkaignaaW.PrintLast Go.Proofs.YtmhngpihkaignaaW.PrintMore
attribute [local go_sem] max2_int min2_int max_two min_two max_three min_three max_four min_four   -- for this text's walks alone
set_option linter.unusedVariables false
set_option linter.unusedSimpArgs false

/-! ### proto_EncodeTag: function 37 -/
def proto_EncodeTag.f (a0 : Int) (a1 : Int) : Option (Int) := some (Go.bits .or .u64 (IntKind.u64.wrap (a0 * 8)) a1)
set_option maxHeartbeats 8000000 in
set_option maxRecDepth 100000 in
theorem proto_EncodeTag.calls (a0 : Int) (a1 : Int) (r : Int) (w : World) (h : proto_EncodeTag.f a0 a1 = some r) :
    Calls Try.prog 37 #[.int .u64 a0, .int .u64 a1] w fun e w' => e = .returned (.int .u64 r) ∧ Drawn0 w w' := by
  have H : (some (Go.bits .or .u64 (IntKind.u64.wrap (a0 * 8)) a1)) = some r := h
  clear h
  obtain rfl := Option.some.inj H
  go_enter Try.func37, Try.ntmps37
  go_wp2
  go_ret
  exact ⟨by first | rfl | (simp; done) | (simp [*]; done), by repeat (first | exact Drawn0.refl _ | apply Drawn0.step)⟩

/-! ### impl_PBTag: function 12 -/
def impl_PBTag.f (a0 : Int) (a1 : Int) : Option (Int) := (proto_EncodeTag.f a0 a1).bind fun t101 => (some t101)
set_option maxHeartbeats 8000000 in
set_option maxRecDepth 100000 in
theorem impl_PBTag.calls (a0 : Int) (a1 : Int) (r : Int) (w : World) (h : impl_PBTag.f a0 a1 = some r) :
    Calls Try.prog 12 #[.int .u64 a0, .int .u64 a1] w fun e w' => e = .returned (.int .u64 r) ∧ Drawn0 w w' := by
  have H : ((proto_EncodeTag.f a0 a1).bind fun t101 => (some t101)) = some r := h
  clear h
  replace H := Option.bind_eq_some_iff.mp H
  obtain ⟨t101, A30, H⟩ := H
  replace H : (some t101) = some r := H
  have A3 := Aside0.mk A30
  clear A30
  obtain rfl := Option.some.inj H
  go_enter Try.func12, Try.ntmps12
  go_wp2_with (first | ((with_reducible refine gate_callee (f := 37) rfl ?_); refine goesL_ (some 7) rfl rfl Try.func37 (by kernel_rfl) rfl #[.int .u64 a0, .int .u64 a1] rfl (by (try simp only [List.map_toArray, List.map_cons, List.map_nil]); first | done | rfl | (simp only [List.length_drop, List.length_take]; rfl)) ?_; (with_reducible refine (proto_EncodeTag.calls a0 a1 t101 _ A3.out).mono ?_); rintro e w' ⟨rfl, ⟨nd, rfl⟩⟩; refine ⟨_, rfl, ?_⟩))
  go_ret
  exact ⟨by first | rfl | (simp; done) | (simp [*]; done), by repeat (first | exact Drawn0.refl _ | apply Drawn0.step)⟩

/-! ### proto_DecodeTag: function 38 -/
def proto_DecodeTag.f (a0 : Int) : Option (Int × Int) := some (a0 / 8, Go.bits .and .u64 a0 7)
set_option maxHeartbeats 8000000 in
set_option maxRecDepth 100000 in
theorem proto_DecodeTag.calls (a0 : Int) (r1 : Int) (r2 : Int) (w : World) (h : proto_DecodeTag.f a0 = some (r1, r2)) :
    Calls Try.prog 38 #[.int .u64 a0] w fun e w' => e = .returned (.tuple #[.int .u64 r1, .int .u64 r2]) ∧ Drawn0 w w' := by
  have H : (some (a0 / 8, Go.bits .and .u64 a0 7)) = some (r1, r2) := h
  clear h
  simp only [Option.some.injEq, Prod.mk.injEq] at H
  obtain ⟨rfl, rfl⟩ := H
  go_enter Try.func38, Try.ntmps38
  go_wp2
  go_ret2
  exact ⟨by first | rfl | (simp; done) | (simp [*]; done), by repeat (first | exact Drawn0.refl _ | apply Drawn0.step)⟩

/-! ### impl_PBUntag: function 13 -/
def impl_PBUntag.f (a0 : Int) : Option (Int × Int) := (proto_DecodeTag.f a0).bind fun bt102 => (some (bt102.1, bt102.2))
set_option maxHeartbeats 8000000 in
set_option maxRecDepth 100000 in
theorem impl_PBUntag.calls (a0 : Int) (r1 : Int) (r2 : Int) (w : World) (h : impl_PBUntag.f a0 = some (r1, r2)) :
    Calls Try.prog 13 #[.int .u64 a0] w fun e w' => e = .returned (.tuple #[.int .u64 r1, .int .u64 r2]) ∧ Drawn0 w w' := by
  have H : ((proto_DecodeTag.f a0).bind fun bt102 => (some (bt102.1, bt102.2))) = some (r1, r2) := h
  clear h
  replace H := Option.bind_eq_some_iff.mp H
  obtain ⟨⟨t102, t103⟩, A20, H⟩ := H
  replace H : (some (t102, t103)) = some (r1, r2) := H
  have A2 := Aside0.mk A20
  clear A20
  simp only [Option.some.injEq, Prod.mk.injEq] at H
  obtain ⟨rfl, rfl⟩ := H
  go_enter Try.func13, Try.ntmps13
  go_wp2_with (first | ((with_reducible refine gate_callee (f := 38) rfl ?_); refine goesL_ (some 8) rfl rfl Try.func38 (by kernel_rfl) rfl #[.int .u64 a0] rfl (by (try simp only [List.map_toArray, List.map_cons, List.map_nil]); first | done | rfl | (simp only [List.length_drop, List.length_take]; rfl)) ?_; (with_reducible refine (proto_DecodeTag.calls a0 t102 t103 _ A2.out).mono ?_); rintro e w' ⟨rfl, ⟨nd, rfl⟩⟩; refine ⟨_, rfl, ?_⟩))
  go_ret2
  exact ⟨by first | rfl | (simp; done) | (simp [*]; done), by repeat (first | exact Drawn0.refl _ | apply Drawn0.step)⟩

/-! ### laws_FnPBTags: function 3 -/
def laws_FnPBTags.f (a0 : Int) (a1 : Int) (a2 : Int) : Option (Bool) := (impl_PBTag.f (a0 / 8) (Int.tmod (IntKind.u64.wrap (a1)) 8)).bind fun t104 => ((impl_PBUntag.f t104).bind fun bt105 => ((impl_PBUntag.f a2).bind fun bt107 => (if t104 = (Go.bits .or .u64 (IntKind.u64.wrap ((a0 / 8) * 8)) (Int.tmod (IntKind.u64.wrap (a1)) 8)) then (if bt105.1 = (a0 / 8) then (if bt105.2 = (Int.tmod (IntKind.u64.wrap (a1)) 8) then ((impl_PBTag.f bt107.1 bt107.2).bind fun t109 => (if t109 = a2 then (some (decide (bt107.2 < 8))) else (some false))) else (some false)) else (some false)) else (some false))))
set_option maxHeartbeats 8000000 in
set_option maxRecDepth 100000 in
theorem laws_FnPBTags.calls (a0 : Int) (a1 : Int) (a2 : Int) (r : Bool) (w : World) (h : laws_FnPBTags.f a0 a1 a2 = some r) :
    Calls Try.prog 3 #[.int .u64 a0, .int .u8 a1, .int .u64 a2] w fun e w' => e = .returned (.bool r) ∧ Drawn0 w w' := by
  have H : ((impl_PBTag.f (a0 / 8) (Int.tmod (IntKind.u64.wrap (a1)) 8)).bind fun t104 => ((impl_PBUntag.f t104).bind fun bt105 => ((impl_PBUntag.f a2).bind fun bt107 => (if t104 = (Go.bits .or .u64 (IntKind.u64.wrap ((a0 / 8) * 8)) (Int.tmod (IntKind.u64.wrap (a1)) 8)) then (if bt105.1 = (a0 / 8) then (if bt105.2 = (Int.tmod (IntKind.u64.wrap (a1)) 8) then ((impl_PBTag.f bt107.1 bt107.2).bind fun t109 => (if t109 = a2 then (some (decide (bt107.2 < 8))) else (some false))) else (some false)) else (some false)) else (some false))))) = some r := h
  clear h
  replace H := Option.bind_eq_some_iff.mp H
  obtain ⟨t104, A40, H⟩ := H
  replace H : ((impl_PBUntag.f t104).bind fun bt105 => ((impl_PBUntag.f a2).bind fun bt107 => (if t104 = (Go.bits .or .u64 (IntKind.u64.wrap ((a0 / 8) * 8)) (Int.tmod (IntKind.u64.wrap (a1)) 8)) then (if bt105.1 = (a0 / 8) then (if bt105.2 = (Int.tmod (IntKind.u64.wrap (a1)) 8) then ((impl_PBTag.f bt107.1 bt107.2).bind fun t109 => (if t109 = a2 then (some (decide (bt107.2 < 8))) else (some false))) else (some false)) else (some false)) else (some false)))) = some r := H
  have A4 := Aside0.mk A40
  clear A40
  replace H := Option.bind_eq_some_iff.mp H
  obtain ⟨⟨t105, t106⟩, A50, H⟩ := H
  replace H : ((impl_PBUntag.f a2).bind fun bt107 => (if t104 = (Go.bits .or .u64 (IntKind.u64.wrap ((a0 / 8) * 8)) (Int.tmod (IntKind.u64.wrap (a1)) 8)) then (if t105 = (a0 / 8) then (if t106 = (Int.tmod (IntKind.u64.wrap (a1)) 8) then ((impl_PBTag.f bt107.1 bt107.2).bind fun t109 => (if t109 = a2 then (some (decide (bt107.2 < 8))) else (some false))) else (some false)) else (some false)) else (some false))) = some r := H
  have A5 := Aside0.mk A50
  clear A50
  replace H := Option.bind_eq_some_iff.mp H
  obtain ⟨⟨t107, t108⟩, A60, H⟩ := H
  replace H : (if t104 = (Go.bits .or .u64 (IntKind.u64.wrap ((a0 / 8) * 8)) (Int.tmod (IntKind.u64.wrap (a1)) 8)) then (if t105 = (a0 / 8) then (if t106 = (Int.tmod (IntKind.u64.wrap (a1)) 8) then ((impl_PBTag.f t107 t108).bind fun t109 => (if t109 = a2 then (some (decide (t108 < 8))) else (some false))) else (some false)) else (some false)) else (some false)) = some r := H
  have A6 := Aside0.mk A60
  clear A60
  by_cases c7 : t104 = (Go.bits .or .u64 (IntKind.u64.wrap ((a0 / 8) * 8)) (Int.tmod (IntKind.u64.wrap (a1)) 8))
  · rw [if_pos c7] at H
    have c7b0 : (t104 == (Go.bits .or .u64 (IntKind.u64.wrap ((a0 / 8) * 8)) (Int.tmod (IntKind.u64.wrap (a1)) 8))) = true := beq_iff_eq.mpr c7
    have c7b1 : (t104 != (Go.bits .or .u64 (IntKind.u64.wrap ((a0 / 8) * 8)) (Int.tmod (IntKind.u64.wrap (a1)) 8))) = false := bne_eq_false_iff_eq.mpr c7
    clear c7
    by_cases c8 : t105 = (a0 / 8)
    · rw [if_pos c8] at H
      have c8b0 : (t105 == (a0 / 8)) = true := beq_iff_eq.mpr c8
      have c8b1 : (t105 != (a0 / 8)) = false := bne_eq_false_iff_eq.mpr c8
      clear c8
      by_cases c9 : t106 = (Int.tmod (IntKind.u64.wrap (a1)) 8)
      · rw [if_pos c9] at H
        have c9b0 : (t106 == (Int.tmod (IntKind.u64.wrap (a1)) 8)) = true := beq_iff_eq.mpr c9
        have c9b1 : (t106 != (Int.tmod (IntKind.u64.wrap (a1)) 8)) = false := bne_eq_false_iff_eq.mpr c9
        clear c9
        replace H := Option.bind_eq_some_iff.mp H
        obtain ⟨t109, A100, H⟩ := H
        replace H : (if t109 = a2 then (some (decide (t108 < 8))) else (some false)) = some r := H
        have A10 := Aside0.mk A100
        clear A100
        by_cases c11 : t109 = a2
        · rw [if_pos c11] at H
          have c11b0 : (t109 == a2) = true := beq_iff_eq.mpr c11
          have c11b1 : (t109 != a2) = false := bne_eq_false_iff_eq.mpr c11
          clear c11
          obtain rfl := Option.some.inj H
          go_enter Try.func3, Try.ntmps3
          go_wp2_with (first | ((with_reducible refine gate_callee (f := 12) rfl ?_); refine goesL_ (some 21) rfl rfl Try.func12 (by kernel_rfl) rfl #[.int .u64 (a0 / 8), .int .u64 (Int.tmod (IntKind.u64.wrap (a1)) 8)] rfl (by (try simp only [List.map_toArray, List.map_cons, List.map_nil]); first | done | rfl | (simp only [List.length_drop, List.length_take]; rfl)) ?_; (with_reducible refine (impl_PBTag.calls (a0 / 8) (Int.tmod (IntKind.u64.wrap (a1)) 8) t104 _ A4.out).mono ?_); rintro e w' ⟨rfl, ⟨nd, rfl⟩⟩; refine ⟨_, rfl, ?_⟩) | ((with_reducible refine gate_callee (f := 13) rfl ?_); refine goesL_ (some 24) rfl rfl Try.func13 (by kernel_rfl) rfl #[.int .u64 t104] rfl (by (try simp only [List.map_toArray, List.map_cons, List.map_nil]); first | done | rfl | (simp only [List.length_drop, List.length_take]; rfl)) ?_; (with_reducible refine (impl_PBUntag.calls t104 t105 t106 _ A5.out).mono ?_); rintro e w' ⟨rfl, ⟨nd, rfl⟩⟩; refine ⟨_, rfl, ?_⟩) | ((with_reducible refine gate_callee (f := 13) rfl ?_); refine goesL_ (some 29) rfl rfl Try.func13 (by kernel_rfl) rfl #[.int .u64 a2] rfl (by (try simp only [List.map_toArray, List.map_cons, List.map_nil]); first | done | rfl | (simp only [List.length_drop, List.length_take]; rfl)) ?_; (with_reducible refine (impl_PBUntag.calls a2 t107 t108 _ A6.out).mono ?_); rintro e w' ⟨rfl, ⟨nd, rfl⟩⟩; refine ⟨_, rfl, ?_⟩) | (go_at_call 12; (with_reducible refine (impl_PBTag.calls t107 t108 t109 _ A10.out).mono ?_); rintro e w' ⟨rfl, ⟨nd, rfl⟩⟩))
          go_ret
          exact ⟨by first | rfl | (simp; done) | (simp [*]; done), by repeat (first | exact Drawn0.refl _ | apply Drawn0.step)⟩
        · rw [if_neg c11] at H
          have c11b0 : (t109 == a2) = false := beq_eq_false_iff_ne.mpr c11
          have c11b1 : (t109 != a2) = true := bne_iff_ne.mpr c11
          obtain rfl := Option.some.inj H
          go_enter Try.func3, Try.ntmps3
          go_wp2_with (first | ((with_reducible refine gate_callee (f := 12) rfl ?_); refine goesL_ (some 21) rfl rfl Try.func12 (by kernel_rfl) rfl #[.int .u64 (a0 / 8), .int .u64 (Int.tmod (IntKind.u64.wrap (a1)) 8)] rfl (by (try simp only [List.map_toArray, List.map_cons, List.map_nil]); first | done | rfl | (simp only [List.length_drop, List.length_take]; rfl)) ?_; (with_reducible refine (impl_PBTag.calls (a0 / 8) (Int.tmod (IntKind.u64.wrap (a1)) 8) t104 _ A4.out).mono ?_); rintro e w' ⟨rfl, ⟨nd, rfl⟩⟩; refine ⟨_, rfl, ?_⟩) | ((with_reducible refine gate_callee (f := 13) rfl ?_); refine goesL_ (some 24) rfl rfl Try.func13 (by kernel_rfl) rfl #[.int .u64 t104] rfl (by (try simp only [List.map_toArray, List.map_cons, List.map_nil]); first | done | rfl | (simp only [List.length_drop, List.length_take]; rfl)) ?_; (with_reducible refine (impl_PBUntag.calls t104 t105 t106 _ A5.out).mono ?_); rintro e w' ⟨rfl, ⟨nd, rfl⟩⟩; refine ⟨_, rfl, ?_⟩) | ((with_reducible refine gate_callee (f := 13) rfl ?_); refine goesL_ (some 29) rfl rfl Try.func13 (by kernel_rfl) rfl #[.int .u64 a2] rfl (by (try simp only [List.map_toArray, List.map_cons, List.map_nil]); first | done | rfl | (simp only [List.length_drop, List.length_take]; rfl)) ?_; (with_reducible refine (impl_PBUntag.calls a2 t107 t108 _ A6.out).mono ?_); rintro e w' ⟨rfl, ⟨nd, rfl⟩⟩; refine ⟨_, rfl, ?_⟩) | (go_at_call 12; (with_reducible refine (impl_PBTag.calls t107 t108 t109 _ A10.out).mono ?_); rintro e w' ⟨rfl, ⟨nd, rfl⟩⟩))
          go_ret
          exact ⟨by first | rfl | (simp; done) | (simp [*]; done), by repeat (first | exact Drawn0.refl _ | apply Drawn0.step)⟩
      · rw [if_neg c9] at H
        have c9b0 : (t106 == (Int.tmod (IntKind.u64.wrap (a1)) 8)) = false := beq_eq_false_iff_ne.mpr c9
        have c9b1 : (t106 != (Int.tmod (IntKind.u64.wrap (a1)) 8)) = true := bne_iff_ne.mpr c9
        obtain rfl := Option.some.inj H
        go_enter Try.func3, Try.ntmps3
        go_wp2_with (first | ((with_reducible refine gate_callee (f := 12) rfl ?_); refine goesL_ (some 21) rfl rfl Try.func12 (by kernel_rfl) rfl #[.int .u64 (a0 / 8), .int .u64 (Int.tmod (IntKind.u64.wrap (a1)) 8)] rfl (by (try simp only [List.map_toArray, List.map_cons, List.map_nil]); first | done | rfl | (simp only [List.length_drop, List.length_take]; rfl)) ?_; (with_reducible refine (impl_PBTag.calls (a0 / 8) (Int.tmod (IntKind.u64.wrap (a1)) 8) t104 _ A4.out).mono ?_); rintro e w' ⟨rfl, ⟨nd, rfl⟩⟩; refine ⟨_, rfl, ?_⟩) | ((with_reducible refine gate_callee (f := 13) rfl ?_); refine goesL_ (some 24) rfl rfl Try.func13 (by kernel_rfl) rfl #[.int .u64 t104] rfl (by (try simp only [List.map_toArray, List.map_cons, List.map_nil]); first | done | rfl | (simp only [List.length_drop, List.length_take]; rfl)) ?_; (with_reducible refine (impl_PBUntag.calls t104 t105 t106 _ A5.out).mono ?_); rintro e w' ⟨rfl, ⟨nd, rfl⟩⟩; refine ⟨_, rfl, ?_⟩) | ((with_reducible refine gate_callee (f := 13) rfl ?_); refine goesL_ (some 29) rfl rfl Try.func13 (by kernel_rfl) rfl #[.int .u64 a2] rfl (by (try simp only [List.map_toArray, List.map_cons, List.map_nil]); first | done | rfl | (simp only [List.length_drop, List.length_take]; rfl)) ?_; (with_reducible refine (impl_PBUntag.calls a2 t107 t108 _ A6.out).mono ?_); rintro e w' ⟨rfl, ⟨nd, rfl⟩⟩; refine ⟨_, rfl, ?_⟩))
        go_ret
        exact ⟨by first | rfl | (simp; done) | (simp [*]; done), by repeat (first | exact Drawn0.refl _ | apply Drawn0.step)⟩
    · rw [if_neg c8] at H
      have c8b0 : (t105 == (a0 / 8)) = false := beq_eq_false_iff_ne.mpr c8
      have c8b1 : (t105 != (a0 / 8)) = true := bne_iff_ne.mpr c8
      obtain rfl := Option.some.inj H
      go_enter Try.func3, Try.ntmps3
      go_wp2_with (first | ((with_reducible refine gate_callee (f := 12) rfl ?_); refine goesL_ (some 21) rfl rfl Try.func12 (by kernel_rfl) rfl #[.int .u64 (a0 / 8), .int .u64 (Int.tmod (IntKind.u64.wrap (a1)) 8)] rfl (by (try simp only [List.map_toArray, List.map_cons, List.map_nil]); first | done | rfl | (simp only [List.length_drop, List.length_take]; rfl)) ?_; (with_reducible refine (impl_PBTag.calls (a0 / 8) (Int.tmod (IntKind.u64.wrap (a1)) 8) t104 _ A4.out).mono ?_); rintro e w' ⟨rfl, ⟨nd, rfl⟩⟩; refine ⟨_, rfl, ?_⟩) | ((with_reducible refine gate_callee (f := 13) rfl ?_); refine goesL_ (some 24) rfl rfl Try.func13 (by kernel_rfl) rfl #[.int .u64 t104] rfl (by (try simp only [List.map_toArray, List.map_cons, List.map_nil]); first | done | rfl | (simp only [List.length_drop, List.length_take]; rfl)) ?_; (with_reducible refine (impl_PBUntag.calls t104 t105 t106 _ A5.out).mono ?_); rintro e w' ⟨rfl, ⟨nd, rfl⟩⟩; refine ⟨_, rfl, ?_⟩) | ((with_reducible refine gate_callee (f := 13) rfl ?_); refine goesL_ (some 29) rfl rfl Try.func13 (by kernel_rfl) rfl #[.int .u64 a2] rfl (by (try simp only [List.map_toArray, List.map_cons, List.map_nil]); first | done | rfl | (simp only [List.length_drop, List.length_take]; rfl)) ?_; (with_reducible refine (impl_PBUntag.calls a2 t107 t108 _ A6.out).mono ?_); rintro e w' ⟨rfl, ⟨nd, rfl⟩⟩; refine ⟨_, rfl, ?_⟩))
      go_ret
      exact ⟨by first | rfl | (simp; done) | (simp [*]; done), by repeat (first | exact Drawn0.refl _ | apply Drawn0.step)⟩
  · rw [if_neg c7] at H
    have c7b0 : (t104 == (Go.bits .or .u64 (IntKind.u64.wrap ((a0 / 8) * 8)) (Int.tmod (IntKind.u64.wrap (a1)) 8))) = false := beq_eq_false_iff_ne.mpr c7
    have c7b1 : (t104 != (Go.bits .or .u64 (IntKind.u64.wrap ((a0 / 8) * 8)) (Int.tmod (IntKind.u64.wrap (a1)) 8))) = true := bne_iff_ne.mpr c7
    obtain rfl := Option.some.inj H
    go_enter Try.func3, Try.ntmps3
    go_wp2_with (first | ((with_reducible refine gate_callee (f := 12) rfl ?_); refine goesL_ (some 21) rfl rfl Try.func12 (by kernel_rfl) rfl #[.int .u64 (a0 / 8), .int .u64 (Int.tmod (IntKind.u64.wrap (a1)) 8)] rfl (by (try simp only [List.map_toArray, List.map_cons, List.map_nil]); first | done | rfl | (simp only [List.length_drop, List.length_take]; rfl)) ?_; (with_reducible refine (impl_PBTag.calls (a0 / 8) (Int.tmod (IntKind.u64.wrap (a1)) 8) t104 _ A4.out).mono ?_); rintro e w' ⟨rfl, ⟨nd, rfl⟩⟩; refine ⟨_, rfl, ?_⟩) | ((with_reducible refine gate_callee (f := 13) rfl ?_); refine goesL_ (some 24) rfl rfl Try.func13 (by kernel_rfl) rfl #[.int .u64 t104] rfl (by (try simp only [List.map_toArray, List.map_cons, List.map_nil]); first | done | rfl | (simp only [List.length_drop, List.length_take]; rfl)) ?_; (with_reducible refine (impl_PBUntag.calls t104 t105 t106 _ A5.out).mono ?_); rintro e w' ⟨rfl, ⟨nd, rfl⟩⟩; refine ⟨_, rfl, ?_⟩) | ((with_reducible refine gate_callee (f := 13) rfl ?_); refine goesL_ (some 29) rfl rfl Try.func13 (by kernel_rfl) rfl #[.int .u64 a2] rfl (by (try simp only [List.map_toArray, List.map_cons, List.map_nil]); first | done | rfl | (simp only [List.length_drop, List.length_take]; rfl)) ?_; (with_reducible refine (impl_PBUntag.calls a2 t107 t108 _ A6.out).mono ?_); rintro e w' ⟨rfl, ⟨nd, rfl⟩⟩; refine ⟨_, rfl, ?_⟩))
    go_ret
    exact ⟨by first | rfl | (simp; done) | (simp [*]; done), by repeat (first | exact Drawn0.refl _ | apply Drawn0.step)⟩

/-- THE ONE PURE STATEMENT of laws_FnPBTags: yours. -/
def laws_FnPBTags.Pure : Prop := ∀ (a0 : Int) (a1 : Int) (a2 : Int), (Lit.int .u64 a0).wf = true → (Lit.int .u8 a1).wf = true → (Lit.int .u64 a2).wf = true → laws_FnPBTags.f a0 a1 a2 = some true
theorem laws_FnPBTags.walk (P : laws_FnPBTags.Pure) (a0 : Int) (a1 : Int) (a2 : Int) (w : World) (w0 : (Lit.int .u64 a0).wf = true) (w1 : (Lit.int .u8 a1).wf = true) (w2 : (Lit.int .u64 a2).wf = true) :
    Calls Try.prog 3 #[.int .u64 a0, .int .u8 a1, .int .u64 a2] w fun e w' => e = .returned (.bool true) ∧ Below w.heap.size w w' := by
  have h := P a0 a1 a2 w0 w1 w2
  refine (laws_FnPBTags.calls a0 a1 a2 true w h).mono ?_
  rintro e w' ⟨rfl, hd⟩
  exact ⟨rfl, hd.below⟩

end Go.Proofs.Ytmhngpihkaignaa.PFnPBTags
