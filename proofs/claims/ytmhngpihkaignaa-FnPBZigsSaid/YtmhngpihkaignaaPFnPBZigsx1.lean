-- PRINTED BY print.sh 35421559b90ae4d0a3588c463048766b98c2df88dd9212a6774a882060cdf62d: not written by this session
import Derived.Test.YtmhngpihkaignaaPFnPBZigsx0
namespace Go.Proofs.Ytmhngpihkaignaa.PFnPBZigs
open Go.RowKit Go.Proofs.YtmhngpihkaignaaW.PrintWords Go.Proofs.YtmhngpihkaignaaW.PrintLast Go.Proofs.YtmhngpihkaignaaW.PrintMore
attribute [local go_sem] max2_int min2_int max_two min_two max_three min_three max_four min_four   -- for this text's walks alone
set_option linter.unusedVariables false
set_option linter.unusedSimpArgs false

/-! ### proto_encodeZigZag64: function 60 -/
def proto_encodeZigZag64.f (a0 : Int) : Option (Int) := some (Go.bits .xor .u64 (IntKind.u64.wrap ((IntKind.u64.wrap (a0)) * 2)) (IntKind.u64.wrap (a0 / 9223372036854775808)))
set_option maxHeartbeats 8000000 in
set_option maxRecDepth 100000 in
theorem proto_encodeZigZag64.calls (a0 : Int) (r : Int) (w : World) (h : proto_encodeZigZag64.f a0 = some r) :
    Calls Try.prog 60 #[.int .i64 a0] w fun e w' => e = .returned (.int .u64 r) ∧ Drawn0 w w' := by
  have H : (some (Go.bits .xor .u64 (IntKind.u64.wrap ((IntKind.u64.wrap (a0)) * 2)) (IntKind.u64.wrap (a0 / 9223372036854775808)))) = some r := h
  clear h
  obtain rfl := Option.some.inj H
  go_enter Try.func60, Try.ntmps60
  go_wp2
  go_ret
  exact ⟨by first | rfl | (simp; done) | (simp [*]; done), by repeat (first | exact Drawn0.refl _ | apply Drawn0.step)⟩

/-! ### proto_EncodeZigZag: function 39 -/
def proto_EncodeZigZag.f (a0 : Int) : Option (Int) := (proto_encodeZigZag64.f a0).bind fun t101 => (some t101)
set_option maxHeartbeats 8000000 in
set_option maxRecDepth 100000 in
theorem proto_EncodeZigZag.calls (a0 : Int) (r : Int) (w : World) (h : proto_EncodeZigZag.f a0 = some r) :
    Calls Try.prog 39 #[.int .i64 a0] w fun e w' => e = .returned (.int .u64 r) ∧ Drawn0 w w' := by
  have H : ((proto_encodeZigZag64.f a0).bind fun t101 => (some t101)) = some r := h
  clear h
  replace H := Option.bind_eq_some_iff.mp H
  obtain ⟨t101, A20, H⟩ := H
  replace H : (some t101) = some r := H
  have A2 := Aside0.mk A20
  clear A20
  obtain rfl := Option.some.inj H
  go_enter Try.func39, Try.ntmps39
  go_wp2_with (first | ((with_reducible refine gate_callee (f := 60) rfl ?_); refine goesL_ (some 4) rfl rfl Try.func60 (by kernel_rfl) rfl #[.int .i64 a0] rfl (by (try simp only [List.map_toArray, List.map_cons, List.map_nil]); first | done | rfl | (simp only [List.length_drop, List.length_take]; rfl)) ?_; (with_reducible refine (proto_encodeZigZag64.calls a0 t101 _ A2.out).mono ?_); rintro e w' ⟨rfl, ⟨nd, rfl⟩⟩; refine ⟨_, rfl, ?_⟩))
  go_ret
  exact ⟨by first | rfl | (simp; done) | (simp [*]; done), by repeat (first | exact Drawn0.refl _ | apply Drawn0.step)⟩

/-! ### impl_PBZig: function 14 -/
def impl_PBZig.f (a0 : Int) : Option (Int) := (proto_EncodeZigZag.f a0).bind fun t102 => (some t102)
set_option maxHeartbeats 8000000 in
set_option maxRecDepth 100000 in
theorem impl_PBZig.calls (a0 : Int) (r : Int) (w : World) (h : impl_PBZig.f a0 = some r) :
    Calls Try.prog 14 #[.int .i64 a0] w fun e w' => e = .returned (.int .u64 r) ∧ Drawn0 w w' := by
  have H : ((proto_EncodeZigZag.f a0).bind fun t102 => (some t102)) = some r := h
  clear h
  replace H := Option.bind_eq_some_iff.mp H
  obtain ⟨t102, A20, H⟩ := H
  replace H : (some t102) = some r := H
  have A2 := Aside0.mk A20
  clear A20
  obtain rfl := Option.some.inj H
  go_enter Try.func14, Try.ntmps14
  go_wp2_with (first | ((with_reducible refine gate_callee (f := 39) rfl ?_); refine goesL_ (some 4) rfl rfl Try.func39 (by kernel_rfl) rfl #[.int .i64 a0] rfl (by (try simp only [List.map_toArray, List.map_cons, List.map_nil]); first | done | rfl | (simp only [List.length_drop, List.length_take]; rfl)) ?_; (with_reducible refine (proto_EncodeZigZag.calls a0 t102 _ A2.out).mono ?_); rintro e w' ⟨rfl, ⟨nd, rfl⟩⟩; refine ⟨_, rfl, ?_⟩))
  go_ret
  exact ⟨by first | rfl | (simp; done) | (simp [*]; done), by repeat (first | exact Drawn0.refl _ | apply Drawn0.step)⟩

-- NOT PRINTED: function 15 (spec_WRZig)

/-! ### proto_decodeZigZag64: function 61 -/
def proto_decodeZigZag64.f (a0 : Int) : Option (Int) := some (Go.bits .xor .i64 (wrap64 (a0 / 2)) (wrap64 (-(Go.bits .and .i64 (wrap64 (a0)) 1))))
set_option maxHeartbeats 8000000 in
set_option maxRecDepth 100000 in
theorem proto_decodeZigZag64.calls (a0 : Int) (r : Int) (w : World) (h : proto_decodeZigZag64.f a0 = some r) :
    Calls Try.prog 61 #[.int .u64 a0] w fun e w' => e = .returned (.int .i64 r) ∧ Drawn0 w w' := by
  have H : (some (Go.bits .xor .i64 (wrap64 (a0 / 2)) (wrap64 (-(Go.bits .and .i64 (wrap64 (a0)) 1))))) = some r := h
  clear h
  obtain rfl := Option.some.inj H
  go_enter Try.func61, Try.ntmps61
  go_wp2
  go_ret
  exact ⟨by first | rfl | (simp; done) | (simp [*]; done), by repeat (first | exact Drawn0.refl _ | apply Drawn0.step)⟩

/-! ### proto_DecodeZigZag: function 40 -/
def proto_DecodeZigZag.f (a0 : Int) : Option (Int) := (proto_decodeZigZag64.f a0).bind fun t103 => (some t103)
set_option maxHeartbeats 8000000 in
set_option maxRecDepth 100000 in
theorem proto_DecodeZigZag.calls (a0 : Int) (r : Int) (w : World) (h : proto_DecodeZigZag.f a0 = some r) :
    Calls Try.prog 40 #[.int .u64 a0] w fun e w' => e = .returned (.int .i64 r) ∧ Drawn0 w w' := by
  have H : ((proto_decodeZigZag64.f a0).bind fun t103 => (some t103)) = some r := h
  clear h
  replace H := Option.bind_eq_some_iff.mp H
  obtain ⟨t103, A20, H⟩ := H
  replace H : (some t103) = some r := H
  have A2 := Aside0.mk A20
  clear A20
  obtain rfl := Option.some.inj H
  go_enter Try.func40, Try.ntmps40
  go_wp2_with (first | ((with_reducible refine gate_callee (f := 61) rfl ?_); refine goesL_ (some 4) rfl rfl Try.func61 (by kernel_rfl) rfl #[.int .u64 a0] rfl (by (try simp only [List.map_toArray, List.map_cons, List.map_nil]); first | done | rfl | (simp only [List.length_drop, List.length_take]; rfl)) ?_; (with_reducible refine (proto_decodeZigZag64.calls a0 t103 _ A2.out).mono ?_); rintro e w' ⟨rfl, ⟨nd, rfl⟩⟩; refine ⟨_, rfl, ?_⟩))
  go_ret
  exact ⟨by first | rfl | (simp; done) | (simp [*]; done), by repeat (first | exact Drawn0.refl _ | apply Drawn0.step)⟩

/-! ### impl_PBUnzig: function 16 -/
def impl_PBUnzig.f (a0 : Int) : Option (Int) := (proto_DecodeZigZag.f a0).bind fun t104 => (some t104)
set_option maxHeartbeats 8000000 in
set_option maxRecDepth 100000 in
theorem impl_PBUnzig.calls (a0 : Int) (r : Int) (w : World) (h : impl_PBUnzig.f a0 = some r) :
    Calls Try.prog 16 #[.int .u64 a0] w fun e w' => e = .returned (.int .i64 r) ∧ Drawn0 w w' := by
  have H : ((proto_DecodeZigZag.f a0).bind fun t104 => (some t104)) = some r := h
  clear h
  replace H := Option.bind_eq_some_iff.mp H
  obtain ⟨t104, A20, H⟩ := H
  replace H : (some t104) = some r := H
  have A2 := Aside0.mk A20
  clear A20
  obtain rfl := Option.some.inj H
  go_enter Try.func16, Try.ntmps16
  go_wp2_with (first | ((with_reducible refine gate_callee (f := 40) rfl ?_); refine goesL_ (some 4) rfl rfl Try.func40 (by kernel_rfl) rfl #[.int .u64 a0] rfl (by (try simp only [List.map_toArray, List.map_cons, List.map_nil]); first | done | rfl | (simp only [List.length_drop, List.length_take]; rfl)) ?_; (with_reducible refine (proto_DecodeZigZag.calls a0 t104 _ A2.out).mono ?_); rintro e w' ⟨rfl, ⟨nd, rfl⟩⟩; refine ⟨_, rfl, ?_⟩))
  go_ret
  exact ⟨by first | rfl | (simp; done) | (simp [*]; done), by repeat (first | exact Drawn0.refl _ | apply Drawn0.step)⟩

-- NOT PRINTED: function 4 (laws_FnPBZigs)

end Go.Proofs.Ytmhngpihkaignaa.PFnPBZigs
