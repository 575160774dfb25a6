-- PRINTED BY print.sh 35421559b90ae4d0a3588c463048766b98c2df88dd9212a6774a882060cdf62d: not written by this session
import Derived.Test.YtlagcfdojbjmmaaDoorPFnJSEscapesx0
namespace Go.Proofs.YtlagcfdojbjmmaaDoor.PFnJSEscapes
open Go.RowKit Go.Proofs.YtlagcfdojbjmmaaDoorW.PrintWords Go.Proofs.YtlagcfdojbjmmaaDoorW.PrintLast Go.Proofs.YtlagcfdojbjmmaaDoorW.PrintMore
attribute [local go_sem] max2_int min2_int max_two min_two max_three min_three max_four min_four   -- for this text's walks alone
set_option linter.unusedVariables false
set_option linter.unusedSimpArgs false

-- NOT PRINTED: function 21 (binary_littleEndian_Uint64)

-- NOT PRINTED: function 17 (json_stringToUint64)

/-! ### json_expand: function 22 -/
def json_expand.f (a0 : Int) : Option (Int) := some (IntKind.u64.wrap (72340172838076673 * (IntKind.u64.wrap (a0))))
set_option maxHeartbeats 8000000 in
set_option maxRecDepth 100000 in
theorem json_expand.calls (a0 : Int) (r : Int) (w : World) (h : json_expand.f a0 = some r) :
    Calls Tryd.prog 22 #[.int .u8 a0] w fun e w' => e = .returned (.int .u64 r) ∧ Drawn0 w w' := by
  have H : (some (IntKind.u64.wrap (72340172838076673 * (IntKind.u64.wrap (a0))))) = some r := h
  clear h
  obtain rfl := Option.some.inj H
  go_enter Tryd.func22, Tryd.ntmps22
  go_wp2
  go_ret
  exact ⟨by first | rfl | (simp; done) | (simp [*]; done), by repeat (first | exact Drawn0.refl _ | apply Drawn0.step)⟩

/-! ### json_below: function 18 -/
def json_below.f (a0 : Int) (a1 : Int) : Option (Int) := (json_expand.f a1).bind fun t101 => (some (IntKind.u64.wrap (a0 - t101)))
set_option maxHeartbeats 8000000 in
set_option maxRecDepth 100000 in
theorem json_below.calls (a0 : Int) (a1 : Int) (r : Int) (w : World) (h : json_below.f a0 a1 = some r) :
    Calls Tryd.prog 18 #[.int .u64 a0, .int .u8 a1] w fun e w' => e = .returned (.int .u64 r) ∧ Drawn0 w w' := by
  have H : ((json_expand.f a1).bind fun t101 => (some (IntKind.u64.wrap (a0 - t101)))) = some r := h
  clear h
  replace H := Option.bind_eq_some_iff.mp H
  obtain ⟨t101, A30, H⟩ := H
  replace H : (some (IntKind.u64.wrap (a0 - t101))) = some r := H
  have A3 := Aside0.mk A30
  clear A30
  obtain rfl := Option.some.inj H
  go_enter Tryd.func18, Tryd.ntmps18
  go_wp2_with (first | ((with_reducible refine gate_callee (f := 22) rfl ?_); refine goesL_ (some 7) rfl rfl Tryd.func22 (by kernel_rfl) rfl #[.int .u8 a1] rfl (by (try simp only [List.map_toArray, List.map_cons, List.map_nil]); first | done | rfl | (simp only [List.length_drop, List.length_take]; rfl)) ?_; (with_reducible refine (json_expand.calls a1 t101 _ A3.out).mono ?_); rintro e w' ⟨rfl, ⟨nd, rfl⟩⟩; refine ⟨_, rfl, ?_⟩))
  go_ret
  exact ⟨by first | rfl | (simp; done) | (simp [*]; done), by repeat (first | exact Drawn0.refl _ | apply Drawn0.step)⟩

/-! ### json_contains: function 19 -/
def json_contains.f (a0 : Int) (a1 : Int) : Option (Int) := (json_expand.f a1).bind fun t102 => (some (IntKind.u64.wrap ((Go.bits .xor .u64 a0 t102) - 72340172838076673)))
set_option maxHeartbeats 8000000 in
set_option maxRecDepth 100000 in
theorem json_contains.calls (a0 : Int) (a1 : Int) (r : Int) (w : World) (h : json_contains.f a0 a1 = some r) :
    Calls Tryd.prog 19 #[.int .u64 a0, .int .u8 a1] w fun e w' => e = .returned (.int .u64 r) ∧ Drawn0 w w' := by
  have H : ((json_expand.f a1).bind fun t102 => (some (IntKind.u64.wrap ((Go.bits .xor .u64 a0 t102) - 72340172838076673)))) = some r := h
  clear h
  replace H := Option.bind_eq_some_iff.mp H
  obtain ⟨t102, A30, H⟩ := H
  replace H : (some (IntKind.u64.wrap ((Go.bits .xor .u64 a0 t102) - 72340172838076673))) = some r := H
  have A3 := Aside0.mk A30
  clear A30
  obtain rfl := Option.some.inj H
  go_enter Tryd.func19, Tryd.ntmps19
  go_wp2_with (first | ((with_reducible refine gate_callee (f := 22) rfl ?_); refine goesL_ (some 7) rfl rfl Tryd.func22 (by kernel_rfl) rfl #[.int .u8 a1] rfl (by (try simp only [List.map_toArray, List.map_cons, List.map_nil]); first | done | rfl | (simp only [List.length_drop, List.length_take]; rfl)) ?_; (with_reducible refine (json_expand.calls a1 t102 _ A3.out).mono ?_); rintro e w' ⟨rfl, ⟨nd, rfl⟩⟩; refine ⟨_, rfl, ?_⟩))
  go_ret
  exact ⟨by first | rfl | (simp; done) | (simp [*]; done), by repeat (first | exact Drawn0.refl _ | apply Drawn0.step)⟩

-- NOT PRINTED: function 20 (bits_TrailingZeros64)

-- NOT PRINTED: function 16 (json_escapeIndex)

-- NOT PRINTED: function 15 (json_EscapeIndex)

-- NOT PRINTED: function 6 (impl_JSEscapeAt)

-- NOT PRINTED: function 4 (laws_FnJSEscapes)

end Go.Proofs.YtlagcfdojbjmmaaDoor.PFnJSEscapes
