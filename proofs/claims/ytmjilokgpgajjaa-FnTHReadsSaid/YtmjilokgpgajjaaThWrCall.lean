/- Written by thwrcall.py (wip/tpl): the call that wrCall makes of numbers, kind by kind. -/
import Derived.Test.YtmjilokgpgajjaaThM3
import Derived.RegionTactic
import Derived.BigRegion
import Derived.IntWalk
namespace Go.Proofs.Ytmjilokgpgajjaa.Th
open Go.RowKit Go.Proofs.YtmjilokgpgajjaaW.PrintWords Go.Proofs.YtmjilokgpgajjaaW.PrintLast Go.Proofs.YtmjilokgpgajjaaW.PrintMore Go.Proofs.Ytmjilokgpgajjaa.PFnTHWrites
set_option linter.unusedVariables false
set_option linter.unusedSimpArgs false

set_option maxHeartbeats 8000000 in
set_option maxRecDepth 100000 in
theorem mk_1 (g n N : Int) (S : ByteArray) (x y : Int) (d : Bool) (w : World) (g0 : 0 ≤ g) (g1 : g ≤ 255) (hk : g % 14 = 0) (x0 : 0 ≤ x) (x1 : x ≤ 255) (y0 : 0 ≤ y) (y1 : y ≤ 255) (hN : spec_WRCut.f 3 1 n = some N) :
    Calls Try.prog 12 #[.int .u8 g, .int .i64 n, .string S, .agg #[.int .u8 x, .int .u8 y], .bool d] w fun e w' => e = .returned (.agg #[.int .i64 1, .int .i64 N, .string (⟨#[]⟩ : ByteArray), .int .i64 0, .int .i64 0, .bool false]) ∧ Below w.heap.size w w' := by
  have HN := Aside0.mk hN
  clear hN
  have e14 : (g : Int).tmod 14 = 0 := by rw [Int.tmod_eq_emod_of_nonneg g0]; exact hk
  clear hk
  go_enter Try.func12, Try.ntmps12
  go_wp2_with (go_at_call 8; (with_reducible refine (spec_WRCut.calls 3 _ n N _ HN.out).mono ?_); rintro e w1 ⟨rfl, hd1⟩; obtain ⟨q, rfl⟩ := hd1.out)
  go_returns
  exact ⟨rfl, by repeat (first | (with_reducible first | exact Below.refl _ _ | apply below_alloc | apply pw_below_drewN | apply below_drew | refine below_set ?_ (by simp; done) | refine below_set ?_ (by omega)) | exact Below.refl _ _)⟩

set_option maxHeartbeats 8000000 in
set_option maxRecDepth 100000 in
theorem mk_2 (g n N : Int) (S : ByteArray) (x y : Int) (d : Bool) (w : World) (g0 : 0 ≤ g) (g1 : g ≤ 255) (hk : g % 14 = 1) (x0 : 0 ≤ x) (x1 : x ≤ 255) (y0 : 0 ≤ y) (y1 : y ≤ 255) (hN : spec_WRCut.f 3 2 n = some N) :
    Calls Try.prog 12 #[.int .u8 g, .int .i64 n, .string S, .agg #[.int .u8 x, .int .u8 y], .bool d] w fun e w' => e = .returned (.agg #[.int .i64 2, .int .i64 N, .string (⟨#[]⟩ : ByteArray), .int .i64 0, .int .i64 0, .bool false]) ∧ Below w.heap.size w w' := by
  have HN := Aside0.mk hN
  clear hN
  have e14 : (g : Int).tmod 14 = 1 := by rw [Int.tmod_eq_emod_of_nonneg g0]; exact hk
  clear hk
  go_enter Try.func12, Try.ntmps12
  go_wp2_with (go_at_call 8; (with_reducible refine (spec_WRCut.calls 3 _ n N _ HN.out).mono ?_); rintro e w1 ⟨rfl, hd1⟩; obtain ⟨q, rfl⟩ := hd1.out)
  go_returns
  exact ⟨rfl, by repeat (first | (with_reducible first | exact Below.refl _ _ | apply below_alloc | apply pw_below_drewN | apply below_drew | refine below_set ?_ (by simp; done) | refine below_set ?_ (by omega)) | exact Below.refl _ _)⟩

set_option maxHeartbeats 8000000 in
set_option maxRecDepth 100000 in
theorem mk_3 (g n N : Int) (S : ByteArray) (x y : Int) (d : Bool) (w : World) (g0 : 0 ≤ g) (g1 : g ≤ 255) (hk : g % 14 = 2) (x0 : 0 ≤ x) (x1 : x ≤ 255) (y0 : 0 ≤ y) (y1 : y ≤ 255) (hN : spec_WRCut.f 3 3 n = some N) :
    Calls Try.prog 12 #[.int .u8 g, .int .i64 n, .string S, .agg #[.int .u8 x, .int .u8 y], .bool d] w fun e w' => e = .returned (.agg #[.int .i64 3, .int .i64 N, .string (⟨#[]⟩ : ByteArray), .int .i64 0, .int .i64 0, .bool false]) ∧ Below w.heap.size w w' := by
  have HN := Aside0.mk hN
  clear hN
  have e14 : (g : Int).tmod 14 = 2 := by rw [Int.tmod_eq_emod_of_nonneg g0]; exact hk
  clear hk
  go_enter Try.func12, Try.ntmps12
  go_wp2_with (go_at_call 8; (with_reducible refine (spec_WRCut.calls 3 _ n N _ HN.out).mono ?_); rintro e w1 ⟨rfl, hd1⟩; obtain ⟨q, rfl⟩ := hd1.out)
  go_returns
  exact ⟨rfl, by repeat (first | (with_reducible first | exact Below.refl _ _ | apply below_alloc | apply pw_below_drewN | apply below_drew | refine below_set ?_ (by simp; done) | refine below_set ?_ (by omega)) | exact Below.refl _ _)⟩

set_option maxHeartbeats 8000000 in
set_option maxRecDepth 100000 in
theorem mk_4 (g n N : Int) (S : ByteArray) (x y : Int) (d : Bool) (w : World) (g0 : 0 ≤ g) (g1 : g ≤ 255) (hk : g % 14 = 3) (x0 : 0 ≤ x) (x1 : x ≤ 255) (y0 : 0 ≤ y) (y1 : y ≤ 255) (hN : spec_WRCut.f 3 4 n = some N) :
    Calls Try.prog 12 #[.int .u8 g, .int .i64 n, .string S, .agg #[.int .u8 x, .int .u8 y], .bool d] w fun e w' => e = .returned (.agg #[.int .i64 4, .int .i64 N, .string (⟨#[]⟩ : ByteArray), .int .i64 0, .int .i64 0, .bool false]) ∧ Below w.heap.size w w' := by
  have HN := Aside0.mk hN
  clear hN
  have e14 : (g : Int).tmod 14 = 3 := by rw [Int.tmod_eq_emod_of_nonneg g0]; exact hk
  clear hk
  go_enter Try.func12, Try.ntmps12
  go_wp2_with (go_at_call 8; (with_reducible refine (spec_WRCut.calls 3 _ n N _ HN.out).mono ?_); rintro e w1 ⟨rfl, hd1⟩; obtain ⟨q, rfl⟩ := hd1.out)
  go_returns
  exact ⟨rfl, by repeat (first | (with_reducible first | exact Below.refl _ _ | apply below_alloc | apply pw_below_drewN | apply below_drew | refine below_set ?_ (by simp; done) | refine below_set ?_ (by omega)) | exact Below.refl _ _)⟩

set_option maxHeartbeats 8000000 in
set_option maxRecDepth 100000 in
theorem mk_5 (g n N : Int) (S : ByteArray) (x y : Int) (d : Bool) (w : World) (g0 : 0 ≤ g) (g1 : g ≤ 255) (hk : g % 14 = 4) (x0 : 0 ≤ x) (x1 : x ≤ 255) (y0 : 0 ≤ y) (y1 : y ≤ 255) (hN : spec_WRCut.f 3 5 n = some N) :
    Calls Try.prog 12 #[.int .u8 g, .int .i64 n, .string S, .agg #[.int .u8 x, .int .u8 y], .bool d] w fun e w' => e = .returned (.agg #[.int .i64 5, .int .i64 N, .string (⟨#[]⟩ : ByteArray), .int .i64 0, .int .i64 0, .bool false]) ∧ Below w.heap.size w w' := by
  have HN := Aside0.mk hN
  clear hN
  have e14 : (g : Int).tmod 14 = 4 := by rw [Int.tmod_eq_emod_of_nonneg g0]; exact hk
  clear hk
  go_enter Try.func12, Try.ntmps12
  go_wp2_with (go_at_call 8; (with_reducible refine (spec_WRCut.calls 3 _ n N _ HN.out).mono ?_); rintro e w1 ⟨rfl, hd1⟩; obtain ⟨q, rfl⟩ := hd1.out)
  go_returns
  exact ⟨rfl, by repeat (first | (with_reducible first | exact Below.refl _ _ | apply below_alloc | apply pw_below_drewN | apply below_drew | refine below_set ?_ (by simp; done) | refine below_set ?_ (by omega)) | exact Below.refl _ _)⟩

set_option maxHeartbeats 8000000 in
set_option maxRecDepth 100000 in
theorem mk_6 (g n N : Int) (S : ByteArray) (x y : Int) (d : Bool) (w : World) (g0 : 0 ≤ g) (g1 : g ≤ 255) (hk : g % 14 = 5) (x0 : 0 ≤ x) (x1 : x ≤ 255) (y0 : 0 ≤ y) (y1 : y ≤ 255) (hN : spec_WRCut.f 3 6 n = some N) :
    Calls Try.prog 12 #[.int .u8 g, .int .i64 n, .string S, .agg #[.int .u8 x, .int .u8 y], .bool d] w fun e w' => e = .returned (.agg #[.int .i64 6, .int .i64 N, .string (⟨#[]⟩ : ByteArray), .int .i64 0, .int .i64 0, .bool false]) ∧ Below w.heap.size w w' := by
  have HN := Aside0.mk hN
  clear hN
  have e14 : (g : Int).tmod 14 = 5 := by rw [Int.tmod_eq_emod_of_nonneg g0]; exact hk
  clear hk
  go_enter Try.func12, Try.ntmps12
  go_wp2_with (go_at_call 8; (with_reducible refine (spec_WRCut.calls 3 _ n N _ HN.out).mono ?_); rintro e w1 ⟨rfl, hd1⟩; obtain ⟨q, rfl⟩ := hd1.out)
  go_returns
  exact ⟨rfl, by repeat (first | (with_reducible first | exact Below.refl _ _ | apply below_alloc | apply pw_below_drewN | apply below_drew | refine below_set ?_ (by simp; done) | refine below_set ?_ (by omega)) | exact Below.refl _ _)⟩

set_option maxHeartbeats 8000000 in
set_option maxRecDepth 100000 in
theorem mk_9 (g n N : Int) (S : ByteArray) (x y : Int) (d : Bool) (w : World) (g0 : 0 ≤ g) (g1 : g ≤ 255) (hk : g % 14 = 8) (x0 : 0 ≤ x) (x1 : x ≤ 255) (y0 : 0 ≤ y) (y1 : y ≤ 255) (hN : spec_WRCut.f 3 9 n = some N) :
    Calls Try.prog 12 #[.int .u8 g, .int .i64 n, .string S, .agg #[.int .u8 x, .int .u8 y], .bool d] w fun e w' => e = .returned (.agg #[.int .i64 9, .int .i64 N, .string (⟨#[]⟩ : ByteArray), .int .i64 0, .int .i64 0, .bool false]) ∧ Below w.heap.size w w' := by
  have HN := Aside0.mk hN
  clear hN
  have e14 : (g : Int).tmod 14 = 8 := by rw [Int.tmod_eq_emod_of_nonneg g0]; exact hk
  clear hk
  go_enter Try.func12, Try.ntmps12
  go_wp2_with (go_at_call 8; (with_reducible refine (spec_WRCut.calls 3 _ n N _ HN.out).mono ?_); rintro e w1 ⟨rfl, hd1⟩; obtain ⟨q, rfl⟩ := hd1.out)
  go_returns
  exact ⟨rfl, by repeat (first | (with_reducible first | exact Below.refl _ _ | apply below_alloc | apply pw_below_drewN | apply below_drew | refine below_set ?_ (by simp; done) | refine below_set ?_ (by omega)) | exact Below.refl _ _)⟩

set_option maxHeartbeats 8000000 in
set_option maxRecDepth 100000 in
theorem mk_7 (g n : Int) (S : ByteArray) (x y : Int) (d : Bool) (w : World) (g0 : 0 ≤ g) (g1 : g ≤ 255) (hk : g % 14 = 6) (x0 : 0 ≤ x) (x1 : x ≤ 255) (y0 : 0 ≤ y) (y1 : y ≤ 255) :
    Calls Try.prog 12 #[.int .u8 g, .int .i64 n, .string S, .agg #[.int .u8 x, .int .u8 y], .bool d] w fun e w' => e = .returned (.agg #[.int .i64 7, .int .i64 0, .string S, .int .i64 0, .int .i64 0, .bool false]) ∧ Below w.heap.size w w' := by
  have e14 : (g : Int).tmod 14 = 6 := by rw [Int.tmod_eq_emod_of_nonneg g0]; exact hk
  clear hk
  go_enter Try.func12, Try.ntmps12
  go_wp2
  go_returns
  exact ⟨rfl, by repeat (first | (with_reducible first | exact Below.refl _ _ | apply below_alloc | apply pw_below_drewN | apply below_drew | refine below_set ?_ (by simp; done) | refine below_set ?_ (by omega)) | exact Below.refl _ _)⟩

set_option maxHeartbeats 8000000 in
set_option maxRecDepth 100000 in
theorem mk_8 (g n : Int) (S : ByteArray) (x y : Int) (d : Bool) (w : World) (g0 : 0 ≤ g) (g1 : g ≤ 255) (hk : g % 14 = 7) (x0 : 0 ≤ x) (x1 : x ≤ 255) (y0 : 0 ≤ y) (y1 : y ≤ 255) :
    Calls Try.prog 12 #[.int .u8 g, .int .i64 n, .string S, .agg #[.int .u8 x, .int .u8 y], .bool d] w fun e w' => e = .returned (.agg #[.int .i64 8, .int .i64 0, .string S, .int .i64 0, .int .i64 0, .bool false]) ∧ Below w.heap.size w w' := by
  have e14 : (g : Int).tmod 14 = 7 := by rw [Int.tmod_eq_emod_of_nonneg g0]; exact hk
  clear hk
  go_enter Try.func12, Try.ntmps12
  go_wp2
  go_returns
  exact ⟨rfl, by repeat (first | (with_reducible first | exact Below.refl _ _ | apply below_alloc | apply pw_below_drewN | apply below_drew | refine below_set ?_ (by simp; done) | refine below_set ?_ (by omega)) | exact Below.refl _ _)⟩

set_option maxHeartbeats 8000000 in
set_option maxRecDepth 100000 in
theorem mk_10 (g n N : Int) (S : ByteArray) (x y : Int) (d : Bool) (w : World) (g0 : 0 ≤ g) (g1 : g ≤ 255) (hk : g % 14 = 9) (x0 : 0 ≤ x) (x1 : x ≤ 255) (y0 : 0 ≤ y) (y1 : y ≤ 255) (hN : spec_WRCut.f 3 10 n = some N) :
    Calls Try.prog 12 #[.int .u8 g, .int .i64 n, .string S, .agg #[.int .u8 x, .int .u8 y], .bool d] w fun e w' => e = .returned (.agg #[.int .i64 10, .int .i64 N, .string S, .int .i64 (x % 4), .int .i64 0, .bool false]) ∧ Below w.heap.size w w' := by
  have HN := Aside0.mk hN
  clear hN
  have e14 : (g : Int).tmod 14 = 9 := by rw [Int.tmod_eq_emod_of_nonneg g0]; exact hk
  clear hk
  go_enter Try.func12, Try.ntmps12
  go_wp2
  go_region
  all_goals
   go_wp2_with (go_at_call 8; (with_reducible refine (spec_WRCut.calls 3 _ n N _ HN.out).mono ?_); rintro e w1 ⟨rfl, hd1⟩; obtain ⟨q, rfl⟩ := hd1.out)
   go_returns
   exact ⟨rfl, by repeat (first | (with_reducible first | exact Below.refl _ _ | apply below_alloc | apply pw_below_drewN | apply below_drew | refine below_set ?_ (by simp; done) | refine below_set ?_ (by omega)) | exact Below.refl _ _)⟩

set_option maxHeartbeats 8000000 in
set_option maxRecDepth 100000 in
theorem mk_11 (g n N : Int) (S : ByteArray) (x y : Int) (d : Bool) (w : World) (g0 : 0 ≤ g) (g1 : g ≤ 255) (hk : g % 14 = 10) (x0 : 0 ≤ x) (x1 : x ≤ 255) (y0 : 0 ≤ y) (y1 : y ≤ 255) (hN : spec_WRCut.f 3 11 n = some N) :
    Calls Try.prog 12 #[.int .u8 g, .int .i64 n, .string S, .agg #[.int .u8 x, .int .u8 y], .bool d] w fun e w' => e = .returned (.agg #[.int .i64 11, .int .i64 N, .string (⟨#[]⟩ : ByteArray), .int .i64 (2 + x % 11), .int .i64 0, .bool d]) ∧ Below w.heap.size w w' := by
  have HN := Aside0.mk hN
  clear hN
  have e14 : (g : Int).tmod 14 = 10 := by rw [Int.tmod_eq_emod_of_nonneg g0]; exact hk
  clear hk
  go_enter Try.func12, Try.ntmps12
  go_wp2_with (go_at_call 8; (with_reducible refine (spec_WRCut.calls 3 _ n N _ HN.out).mono ?_); rintro e w1 ⟨rfl, hd1⟩; obtain ⟨q, rfl⟩ := hd1.out)
  go_returns
  exact ⟨rfl, by repeat (first | (with_reducible first | exact Below.refl _ _ | apply below_alloc | apply pw_below_drewN | apply below_drew | refine below_set ?_ (by simp; done) | refine below_set ?_ (by omega)) | exact Below.refl _ _)⟩

set_option maxHeartbeats 8000000 in
set_option maxRecDepth 100000 in
theorem mk_12 (g n N : Int) (S : ByteArray) (x y : Int) (d : Bool) (w : World) (g0 : 0 ≤ g) (g1 : g ≤ 255) (hk : g % 14 = 11) (x0 : 0 ≤ x) (x1 : x ≤ 255) (y0 : 0 ≤ y) (y1 : y ≤ 255) (hN : spec_WRCut.f 3 12 n = some N) :
    Calls Try.prog 12 #[.int .u8 g, .int .i64 n, .string S, .agg #[.int .u8 x, .int .u8 y], .bool d] w fun e w' => e = .returned (.agg #[.int .i64 12, .int .i64 N, .string (⟨#[]⟩ : ByteArray), .int .i64 (2 + x % 11), .int .i64 0, .bool false]) ∧ Below w.heap.size w w' := by
  have HN := Aside0.mk hN
  clear hN
  have e14 : (g : Int).tmod 14 = 11 := by rw [Int.tmod_eq_emod_of_nonneg g0]; exact hk
  clear hk
  go_enter Try.func12, Try.ntmps12
  go_wp2_with (go_at_call 8; (with_reducible refine (spec_WRCut.calls 3 _ n N _ HN.out).mono ?_); rintro e w1 ⟨rfl, hd1⟩; obtain ⟨q, rfl⟩ := hd1.out)
  go_returns
  exact ⟨rfl, by repeat (first | (with_reducible first | exact Below.refl _ _ | apply below_alloc | apply pw_below_drewN | apply below_drew | refine below_set ?_ (by simp; done) | refine below_set ?_ (by omega)) | exact Below.refl _ _)⟩

set_option maxHeartbeats 8000000 in
set_option maxRecDepth 100000 in
theorem mk_13 (g n N : Int) (S : ByteArray) (x y : Int) (d : Bool) (w : World) (g0 : 0 ≤ g) (g1 : g ≤ 255) (hk : g % 14 = 12) (x0 : 0 ≤ x) (x1 : x ≤ 255) (y0 : 0 ≤ y) (y1 : y ≤ 255) (hN : spec_WRCut.f 3 13 n = some N) :
    Calls Try.prog 12 #[.int .u8 g, .int .i64 n, .string S, .agg #[.int .u8 x, .int .u8 y], .bool d] w fun e w' => e = .returned (.agg #[.int .i64 13, .int .i64 N, .string (⟨#[]⟩ : ByteArray), .int .i64 (2 + x % 11), .int .i64 0, .bool false]) ∧ Below w.heap.size w w' := by
  have HN := Aside0.mk hN
  clear hN
  have e14 : (g : Int).tmod 14 = 12 := by rw [Int.tmod_eq_emod_of_nonneg g0]; exact hk
  clear hk
  go_enter Try.func12, Try.ntmps12
  go_wp2_with (go_at_call 8; (with_reducible refine (spec_WRCut.calls 3 _ n N _ HN.out).mono ?_); rintro e w1 ⟨rfl, hd1⟩; obtain ⟨q, rfl⟩ := hd1.out)
  go_returns
  exact ⟨rfl, by repeat (first | (with_reducible first | exact Below.refl _ _ | apply below_alloc | apply pw_below_drewN | apply below_drew | refine below_set ?_ (by simp; done) | refine below_set ?_ (by omega)) | exact Below.refl _ _)⟩

set_option maxHeartbeats 8000000 in
set_option maxRecDepth 100000 in
theorem mk_14 (g n N : Int) (S : ByteArray) (x y : Int) (d : Bool) (w : World) (g0 : 0 ≤ g) (g1 : g ≤ 255) (hk : g % 14 = 13) (x0 : 0 ≤ x) (x1 : x ≤ 255) (y0 : 0 ≤ y) (y1 : y ≤ 255) (hN : spec_WRCut.f 3 14 n = some N) :
    Calls Try.prog 12 #[.int .u8 g, .int .i64 n, .string S, .agg #[.int .u8 x, .int .u8 y], .bool d] w fun e w' => e = .returned (.agg #[.int .i64 14, .int .i64 N, .string (⟨#[]⟩ : ByteArray), .int .i64 (2 + x % 11), .int .i64 (2 + y % 11), .bool false]) ∧ Below w.heap.size w w' := by
  have HN := Aside0.mk hN
  clear hN
  have e14 : (g : Int).tmod 14 = 13 := by rw [Int.tmod_eq_emod_of_nonneg g0]; exact hk
  clear hk
  go_enter Try.func12, Try.ntmps12
  go_wp2
  go_region
  all_goals
   go_wp2_with (go_at_call 8; (with_reducible refine (spec_WRCut.calls 3 _ n N _ HN.out).mono ?_); rintro e w1 ⟨rfl, hd1⟩; obtain ⟨q, rfl⟩ := hd1.out)
   go_returns
   exact ⟨rfl, by repeat (first | (with_reducible first | exact Below.refl _ _ | apply below_alloc | apply pw_below_drewN | apply below_drew | refine below_set ?_ (by simp; done) | refine below_set ?_ (by omega)) | exact Below.refl _ _)⟩
end Go.Proofs.Ytmjilokgpgajjaa.Th
