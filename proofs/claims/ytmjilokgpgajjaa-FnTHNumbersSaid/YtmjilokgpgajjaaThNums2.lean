/- Whole numbers have as few bytes as may be: the law's walk. -/
import Derived.Test.YtmjilokgpgajjaaThNums
namespace Go.Proofs.Ytmjilokgpgajjaa.Th
open Go.RowKit Go.Proofs.YtmjilokgpgajjaaW.PrintWords Go.Proofs.YtmjilokgpgajjaaW.PrintLast Go.Proofs.YtmjilokgpgajjaaW.PrintMore Go.Proofs.Ytmjilokgpgajjaa.PFnTHWrites
set_option linter.unusedVariables false
set_option linter.unusedSimpArgs false
theorem one_byte (x : Int) (j : Nat) (h : nb j (zig x)) : j = 0 ↔ (-64 ≤ x ∧ x < 64) := by
  unfold zig at h
  cases j with
  | zero =>
    simp only [nb] at h
    split at h <;> constructor <;> intro _ <;> omega
  | succ j =>
    simp only [nb] at h
    split at h <;> constructor <;> intro _ <;> omega
theorem near_len (x y : Int) (j i : Nat) (h : nb j (zig x)) (k : nb i (zig y)) : ((x ≤ y ∨ x ≤ -1 - y) ∧ (-1 - x ≤ y ∨ -1 - x ≤ -1 - y)) → j ≤ i := by
  intro e
  refine nb_mono j i _ _ h k ?_
  unfold zig
  split <;> split <;> omega

set_option maxHeartbeats 4000000 in
set_option maxRecDepth 100000 in
theorem nums_3 (w : World) (g n m x y : Int) (g0 : 0 ≤ g) (g1 : g < 256) (hk : g % 3 = 0) (hx : spec_WRCut.f 3 3 n = some x) (hy : spec_WRCut.f 3 3 m = some y) (x0 : -32768 ≤ x) (x1 : x < 32768) (y0 : -32768 ≤ y) (y1 : y < 32768) :
    Calls Try.prog 4 #[.int .u8 g, .int .i64 n, .int .i64 m] w fun e w' => e = .returned (.bool true) ∧ Below w.heap.size w w' := by
  obtain ⟨jx, hjx, hnx⟩ := nb_some (zig x) (zig_range x (by omega) (by omega)).1 (zig_range x (by omega) (by omega)).2
  obtain ⟨jy, hjy, hny⟩ := nb_some (zig y) (zig_range y (by omega) (by omega)).1 (zig_range y (by omega) (by omega)).2
  have HX := Aside0.mk hx
  have HY := Aside0.mk hy
  have HXX := Aside0.mk (And.intro x0 x1)
  have HYY := Aside0.mk (And.intro y0 y1)
  have HNX := Aside0.mk (And.intro hjx hnx)
  have HNY := Aside0.mk (And.intro hjy hny)
  have HB0 := Aside0.mk (Below.refl w.heap.size w)
  have F1 := Aside0.mk (one_byte x jx hnx)
  have F2 := Aside0.mk (near_len x y jx jy hnx hny)
  clear hx hy hnx hny
  go_enter Try.func4, Try.ntmps4
  go_upto_region 3 with (first | (go_at_call 8; (with_reducible refine (spec_WRCut.calls 3 _ n x _ HX.out).mono ?_); rintro e w1 ⟨rfl, hd1⟩; have HB1 := Aside0.mk (HB0.out.trans hd1.below); clear hd1) | (go_at_call 8; (with_reducible refine (spec_WRCut.calls 3 _ m y _ HY.out).mono ?_); rintro e w2 ⟨rfl, hd1⟩; have HB2 := Aside0.mk (HB1.out.trans (hd1.below.mono HB1.out.size)); clear hd1))
  go_upto_region 6 with (first | (go_at_call 9; (with_reducible refine (one_2 _ _ _ 3 x _ 0 0 false (vbytes jx (zig x)) (blk_lt (blk_new _ _)) (blk_new _ _) (wrc_3 x _ 0 0 false HXX.out.1 HXX.out.2 jx HNX.out.1 HNX.out.2)).mono ?_); rintro e w3 ⟨A3, c3, rfl, hr, hb⟩; have HB3 := Aside0.mk ((below_alloc HB2.out _).trans (hb.mono (below_alloc HB2.out _).size)); clear hr hb) | (go_at_call 9; (with_reducible refine (one_2 _ _ _ 3 y _ 0 0 false (vbytes jy (zig y)) (blk_lt (blk_new _ _)) (blk_new _ _) (wrc_3 y _ 0 0 false HYY.out.1 HYY.out.2 jy HNY.out.1 HNY.out.2)).mono ?_); rintro e w4 ⟨A4, c4, rfl, hr, hb⟩; have HB4 := Aside0.mk ((below_alloc HB3.out _).trans (hb.mono (below_alloc HB3.out _).size)); clear hr hb) | (go_at_call 9; (with_reducible refine (one_0 _ _ _ 3 x _ 0 0 false (hib 2 x) (blk_lt (blk_new _ _)) (blk_new _ _) (wrb_3 _ x _ 0 0 false HXX.out.1 HXX.out.2)).mono ?_); rintro e w5 ⟨A5, c5, rfl, hr, hb⟩; have HB5 := Aside0.mk ((below_alloc HB4.out _).trans (hb.mono (below_alloc HB4.out _).size)); clear hr hb))
  go_wp2_with fail
  all_goals
    go_ret
    have f1 := F1.out
    have f2 := F2.out
    have l1 := vbytes_len jx (zig x)
    have l2 := vbytes_len jy (zig y)
    have l3 := hib_len 2 x
    refine ⟨congrArg (fun b => Ending.returned (Value.bool b)) ?_, HB5.out⟩
    first | (exfalso; omega) | (rw [beq_iff_eq, Bool.eq_iff_iff, beq_iff_eq, decide_eq_true_iff, l1]; omega) | (simp [l1]; omega)

set_option maxHeartbeats 4000000 in
set_option maxRecDepth 100000 in
theorem nums_4 (w : World) (g n m x y : Int) (g0 : 0 ≤ g) (g1 : g < 256) (hk : g % 3 = 1) (hx : spec_WRCut.f 3 4 n = some x) (hy : spec_WRCut.f 3 4 m = some y) (x0 : -2147483648 ≤ x) (x1 : x < 2147483648) (y0 : -2147483648 ≤ y) (y1 : y < 2147483648) :
    Calls Try.prog 4 #[.int .u8 g, .int .i64 n, .int .i64 m] w fun e w' => e = .returned (.bool true) ∧ Below w.heap.size w w' := by
  obtain ⟨jx, hjx, hnx⟩ := nb_some (zig x) (zig_range x (by omega) (by omega)).1 (zig_range x (by omega) (by omega)).2
  obtain ⟨jy, hjy, hny⟩ := nb_some (zig y) (zig_range y (by omega) (by omega)).1 (zig_range y (by omega) (by omega)).2
  have HX := Aside0.mk hx
  have HY := Aside0.mk hy
  have HXX := Aside0.mk (And.intro x0 x1)
  have HYY := Aside0.mk (And.intro y0 y1)
  have HNX := Aside0.mk (And.intro hjx hnx)
  have HNY := Aside0.mk (And.intro hjy hny)
  have HB0 := Aside0.mk (Below.refl w.heap.size w)
  have F1 := Aside0.mk (one_byte x jx hnx)
  have F2 := Aside0.mk (near_len x y jx jy hnx hny)
  clear hx hy hnx hny
  go_enter Try.func4, Try.ntmps4
  go_upto_region 3 with (first | (go_at_call 8; (with_reducible refine (spec_WRCut.calls 3 _ n x _ HX.out).mono ?_); rintro e w1 ⟨rfl, hd1⟩; have HB1 := Aside0.mk (HB0.out.trans hd1.below); clear hd1) | (go_at_call 8; (with_reducible refine (spec_WRCut.calls 3 _ m y _ HY.out).mono ?_); rintro e w2 ⟨rfl, hd1⟩; have HB2 := Aside0.mk (HB1.out.trans (hd1.below.mono HB1.out.size)); clear hd1))
  go_upto_region 6 with (first | (go_at_call 9; (with_reducible refine (one_2 _ _ _ 4 x _ 0 0 false (vbytes jx (zig x)) (blk_lt (blk_new _ _)) (blk_new _ _) (wrc_4 x _ 0 0 false HXX.out.1 HXX.out.2 jx HNX.out.1 HNX.out.2)).mono ?_); rintro e w3 ⟨A3, c3, rfl, hr, hb⟩; have HB3 := Aside0.mk ((below_alloc HB2.out _).trans (hb.mono (below_alloc HB2.out _).size)); clear hr hb) | (go_at_call 9; (with_reducible refine (one_2 _ _ _ 4 y _ 0 0 false (vbytes jy (zig y)) (blk_lt (blk_new _ _)) (blk_new _ _) (wrc_4 y _ 0 0 false HYY.out.1 HYY.out.2 jy HNY.out.1 HNY.out.2)).mono ?_); rintro e w4 ⟨A4, c4, rfl, hr, hb⟩; have HB4 := Aside0.mk ((below_alloc HB3.out _).trans (hb.mono (below_alloc HB3.out _).size)); clear hr hb) | (go_at_call 9; (with_reducible refine (one_0 _ _ _ 4 x _ 0 0 false (hib 4 x) (blk_lt (blk_new _ _)) (blk_new _ _) (wrb_4 _ x _ 0 0 false HXX.out.1 HXX.out.2)).mono ?_); rintro e w5 ⟨A5, c5, rfl, hr, hb⟩; have HB5 := Aside0.mk ((below_alloc HB4.out _).trans (hb.mono (below_alloc HB4.out _).size)); clear hr hb))
  go_wp2_with fail
  all_goals
    go_ret
    have f1 := F1.out
    have f2 := F2.out
    have l1 := vbytes_len jx (zig x)
    have l2 := vbytes_len jy (zig y)
    have l3 := hib_len 4 x
    refine ⟨congrArg (fun b => Ending.returned (Value.bool b)) ?_, HB5.out⟩
    first | (exfalso; omega) | (rw [beq_iff_eq, Bool.eq_iff_iff, beq_iff_eq, decide_eq_true_iff, l1]; omega) | (simp [l1]; omega)

set_option maxHeartbeats 4000000 in
set_option maxRecDepth 100000 in
theorem nums_5 (w : World) (g n m x y : Int) (g0 : 0 ≤ g) (g1 : g < 256) (hk : g % 3 = 2) (hx : spec_WRCut.f 3 5 n = some x) (hy : spec_WRCut.f 3 5 m = some y) (x0 : -9223372036854775808 ≤ x) (x1 : x < 9223372036854775808) (y0 : -9223372036854775808 ≤ y) (y1 : y < 9223372036854775808) :
    Calls Try.prog 4 #[.int .u8 g, .int .i64 n, .int .i64 m] w fun e w' => e = .returned (.bool true) ∧ Below w.heap.size w w' := by
  obtain ⟨jx, hjx, hnx⟩ := nb_some (zig x) (zig_range x (by omega) (by omega)).1 (zig_range x (by omega) (by omega)).2
  obtain ⟨jy, hjy, hny⟩ := nb_some (zig y) (zig_range y (by omega) (by omega)).1 (zig_range y (by omega) (by omega)).2
  have HX := Aside0.mk hx
  have HY := Aside0.mk hy
  have HXX := Aside0.mk (And.intro x0 x1)
  have HYY := Aside0.mk (And.intro y0 y1)
  have HNX := Aside0.mk (And.intro hjx hnx)
  have HNY := Aside0.mk (And.intro hjy hny)
  have HB0 := Aside0.mk (Below.refl w.heap.size w)
  have F1 := Aside0.mk (one_byte x jx hnx)
  have F2 := Aside0.mk (near_len x y jx jy hnx hny)
  clear hx hy hnx hny
  go_enter Try.func4, Try.ntmps4
  go_upto_region 3 with (first | (go_at_call 8; (with_reducible refine (spec_WRCut.calls 3 _ n x _ HX.out).mono ?_); rintro e w1 ⟨rfl, hd1⟩; have HB1 := Aside0.mk (HB0.out.trans hd1.below); clear hd1) | (go_at_call 8; (with_reducible refine (spec_WRCut.calls 3 _ m y _ HY.out).mono ?_); rintro e w2 ⟨rfl, hd1⟩; have HB2 := Aside0.mk (HB1.out.trans (hd1.below.mono HB1.out.size)); clear hd1))
  go_upto_region 6 with (first | (go_at_call 9; (with_reducible refine (one_2 _ _ _ 5 x _ 0 0 false (vbytes jx (zig x)) (blk_lt (blk_new _ _)) (blk_new _ _) (wrc_5 x _ 0 0 false HXX.out.1 HXX.out.2 jx HNX.out.1 HNX.out.2)).mono ?_); rintro e w3 ⟨A3, c3, rfl, hr, hb⟩; have HB3 := Aside0.mk ((below_alloc HB2.out _).trans (hb.mono (below_alloc HB2.out _).size)); clear hr hb) | (go_at_call 9; (with_reducible refine (one_2 _ _ _ 5 y _ 0 0 false (vbytes jy (zig y)) (blk_lt (blk_new _ _)) (blk_new _ _) (wrc_5 y _ 0 0 false HYY.out.1 HYY.out.2 jy HNY.out.1 HNY.out.2)).mono ?_); rintro e w4 ⟨A4, c4, rfl, hr, hb⟩; have HB4 := Aside0.mk ((below_alloc HB3.out _).trans (hb.mono (below_alloc HB3.out _).size)); clear hr hb) | (go_at_call 9; (with_reducible refine (one_0 _ _ _ 5 x _ 0 0 false (hib 8 x) (blk_lt (blk_new _ _)) (blk_new _ _) (wrb_5 _ x _ 0 0 false HXX.out.1 HXX.out.2)).mono ?_); rintro e w5 ⟨A5, c5, rfl, hr, hb⟩; have HB5 := Aside0.mk ((below_alloc HB4.out _).trans (hb.mono (below_alloc HB4.out _).size)); clear hr hb))
  go_wp2_with fail
  all_goals
    go_ret
    have f1 := F1.out
    have f2 := F2.out
    have l1 := vbytes_len jx (zig x)
    have l2 := vbytes_len jy (zig y)
    have l3 := hib_len 8 x
    refine ⟨congrArg (fun b => Ending.returned (Value.bool b)) ?_, HB5.out⟩
    first | (exfalso; omega) | (rw [beq_iff_eq, Bool.eq_iff_iff, beq_iff_eq, decide_eq_true_iff, l1]; omega) | (simp [l1]; omega)

theorem law_numbers (w : World) (g : Int) (g0 : 0 ≤ g) (g1 : g ≤ 255) (n : Int) (n0 : -9223372036854775808 ≤ n) (n1 : n ≤ 9223372036854775807) (m : Int) (m0 : -9223372036854775808 ≤ m) (m1 : m ≤ 9223372036854775807) :
    Calls Try.prog 4 #[.int .u8 g, .int .i64 n, .int .i64 m] w fun e w' => e = .returned (.bool true) ∧ Below w.heap.size w w' := by
  have c3 : ∀ v : Int, spec_WRCut.f 3 3 v = some (wrap64 (IntKind.i16.wrap v)) ∧ -32768 ≤ wrap64 (IntKind.i16.wrap v) ∧ wrap64 (IntKind.i16.wrap v) < 32768 := fun v => by
    refine ⟨by simp [spec_WRCut.f, spec_WRCut.j0], ?_⟩
    have e : IntKind.i16.wrap v = (v + 32768) % 65536 - 32768 := by simp [IntKind.wrap, IntKind.signed, IntKind.bits, IntKind.min, IntKind.max]; omega
    rw [e]
    unfold wrap64
    omega
  have c4 : ∀ v : Int, spec_WRCut.f 3 4 v = some (wrap64 (wrap32 v)) ∧ -2147483648 ≤ wrap64 (wrap32 v) ∧ wrap64 (wrap32 v) < 2147483648 := fun v => by
    refine ⟨by simp [spec_WRCut.f, spec_WRCut.j0, spec_WRCut.j1], ?_⟩
    unfold wrap64 wrap32
    omega
  have c5 : ∀ v : Int, spec_WRCut.f 3 5 v = some v := fun v => by simp [spec_WRCut.f, spec_WRCut.j0, spec_WRCut.j1]
  rcases (by omega : g % 3 = 0 ∨ g % 3 = 1 ∨ g % 3 = 2) with h | h | h
  · exact nums_3 w g n m _ _ g0 (by omega) h (c3 n).1 (c3 m).1 (c3 n).2.1 (c3 n).2.2 (c3 m).2.1 (c3 m).2.2
  · exact nums_4 w g n m _ _ g0 (by omega) h (c4 n).1 (c4 m).1 (c4 n).2.1 (c4 n).2.2 (c4 m).2.1 (c4 m).2.2
  · exact nums_5 w g n m _ _ g0 (by omega) h (c5 n) (c5 m) n0 (by omega) m0 (by omega)
end Go.Proofs.Ytmjilokgpgajjaa.Th
