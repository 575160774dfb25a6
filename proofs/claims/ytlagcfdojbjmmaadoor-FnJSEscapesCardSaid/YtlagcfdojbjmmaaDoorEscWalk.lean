/- The walks of the chunks' reading, the lowest bit's place and the search for the first byte that must be escaped. -/
import Derived.Test.YtlagcfdojbjmmaaDoorEscMask
import Derived.Handy
import Derived.BigQuiet
import Derived.Deep.RegionWith
import Derived.Laws.BitsLemmas
import Derived.Laws.Bits64
namespace Go.Proofs.YtlagcfdojbjmmaaDoor.Esc
open Go.RowKit Go.Proofs.YtlagcfdojbjmmaaDoor.PFnJSEscapes Go.Proofs.YtlagcfdojbjmmaaDoorW.PrintWords Go.Proofs.YtlagcfdojbjmmaaDoorW.PrintLast Go.Proofs.YtlagcfdojbjmmaaDoorW.PrintMore
set_option linter.unusedVariables false
set_option linter.unusedSimpArgs false

theorem or_comm64 (x y : Int) : Go.bits .or .u64 x y = Go.bits .or .u64 y x := by
  unfold Go.bits
  simp only [BitVec.or_comm]
theorem le_or (k : Nat) (hk : k ≤ 56) (x b : Int) (P : Int) (hP : (2 : Int) ^ k = P) (h0 : 0 ≤ x) (h1 : x < P) (h2 : 0 ≤ b) (h3 : b < 256) (hP1 : P ≤ 72057594037927936) : Go.bits .or .u64 x (IntKind.u64.wrap (IntKind.u64.wrap b * P)) = x + b * P := by
  have e : IntKind.u64.wrap b = b := by rw [IntKind.wrap_u64]; omega
  have hbP : b * P ≤ 255 * P := Int.mul_le_mul_of_nonneg_right (by omega) (by omega)
  have hb0 : 0 ≤ b * P := Int.mul_nonneg h2 (by omega)
  have e2 : IntKind.u64.wrap (b * P) = b * P := by rw [IntKind.wrap_u64]; omega
  rw [e, e2, or_comm64]
  have := bits_join .u64 64 (by decide) (fun n a b => by rw [IntKind.wrap_u64]; omega) k (b * P) x hb0 (by rw [hP]; exact Int.mul_emod_left _ _) (by omega) h0 (by rw [hP]; exact h1) (by omega)
  rw [this]
  omega
theorem le64 (b0 b1 b2 b3 b4 b5 b6 b7 : Nat) (h0 : b0 < 256) (h1 : b1 < 256) (h2 : b2 < 256) (h3 : b3 < 256) (h4 : b4 < 256) (h5 : b5 < 256) (h6 : b6 < 256) (h7 : b7 < 256) :
    Go.bits .or .u64 (Go.bits .or .u64 (Go.bits .or .u64 (Go.bits .or .u64 (Go.bits .or .u64 (Go.bits .or .u64 (Go.bits .or .u64 (IntKind.u64.wrap (b0 : Int)) (IntKind.u64.wrap (IntKind.u64.wrap (b1 : Int) * 256))) (IntKind.u64.wrap (IntKind.u64.wrap (b2 : Int) * 65536))) (IntKind.u64.wrap (IntKind.u64.wrap (b3 : Int) * 16777216))) (IntKind.u64.wrap (IntKind.u64.wrap (b4 : Int) * 4294967296))) (IntKind.u64.wrap (IntKind.u64.wrap (b5 : Int) * 1099511627776))) (IntKind.u64.wrap (IntKind.u64.wrap (b6 : Int) * 281474976710656))) (IntKind.u64.wrap (IntKind.u64.wrap (b7 : Int) * 72057594037927936)) = ((w8 [b0, b1, b2, b3, b4, b5, b6, b7] : Nat) : Int) := by
  have e0 : IntKind.u64.wrap (b0 : Int) = b0 := by rw [IntKind.wrap_u64]; omega
  rw [e0, le_or 8 (by decide) b0 b1 256 (by decide) (by omega) (by omega) (by omega) (by omega) (by decide)]
  rw [le_or 16 (by decide) _ b2 65536 (by decide) (by omega) (by omega) (by omega) (by omega) (by decide)]
  rw [le_or 24 (by decide) _ b3 16777216 (by decide) (by omega) (by omega) (by omega) (by omega) (by decide)]
  rw [le_or 32 (by decide) _ b4 4294967296 (by decide) (by omega) (by omega) (by omega) (by omega) (by decide)]
  rw [le_or 40 (by decide) _ b5 1099511627776 (by decide) (by omega) (by omega) (by omega) (by omega) (by decide)]
  rw [le_or 48 (by decide) _ b6 281474976710656 (by decide) (by omega) (by omega) (by omega) (by omega) (by decide)]
  rw [le_or 56 (by decide) _ b7 72057594037927936 (by decide) (by omega) (by omega) (by omega) (by omega) (by decide)]
  simp only [w8]
  omega

set_option maxHeartbeats 4000000 in
set_option maxRecDepth 100000 in
theorem uint64 (g o n c : Nat) (b0 b1 b2 b3 b4 b5 b6 b7 : Nat) (w : World) (hn : 8 ≤ n) (l0 : b0 < 256) (l1 : b1 < 256) (l2 : b2 < 256) (l3 : b3 < 256) (l4 : b4 < 256) (l5 : b5 < 256) (l6 : b6 < 256) (l7 : b7 < 256)
    (h0 : w.cell? ⟨g, o, none⟩ = some (.int .u8 b0)) (h1 : w.cell? ⟨g, o + 1, none⟩ = some (.int .u8 b1)) (h2 : w.cell? ⟨g, o + 2, none⟩ = some (.int .u8 b2)) (h3 : w.cell? ⟨g, o + 3, none⟩ = some (.int .u8 b3))
    (h4 : w.cell? ⟨g, o + 4, none⟩ = some (.int .u8 b4)) (h5 : w.cell? ⟨g, o + 5, none⟩ = some (.int .u8 b5)) (h6 : w.cell? ⟨g, o + 6, none⟩ = some (.int .u8 b6)) (h7 : w.cell? ⟨g, o + 7, none⟩ = some (.int .u8 b7)) :
    Calls Tryd.prog 21 #[.agg #[], .slice (some ⟨g, o, none⟩) n c] w fun e w' => e = .returned (.int .u64 ((w8 [b0, b1, b2, b3, b4, b5, b6, b7] : Nat) : Int)) ∧ Below w.heap.size w w' := by
  have hb := below_alloc (Below.refl w.heap.size w) (.cells #[] 34)
  have a0 := pw_cell_below hb h0
  have a1 := pw_cell_below hb h1
  have a2 := pw_cell_below hb h2
  have a3 := pw_cell_below hb h3
  have a4 := pw_cell_below hb h4
  have a5 := pw_cell_below hb h5
  have a6 := pw_cell_below hb h6
  have a7 := pw_cell_below hb h7
  clear h0 h1 h2 h3 h4 h5 h6 h7
  have HB := Aside0.mk hb
  clear hb
  have HX := Aside0.mk (le64 b0 b1 b2 b3 b4 b5 b6 b7 l0 l1 l2 l3 l4 l5 l6 l7)
  clear l0 l1 l2 l3 l4 l5 l6 l7
  go_enter Tryd.func21, Tryd.ntmps21
  go_upto_region 2 with fail
  go_quiet (fail)
  go_wp2
  go_ret
  refine ⟨congrArg Ending.returned (congrArg (Value.int .u64) HX.out), ?_⟩
  exact pw_below_drewN HB.out _

/-- What the laid table holds at the places that are read. -/
structure Tab (w : World) : Prop where
  t0 : w.cell? ⟨20, 62, none⟩ = some (.int .u8 7)
  t1 : w.cell? ⟨20, 51, none⟩ = some (.int .u8 15)
  t2 : w.cell? ⟨20, 46, none⟩ = some (.int .u8 23)
  t3 : w.cell? ⟨20, 54, none⟩ = some (.int .u8 31)
  t4 : w.cell? ⟨20, 25, none⟩ = some (.int .u8 39)
  t5 : w.cell? ⟨20, 17, none⟩ = some (.int .u8 47)
  t6 : w.cell? ⟨20, 33, none⟩ = some (.int .u8 55)
  t7 : w.cell? ⟨20, 32, none⟩ = some (.int .u8 63)
theorem Tab.below {w w' : World} (h : Tab w) (hb : Below w.heap.size w w') : Tab w' where
  t0 := pw_cell_below hb h.t0
  t1 := pw_cell_below hb h.t1
  t2 := pw_cell_below hb h.t2
  t3 := pw_cell_below hb h.t3
  t4 := pw_cell_below hb h.t4
  t5 := pw_cell_below hb h.t5
  t6 := pw_cell_below hb h.t6
  t7 := pw_cell_below hb h.t7
set_option maxHeartbeats 4000000 in
set_option maxRecDepth 100000 in
theorem tz0 (x : Int) (h0 : 0 < x) (h1 : x < 18446744073709551616) (h : Go.bits .and .u64 x (IntKind.u64.wrap (-x)) = 128) (w : World) (ht : Tab w) :
    Calls Tryd.prog 20 #[.int .u64 x] w fun e w' => e = .returned (.int .i64 7) ∧ Below w.heap.size w w' := by
  have hz : (x == 0) = false := beq_eq_false_iff_ne.2 (by omega)
  have c0 := ht.t0
  have hw : IntKind.u64.wrap 36591387270573294720 = 18144643196863743104 := by rw [IntKind.wrap_u64]; rfl
  clear h0 h1 ht
  go_enter Tryd.func20, Tryd.ntmps20
  go_upto_region 3 with fail
  go_wp2
  go_ret
  exact ⟨rfl, by repeat (first | exact Below.refl _ _ | apply pw_below_drewN | apply below_drew)⟩
set_option maxHeartbeats 4000000 in
set_option maxRecDepth 100000 in
theorem tz1 (x : Int) (h0 : 0 < x) (h1 : x < 18446744073709551616) (h : Go.bits .and .u64 x (IntKind.u64.wrap (-x)) = 32768) (w : World) (ht : Tab w) :
    Calls Tryd.prog 20 #[.int .u64 x] w fun e w' => e = .returned (.int .i64 15) ∧ Below w.heap.size w w' := by
  have hz : (x == 0) = false := beq_eq_false_iff_ne.2 (by omega)
  have c0 := ht.t1
  have hw : IntKind.u64.wrap 9367395141266763448320 = 14895895896020779008 := by rw [IntKind.wrap_u64]; rfl
  clear h0 h1 ht
  go_enter Tryd.func20, Tryd.ntmps20
  go_upto_region 3 with fail
  go_wp2
  go_ret
  exact ⟨rfl, by repeat (first | exact Below.refl _ _ | apply pw_below_drewN | apply below_drew)⟩
set_option maxHeartbeats 4000000 in
set_option maxRecDepth 100000 in
theorem tz2 (x : Int) (h0 : 0 < x) (h1 : x < 18446744073709551616) (h : Go.bits .and .u64 x (IntKind.u64.wrap (-x)) = 8388608) (w : World) (ht : Tab w) :
    Calls Tryd.prog 20 #[.int .u64 x] w fun e w' => e = .returned (.int .i64 23) ∧ Below w.heap.size w w' := by
  have hz : (x == 0) = false := beq_eq_false_iff_ne.2 (by omega)
  have c0 := ht.t2
  have hw : IntKind.u64.wrap 2398053156164291442769920 = 13320070197151793152 := by rw [IntKind.wrap_u64]; rfl
  clear h0 h1 ht
  go_enter Tryd.func20, Tryd.ntmps20
  go_upto_region 3 with fail
  go_wp2
  go_ret
  exact ⟨rfl, by repeat (first | exact Below.refl _ _ | apply pw_below_drewN | apply below_drew)⟩
set_option maxHeartbeats 4000000 in
set_option maxRecDepth 100000 in
theorem tz3 (x : Int) (h0 : 0 < x) (h1 : x < 18446744073709551616) (h : Go.bits .and .u64 x (IntKind.u64.wrap (-x)) = 2147483648) (w : World) (ht : Tab w) :
    Calls Tryd.prog 20 #[.int .u64 x] w fun e w' => e = .returned (.int .i64 31) ∧ Below w.heap.size w w' := by
  have hz : (x == 0) = false := beq_eq_false_iff_ne.2 (by omega)
  have c0 := ht.t3
  have hw : IntKind.u64.wrap 613901607978058609349099520 = 15737060908301549568 := by rw [IntKind.wrap_u64]; rfl
  clear h0 h1 ht
  go_enter Tryd.func20, Tryd.ntmps20
  go_upto_region 3 with fail
  go_wp2
  go_ret
  exact ⟨rfl, by repeat (first | exact Below.refl _ _ | apply pw_below_drewN | apply below_drew)⟩
set_option maxHeartbeats 4000000 in
set_option maxRecDepth 100000 in
theorem tz4 (x : Int) (h0 : 0 < x) (h1 : x < 18446744073709551616) (h : Go.bits .and .u64 x (IntKind.u64.wrap (-x)) = 549755813888) (w : World) (ht : Tab w) :
    Calls Tryd.prog 20 #[.int .u64 x] w fun e w' => e = .returned (.int .i64 39) ∧ Below w.heap.size w w' := by
  have hz : (x == 0) = false := beq_eq_false_iff_ne.2 (by omega)
  have c0 := ht.t4
  have hw : IntKind.u64.wrap 157158811642383003993369477120 = 7297384456514437120 := by rw [IntKind.wrap_u64]; rfl
  clear h0 h1 ht
  go_enter Tryd.func20, Tryd.ntmps20
  go_upto_region 3 with fail
  go_wp2
  go_ret
  exact ⟨rfl, by repeat (first | exact Below.refl _ _ | apply pw_below_drewN | apply below_drew)⟩
set_option maxHeartbeats 4000000 in
set_option maxRecDepth 100000 in
theorem tz5 (x : Int) (h0 : 0 < x) (h1 : x < 18446744073709551616) (h : Go.bits .and .u64 x (IntKind.u64.wrap (-x)) = 140737488355328) (w : World) (ht : Tab w) :
    Calls Tryd.prog 20 #[.int .u64 x] w fun e w' => e = .returned (.int .i64 47) ∧ Below w.heap.size w w' := by
  have hz : (x == 0) = false := beq_eq_false_iff_ne.2 (by omega)
  have c0 := ht.t5
  have hw : IntKind.u64.wrap 40232655780450049022302586142720 = 5009269423031189504 := by rw [IntKind.wrap_u64]; rfl
  clear h0 h1 ht
  go_enter Tryd.func20, Tryd.ntmps20
  go_upto_region 3 with fail
  go_wp2
  go_ret
  exact ⟨rfl, by repeat (first | exact Below.refl _ _ | apply pw_below_drewN | apply below_drew)⟩
set_option maxHeartbeats 4000000 in
set_option maxRecDepth 100000 in
theorem tz6 (x : Int) (h0 : 0 < x) (h1 : x < 18446744073709551616) (h : Go.bits .and .u64 x (IntKind.u64.wrap (-x)) = 36028797018963968) (w : World) (ht : Tab w) :
    Calls Tryd.prog 20 #[.int .u64 x] w fun e w' => e = .returned (.int .i64 55) ∧ Below w.heap.size w w' := by
  have hz : (x == 0) = false := beq_eq_false_iff_ne.2 (by omega)
  have c0 := ht.t6
  have hw : IntKind.u64.wrap 10299559879795212549709462052536320 = 9547631210025451520 := by rw [IntKind.wrap_u64]; rfl
  clear h0 h1 ht
  go_enter Tryd.func20, Tryd.ntmps20
  go_upto_region 3 with fail
  go_wp2
  go_ret
  exact ⟨rfl, by repeat (first | exact Below.refl _ _ | apply pw_below_drewN | apply below_drew)⟩
set_option maxHeartbeats 4000000 in
set_option maxRecDepth 100000 in
theorem tz7 (x : Int) (h0 : 0 < x) (h1 : x < 18446744073709551616) (h : Go.bits .and .u64 x (IntKind.u64.wrap (-x)) = 9223372036854775808) (w : World) (ht : Tab w) :
    Calls Tryd.prog 20 #[.int .u64 x] w fun e w' => e = .returned (.int .i64 63) ∧ Below w.heap.size w w' := by
  have hz : (x == 0) = false := beq_eq_false_iff_ne.2 (by omega)
  have c0 := ht.t7
  have hw : IntKind.u64.wrap 2636687329227574412725622285449297920 = 9223372036854775808 := by rw [IntKind.wrap_u64]; rfl
  clear h0 h1 ht
  go_enter Tryd.func20, Tryd.ntmps20
  go_upto_region 3 with fail
  go_wp2
  go_ret
  exact ⟨rfl, by repeat (first | exact Below.refl _ _ | apply pw_below_drewN | apply below_drew)⟩
/-- The lowest bit's place, where it is the highest bit of byte i. -/
theorem tz (i : Nat) (hi : i < 8) (x : Int) (h0 : 0 < x) (h1 : x < 18446744073709551616) (h : Go.bits .and .u64 x (IntKind.u64.wrap (-x)) = ((2 ^ (8 * i + 7) : Nat) : Int)) (w : World) (ht : Tab w) :
    Calls Tryd.prog 20 #[.int .u64 x] w fun e w' => e = .returned (.int .i64 ((8 * i + 7 : Nat) : Int)) ∧ Below w.heap.size w w' := by
  have hc : i = 0 ∨ i = 1 ∨ i = 2 ∨ i = 3 ∨ i = 4 ∨ i = 5 ∨ i = 6 ∨ i = 7 := by omega
  rcases hc with rfl | rfl | rfl | rfl | rfl | rfl | rfl | rfl
  · have e : ((2 ^ (8 * 0 + 7) : Nat) : Int) = 128 := by decide +kernel
    rw [e] at h
    exact tz0 x h0 h1 h w ht
  · have e : ((2 ^ (8 * 1 + 7) : Nat) : Int) = 32768 := by decide +kernel
    rw [e] at h
    exact tz1 x h0 h1 h w ht
  · have e : ((2 ^ (8 * 2 + 7) : Nat) : Int) = 8388608 := by decide +kernel
    rw [e] at h
    exact tz2 x h0 h1 h w ht
  · have e : ((2 ^ (8 * 3 + 7) : Nat) : Int) = 2147483648 := by decide +kernel
    rw [e] at h
    exact tz3 x h0 h1 h w ht
  · have e : ((2 ^ (8 * 4 + 7) : Nat) : Int) = 549755813888 := by decide +kernel
    rw [e] at h
    exact tz4 x h0 h1 h w ht
  · have e : ((2 ^ (8 * 5 + 7) : Nat) : Int) = 140737488355328 := by decide +kernel
    rw [e] at h
    exact tz5 x h0 h1 h w ht
  · have e : ((2 ^ (8 * 6 + 7) : Nat) : Int) = 36028797018963968 := by decide +kernel
    rw [e] at h
    exact tz6 x h0 h1 h w ht
  · have e : ((2 ^ (8 * 7 + 7) : Nat) : Int) = 9223372036854775808 := by decide +kernel
    rw [e] at h
    exact tz7 x h0 h1 h w ht
end Go.Proofs.YtlagcfdojbjmmaaDoor.Esc
