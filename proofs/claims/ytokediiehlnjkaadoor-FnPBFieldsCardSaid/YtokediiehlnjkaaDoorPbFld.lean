/- The making of a field of each kind under a number, by the program's own door; for every number and value. -/
import Derived.Test.YtokediiehlnjkaaDoorPbAll
import Derived.Laws.Externs
namespace Go.Proofs.YtokediiehlnjkaaDoor.Pb
open Go.RowKit Go.Proofs.YtokediiehlnjkaaDoorW.PrintWords Go.Proofs.YtokediiehlnjkaaDoorW.PrintLast Go.Proofs.YtokediiehlnjkaaDoorW.PrintMore Go.Proofs.YtokediiehlnjkaaDoor.PFnPBAppends
set_option linter.unusedVariables false
set_option linter.unusedSimpArgs false
/-- Does the contract of a field's making hold of these words? -/
def Fielded (k f n : Int) (lv : List Int) (out : List Int) : Prop :=
  ∀ (w : World) (Av : Option Addr) (cv : Nat), (Kd.int .u8).C w Av lv.length lv → lv.length ≤ 2147483647 →
    Calls Tryd.prog 10 #[.int .i64 k, .int .u64 f, .int .u64 n, .slice Av lv.length cv] w fun e w' => ∃ v1, e = .returned v1 ∧ (Kd.int .u8).R 5 w' w.heap.size (fun _ => True) v1 out ∧ Below w.heap.size w w'
theorem fielded_at {k f n : Int} {lv out : List Int} (h : Fielded k f n lv out) (w : World) (Av : Option Addr) (cv : Nat) (h1 : (Kd.int .u8).C w Av lv.length lv) (h2 : lv.length ≤ 2147483647) :
    Calls Tryd.prog 10 #[.int .i64 k, .int .u64 f, .int .u64 n, .slice Av lv.length cv] w fun e w' => ∃ v1, e = .returned v1 ∧ (Kd.int .u8).R 5 w' w.heap.size (fun _ => True) v1 out ∧ Below w.heap.size w w' := h w Av cv h1 h2
theorem ext27 (n : Int) (w : World) : Sem.run Tryd.prog (callFunc 27 #[.int .u32 n]) w = .ok (.value (.float .f32 n.toNat)) w := by
  rw [run_callFunc_extern Tryd.func27 (by kernel_rfl) (by kernel_rfl) (by kernel_rfl) (e := Extern.MathFloatBits.float32frombits) (by kernel_rfl)]
  rfl
theorem ext29 (n : Int) (w : World) : Sem.run Tryd.prog (callFunc 29 #[.int .u64 n]) w = .ok (.value (.float .f64 n.toNat)) w := by
  rw [run_callFunc_extern Tryd.func29 (by kernel_rfl) (by kernel_rfl) (by kernel_rfl) (e := Extern.MathFloatBits.float64frombits) (by kernel_rfl)]
  rfl
theorem ext36 (b : Nat) (w : World) : Sem.run Tryd.prog (callFunc 36 #[.float .f32 b]) w = .ok (.value (.int .u32 b)) w := by
  rw [run_callFunc_extern Tryd.func36 (by kernel_rfl) (by kernel_rfl) (by kernel_rfl) (e := Extern.MathFloatBits.float32bits) (by kernel_rfl)]
  rfl
theorem ext37 (b : Nat) (w : World) : Sem.run Tryd.prog (callFunc 37 #[.float .f64 b]) w = .ok (.value (.int .u64 b)) w := by
  rw [run_callFunc_extern Tryd.func37 (by kernel_rfl) (by kernel_rfl) (by kernel_rfl) (e := Extern.MathFloatBits.float64bits) (by kernel_rfl)]
  rfl

set_option maxHeartbeats 8000000 in
set_option maxRecDepth 100000 in
theorem fld0a (f n : Int) (lv : List Int) (j1 : Nat) (hj1 : j1 < 10) (T : Int) (hT : Go.bits .or .u64 (IntKind.u64.wrap (f * 8)) 0 = T) (hT0 : 0 ≤ T) (hT1 : T < 18446744073709551616) (hTv : T < 128 ^ (j1 + 1)) (hTw : j1 = 0 ∨ (128 : Int) ^ j1 ≤ T)
    (j0 : Nat) (hj0 : j0 < 10) (hv0 : 0 ≤ n) (hv1 : n < 18446744073709551616) (hvv : n < 128 ^ (j0 + 1)) (hvw : j0 = 0 ∨ (128 : Int) ^ j0 ≤ n) (hb : n = 0) : Fielded 0 f n lv (vbytes j1 T ++ vbytes j0 n) := by
  intro w Av cv hlv hll
  have HV := Aside0.mk hlv
  have HC := Aside0.mk (fun (W : World) => varint_calls W W.heap.size (.slice none 0 0) [] f n (Nat.le_refl _) (Kd.R_nil _ _ _ _ _) j1 hj1 T hT hT0 hT1 hTv hTw j0 hj0 hv0 hv1 hvv hvw (by decide))
  subst hb
  clear hlv hT hTv hTw hvv hvw
  go_enter Tryd.func10, Tryd.ntmps10
  go_wp2_with (first | (go_at_call 12; (with_reducible refine (HC.out _).mono ?_); rintro e w2 ⟨v2, rfl, ho, hb⟩; have HO2 := Aside0.mk ho; have HB2 := Aside0.mk hb; clear ho hb) | go_in)
  go_ret
  exact ⟨_, rfl, HO2.out, HB2.out⟩

set_option maxHeartbeats 8000000 in
set_option maxRecDepth 100000 in
theorem fld0b (f n : Int) (lv : List Int) (j1 : Nat) (hj1 : j1 < 10) (T : Int) (hT : Go.bits .or .u64 (IntKind.u64.wrap (f * 8)) 0 = T) (hT0 : 0 ≤ T) (hT1 : T < 18446744073709551616) (hTv : T < 128 ^ (j1 + 1)) (hTw : j1 = 0 ∨ (128 : Int) ^ j1 ≤ T)
    (j0 : Nat) (hj0 : j0 < 10) (hv0 : 0 ≤ n) (hv1 : n < 18446744073709551616) (hvv : n < 128 ^ (j0 + 1)) (hvw : j0 = 0 ∨ (128 : Int) ^ j0 ≤ n) (hb : n = 1) : Fielded 0 f n lv (vbytes j1 T ++ vbytes j0 n) := by
  intro w Av cv hlv hll
  have HV := Aside0.mk hlv
  have HC := Aside0.mk (fun (W : World) => varint_calls W W.heap.size (.slice none 0 0) [] f n (Nat.le_refl _) (Kd.R_nil _ _ _ _ _) j1 hj1 T hT hT0 hT1 hTv hTw j0 hj0 hv0 hv1 hvv hvw (by decide))
  subst hb
  clear hlv hT hTv hTw hvv hvw
  go_enter Tryd.func10, Tryd.ntmps10
  go_wp2_with (first | (go_at_call 12; (with_reducible refine (HC.out _).mono ?_); rintro e w2 ⟨v2, rfl, ho, hb⟩; have HO2 := Aside0.mk ho; have HB2 := Aside0.mk hb; clear ho hb) | go_in)
  go_ret
  exact ⟨_, rfl, HO2.out, HB2.out⟩

set_option maxHeartbeats 8000000 in
set_option maxRecDepth 100000 in
theorem fld1 (f n : Int) (lv : List Int) (j1 : Nat) (hj1 : j1 < 10) (T : Int) (hT : Go.bits .or .u64 (IntKind.u64.wrap (f * 8)) 0 = T) (hT0 : 0 ≤ T) (hT1 : T < 18446744073709551616) (hTv : T < 128 ^ (j1 + 1)) (hTw : j1 = 0 ∨ (128 : Int) ^ j1 ≤ T)
    (j0 : Nat) (hj0 : j0 < 10) (hv0 : 0 ≤ n) (hv1 : n < 18446744073709551616) (hvv : n < 128 ^ (j0 + 1)) (hvw : j0 = 0 ∨ (128 : Int) ^ j0 ≤ n) (hyn : IntKind.u64.wrap (wrap64 (wrap32 n)) = n) : Fielded 1 f n lv (vbytes j1 T ++ vbytes j0 n) := by
  intro w Av cv hlv hll
  have HV := Aside0.mk hlv
  have HC := Aside0.mk (fun (W : World) => varint_calls W W.heap.size (.slice none 0 0) [] f (IntKind.u64.wrap (wrap64 (wrap32 n))) (Nat.le_refl _) (Kd.R_nil _ _ _ _ _) j1 hj1 T hT hT0 hT1 hTv hTw j0 hj0 (by rw [hyn]; exact hv0) (by rw [hyn]; exact hv1) (by rw [hyn]; exact hvv) (by rw [hyn]; exact hvw) (by decide))
  have HY := Aside0.mk hyn
  clear hlv hT hTv hTw hvv hvw hyn
  go_enter Tryd.func10, Tryd.ntmps10
  go_wp2_with (first | (go_at_call 12; (with_reducible refine (HC.out _).mono ?_); rintro e w2 ⟨v2, rfl, ho, hb⟩; have HO2 := Aside0.mk ho; have HB2 := Aside0.mk hb; clear ho hb) | go_in)
  go_ret
  have hq := HO2.out
  rw [HY.out] at hq
  exact ⟨_, rfl, hq, HB2.out⟩

set_option maxHeartbeats 8000000 in
set_option maxRecDepth 100000 in
theorem fld2 (f n : Int) (lv : List Int) (j1 : Nat) (hj1 : j1 < 10) (T : Int) (hT : Go.bits .or .u64 (IntKind.u64.wrap (f * 8)) 0 = T) (hT0 : 0 ≤ T) (hT1 : T < 18446744073709551616) (hTv : T < 128 ^ (j1 + 1)) (hTw : j1 = 0 ∨ (128 : Int) ^ j1 ≤ T)
    (j0 : Nat) (hj0 : j0 < 10) (hv0 : 0 ≤ n) (hv1 : n < 18446744073709551616) (hvv : n < 128 ^ (j0 + 1)) (hvw : j0 = 0 ∨ (128 : Int) ^ j0 ≤ n) (hyn : IntKind.u64.wrap (wrap64 n) = n) : Fielded 2 f n lv (vbytes j1 T ++ vbytes j0 n) := by
  intro w Av cv hlv hll
  have HV := Aside0.mk hlv
  have HC := Aside0.mk (fun (W : World) => varint_calls W W.heap.size (.slice none 0 0) [] f (IntKind.u64.wrap (wrap64 n)) (Nat.le_refl _) (Kd.R_nil _ _ _ _ _) j1 hj1 T hT hT0 hT1 hTv hTw j0 hj0 (by rw [hyn]; exact hv0) (by rw [hyn]; exact hv1) (by rw [hyn]; exact hvv) (by rw [hyn]; exact hvw) (by decide))
  have HY := Aside0.mk hyn
  clear hlv hT hTv hTw hvv hvw hyn
  go_enter Tryd.func10, Tryd.ntmps10
  go_wp2_with (first | (go_at_call 12; (with_reducible refine (HC.out _).mono ?_); rintro e w2 ⟨v2, rfl, ho, hb⟩; have HO2 := Aside0.mk ho; have HB2 := Aside0.mk hb; clear ho hb) | go_in)
  go_ret
  have hq := HO2.out
  rw [HY.out] at hq
  exact ⟨_, rfl, hq, HB2.out⟩

set_option maxHeartbeats 8000000 in
set_option maxRecDepth 100000 in
theorem fld3 (f n : Int) (lv : List Int) (j1 : Nat) (hj1 : j1 < 10) (T : Int) (hT : Go.bits .or .u64 (IntKind.u64.wrap (f * 8)) 0 = T) (hT0 : 0 ≤ T) (hT1 : T < 18446744073709551616) (hTv : T < 128 ^ (j1 + 1)) (hTw : j1 = 0 ∨ (128 : Int) ^ j1 ≤ T)
    (j0 : Nat) (hj0 : j0 < 10) (hv0 : 0 ≤ n) (hv1 : n < 18446744073709551616) (hvv : n < 128 ^ (j0 + 1)) (hvw : j0 = 0 ∨ (128 : Int) ^ j0 ≤ n) (hyn : IntKind.u64.wrap (wrap64 n) = n) : Fielded 3 f n lv (vbytes j1 T ++ vbytes j0 n) := by
  intro w Av cv hlv hll
  have HV := Aside0.mk hlv
  have HC := Aside0.mk (fun (W : World) => varint_calls W W.heap.size (.slice none 0 0) [] f (IntKind.u64.wrap (wrap64 n)) (Nat.le_refl _) (Kd.R_nil _ _ _ _ _) j1 hj1 T hT hT0 hT1 hTv hTw j0 hj0 (by rw [hyn]; exact hv0) (by rw [hyn]; exact hv1) (by rw [hyn]; exact hvv) (by rw [hyn]; exact hvw) (by decide))
  have HY := Aside0.mk hyn
  clear hlv hT hTv hTw hvv hvw hyn
  go_enter Tryd.func10, Tryd.ntmps10
  go_wp2_with (first | (go_at_call 12; (with_reducible refine (HC.out _).mono ?_); rintro e w2 ⟨v2, rfl, ho, hb⟩; have HO2 := Aside0.mk ho; have HB2 := Aside0.mk hb; clear ho hb) | go_in)
  go_ret
  have hq := HO2.out
  rw [HY.out] at hq
  exact ⟨_, rfl, hq, HB2.out⟩

set_option maxHeartbeats 8000000 in
set_option maxRecDepth 100000 in
theorem fld4 (f n : Int) (lv : List Int) (j1 : Nat) (hj1 : j1 < 10) (T : Int) (hT : Go.bits .or .u64 (IntKind.u64.wrap (f * 8)) 0 = T) (hT0 : 0 ≤ T) (hT1 : T < 18446744073709551616) (hTv : T < 128 ^ (j1 + 1)) (hTw : j1 = 0 ∨ (128 : Int) ^ j1 ≤ T)
    (j0 : Nat) (hj0 : j0 < 10) (hv0 : 0 ≤ n) (hv1 : n < 18446744073709551616) (hvv : n < 128 ^ (j0 + 1)) (hvw : j0 = 0 ∨ (128 : Int) ^ j0 ≤ n) (hn : n < 4294967296) : Fielded 4 f n lv (vbytes j1 T ++ vbytes j0 n) := by
  intro w Av cv hlv hll
  have HV := Aside0.mk hlv
  have HC := Aside0.mk (fun (W : World) => varint_calls W W.heap.size (.slice none 0 0) [] f n (Nat.le_refl _) (Kd.R_nil _ _ _ _ _) j1 hj1 T hT hT0 hT1 hTv hTw j0 hj0 hv0 hv1 hvv hvw (by decide))
  clear hlv hT hTv hTw hvv hvw
  go_enter Tryd.func10, Tryd.ntmps10
  go_wp2_with (first | (go_at_call 12; (with_reducible refine (HC.out _).mono ?_); rintro e w2 ⟨v2, rfl, ho, hb⟩; have HO2 := Aside0.mk ho; have HB2 := Aside0.mk hb; clear ho hb) | go_in)
  go_ret
  exact ⟨_, rfl, HO2.out, HB2.out⟩

set_option maxHeartbeats 8000000 in
set_option maxRecDepth 100000 in
theorem fld5 (f n : Int) (lv : List Int) (j1 : Nat) (hj1 : j1 < 10) (T : Int) (hT : Go.bits .or .u64 (IntKind.u64.wrap (f * 8)) 0 = T) (hT0 : 0 ≤ T) (hT1 : T < 18446744073709551616) (hTv : T < 128 ^ (j1 + 1)) (hTw : j1 = 0 ∨ (128 : Int) ^ j1 ≤ T)
    (j0 : Nat) (hj0 : j0 < 10) (hv0 : 0 ≤ n) (hv1 : n < 18446744073709551616) (hvv : n < 128 ^ (j0 + 1)) (hvw : j0 = 0 ∨ (128 : Int) ^ j0 ≤ n) : Fielded 5 f n lv (vbytes j1 T ++ vbytes j0 n) := by
  intro w Av cv hlv hll
  have HV := Aside0.mk hlv
  have HC := Aside0.mk (fun (W : World) => varint_calls W W.heap.size (.slice none 0 0) [] f n (Nat.le_refl _) (Kd.R_nil _ _ _ _ _) j1 hj1 T hT hT0 hT1 hTv hTw j0 hj0 hv0 hv1 hvv hvw (by decide))
  clear hlv hT hTv hTw hvv hvw
  go_enter Tryd.func10, Tryd.ntmps10
  go_wp2_with (first | (go_at_call 12; (with_reducible refine (HC.out _).mono ?_); rintro e w2 ⟨v2, rfl, ho, hb⟩; have HO2 := Aside0.mk ho; have HB2 := Aside0.mk hb; clear ho hb) | go_in)
  go_ret
  exact ⟨_, rfl, HO2.out, HB2.out⟩

set_option maxHeartbeats 8000000 in
set_option maxRecDepth 100000 in
theorem fld6 (f n : Int) (lv : List Int) (j1 : Nat) (hj1 : j1 < 10) (T : Int) (hT : Go.bits .or .u64 (IntKind.u64.wrap (f * 8)) 0 = T) (hT0 : 0 ≤ T) (hT1 : T < 18446744073709551616) (hTv : T < 128 ^ (j1 + 1)) (hTw : j1 = 0 ∨ (128 : Int) ^ j1 ≤ T)
    (j0 : Nat) (hj0 : j0 < 10) (hv0 : 0 ≤ n) (hv1 : n < 18446744073709551616) (hvv : n < 128 ^ (j0 + 1)) (hvw : j0 = 0 ∨ (128 : Int) ^ j0 ≤ n) : Fielded 6 f n lv (vbytes j1 T ++ vbytes j0 n) := by
  intro w Av cv hlv hll
  have HV := Aside0.mk hlv
  have HC := Aside0.mk (fun (W : World) => varint_calls W W.heap.size (.slice none 0 0) [] f n (Nat.le_refl _) (Kd.R_nil _ _ _ _ _) j1 hj1 T hT hT0 hT1 hTv hTw j0 hj0 hv0 hv1 hvv hvw (by decide))
  clear hlv hT hTv hTw hvv hvw
  go_enter Tryd.func10, Tryd.ntmps10
  go_wp2_with (first | (go_at_call 12; (with_reducible refine (HC.out _).mono ?_); rintro e w2 ⟨v2, rfl, ho, hb⟩; have HO2 := Aside0.mk ho; have HB2 := Aside0.mk hb; clear ho hb) | go_in)
  go_ret
  exact ⟨_, rfl, HO2.out, HB2.out⟩

set_option maxHeartbeats 8000000 in
set_option maxRecDepth 100000 in
theorem fld7 (f n : Int) (lv : List Int) (j1 : Nat) (hj1 : j1 < 10) (T : Int) (hT : Go.bits .or .u64 (IntKind.u64.wrap (f * 8)) 5 = T) (hT0 : 0 ≤ T) (hT1 : T < 18446744073709551616) (hTv : T < 128 ^ (j1 + 1)) (hTw : j1 = 0 ∨ (128 : Int) ^ j1 ≤ T)
    (hn0 : 0 ≤ n) (hn1 : n < 4294967296) : Fielded 7 f n lv (vbytes j1 T ++ lowbytes 4 n) := by
  intro w Av cv hlv hll
  have HV := Aside0.mk hlv
  have HC := Aside0.mk (fun (W : World) => fixed32_calls W W.heap.size (.slice none 0 0) [] f n (Nat.le_refl _) (Kd.R_nil _ _ _ _ _) j1 hj1 T hT hT0 hT1 hTv hTw hn0 hn1 (by decide))
  clear hlv hT hTv hTw
  go_enter Tryd.func10, Tryd.ntmps10
  go_wp2_with (first | (go_at_call 15; (with_reducible refine (HC.out _).mono ?_); rintro e w2 ⟨v2, rfl, ho, hb⟩; have HO2 := Aside0.mk ho; have HB2 := Aside0.mk hb; clear ho hb) | go_in)
  go_ret
  exact ⟨_, rfl, HO2.out, HB2.out⟩

set_option maxHeartbeats 8000000 in
set_option maxRecDepth 100000 in
theorem fld8 (f n : Int) (lv : List Int) (j1 : Nat) (hj1 : j1 < 10) (T : Int) (hT : Go.bits .or .u64 (IntKind.u64.wrap (f * 8)) 1 = T) (hT0 : 0 ≤ T) (hT1 : T < 18446744073709551616) (hTv : T < 128 ^ (j1 + 1)) (hTw : j1 = 0 ∨ (128 : Int) ^ j1 ≤ T)
    (hn0 : 0 ≤ n) (hn1 : n < 18446744073709551616) : Fielded 8 f n lv (vbytes j1 T ++ lowbytes 8 n) := by
  intro w Av cv hlv hll
  have HV := Aside0.mk hlv
  have HC := Aside0.mk (fun (W : World) => fixed64_calls W W.heap.size (.slice none 0 0) [] f n (Nat.le_refl _) (Kd.R_nil _ _ _ _ _) j1 hj1 T hT hT0 hT1 hTv hTw hn0 hn1 (by decide))
  clear hlv hT hTv hTw
  go_enter Tryd.func10, Tryd.ntmps10
  go_wp2_with (first | (go_at_call 13; (with_reducible refine (HC.out _).mono ?_); rintro e w2 ⟨v2, rfl, ho, hb⟩; have HO2 := Aside0.mk ho; have HB2 := Aside0.mk hb; clear ho hb) | go_in)
  go_ret
  exact ⟨_, rfl, HO2.out, HB2.out⟩

set_option maxHeartbeats 8000000 in
set_option maxRecDepth 100000 in
theorem fld9 (f n : Int) (lv : List Int) (j1 : Nat) (hj1 : j1 < 10) (T : Int) (hT : Go.bits .or .u64 (IntKind.u64.wrap (f * 8)) 5 = T) (hT0 : 0 ≤ T) (hT1 : T < 18446744073709551616) (hTv : T < 128 ^ (j1 + 1)) (hTw : j1 = 0 ∨ (128 : Int) ^ j1 ≤ T)
    (hn0 : 0 ≤ n) (hn1 : n < 4294967296) (e27 : ∀ w, Sem.run Tryd.prog (callFunc 27 #[.int .u32 n]) w = .ok (.value (.float .f32 n.toNat)) w) (e36 : ∀ w, Sem.run Tryd.prog (callFunc 36 #[.float .f32 n.toNat]) w = .ok (.value (.int .u32 n)) w) : Fielded 9 f n lv (vbytes j1 T ++ lowbytes 4 n) := by
  intro w Av cv hlv hll
  have HV := Aside0.mk hlv
  have HC := Aside0.mk (fun (W : World) => fixed32_calls W W.heap.size (.slice none 0 0) [] f n (Nat.le_refl _) (Kd.R_nil _ _ _ _ _) j1 hj1 T hT hT0 hT1 hTv hTw hn0 hn1 (by decide))
  clear hlv hT hTv hTw
  go_enter Tryd.func10, Tryd.ntmps10
  go_wp2_with (first | (go_at_call 15; (with_reducible refine (HC.out _).mono ?_); rintro e w2 ⟨v2, rfl, ho, hb⟩; have HO2 := Aside0.mk ho; have HB2 := Aside0.mk hb; clear ho hb) | go_in)
  go_ret
  exact ⟨_, rfl, HO2.out, HB2.out⟩

set_option maxHeartbeats 8000000 in
set_option maxRecDepth 100000 in
theorem fld10 (f n : Int) (lv : List Int) (j1 : Nat) (hj1 : j1 < 10) (T : Int) (hT : Go.bits .or .u64 (IntKind.u64.wrap (f * 8)) 1 = T) (hT0 : 0 ≤ T) (hT1 : T < 18446744073709551616) (hTv : T < 128 ^ (j1 + 1)) (hTw : j1 = 0 ∨ (128 : Int) ^ j1 ≤ T)
    (hn0 : 0 ≤ n) (hn1 : n < 18446744073709551616) (e29 : ∀ w, Sem.run Tryd.prog (callFunc 29 #[.int .u64 n]) w = .ok (.value (.float .f64 n.toNat)) w) (e37 : ∀ w, Sem.run Tryd.prog (callFunc 37 #[.float .f64 n.toNat]) w = .ok (.value (.int .u64 n)) w) : Fielded 10 f n lv (vbytes j1 T ++ lowbytes 8 n) := by
  intro w Av cv hlv hll
  have HV := Aside0.mk hlv
  have HC := Aside0.mk (fun (W : World) => fixed64_calls W W.heap.size (.slice none 0 0) [] f n (Nat.le_refl _) (Kd.R_nil _ _ _ _ _) j1 hj1 T hT hT0 hT1 hTv hTw hn0 hn1 (by decide))
  clear hlv hT hTv hTw
  go_enter Tryd.func10, Tryd.ntmps10
  go_wp2_with (first | (go_at_call 13; (with_reducible refine (HC.out _).mono ?_); rintro e w2 ⟨v2, rfl, ho, hb⟩; have HO2 := Aside0.mk ho; have HB2 := Aside0.mk hb; clear ho hb) | go_in)
  go_ret
  exact ⟨_, rfl, HO2.out, HB2.out⟩

set_option maxHeartbeats 8000000 in
set_option maxRecDepth 100000 in
theorem fld12 (f n : Int) (lv : List Int) (j1 : Nat) (hj1 : j1 < 10) (T : Int) (hT : Go.bits .or .u64 (IntKind.u64.wrap (f * 8)) 2 = T) (hT0 : 0 ≤ T) (hT1 : T < 18446744073709551616) (hTv : T < 128 ^ (j1 + 1)) (hTw : j1 = 0 ∨ (128 : Int) ^ j1 ≤ T)
    (j2 : Nat) (hj2 : j2 < 10) (hUv : (lv.length : Int) < 128 ^ (j2 + 1)) (hUw : j2 = 0 ∨ (128 : Int) ^ j2 ≤ (lv.length : Int)) : Fielded 12 f n lv ((vbytes j1 T ++ vbytes j2 lv.length) ++ lv) := by
  intro w Av cv hlv hll
  have HV := Aside0.mk hlv
  have HC := Aside0.mk (fun (W : World) (hW : (Kd.int .u8).C W Av lv.length lv) => varlen_calls W W.heap.size (.slice none 0 0) [] lv f Av cv (Nat.le_refl _) (Kd.R_nil _ _ _ _ _) (Kd.F_mono (Kd.C_F (Kd.heap_int .u8) hW) (fun k _ => by simp [Value.ownBlock])) j1 hj1 T hT hT0 hT1 hTv hTw j2 hj2 hUv hUw (by simp; omega))
  clear hlv hT hTv hTw hUv hUw
  go_enter Tryd.func10, Tryd.ntmps10
  go_wp2_with (first | (go_at_call 14; (with_reducible refine (HC.out _ HV.out).mono ?_); rintro e w2 ⟨v2, rfl, ho, hb⟩; have HO2 := Aside0.mk ho; have HB2 := Aside0.mk hb; clear ho hb) | go_in)
  go_ret
  exact ⟨_, rfl, HO2.out, HB2.out⟩

theorem bytesOf_str {L : List Int} (h : ∀ x ∈ L, 0 ≤ x ∧ x ≤ 255) : bytesOf (strOfNums L) = L := by
  unfold bytesOf
  rw [strOfNums_data, List.map_map]
  conv => rhs; rw [← List.map_id L]
  apply List.map_congr_left
  intro x hx
  have := h x hx
  simp only [Function.comp_apply, id]
  simp
  omega

set_option maxHeartbeats 8000000 in
set_option maxRecDepth 100000 in
theorem fld11 (f n : Int) (lv : List Int) (j2 : Nat) (hj2 : j2 < 10) (hUv : (lv.length : Int) < 128 ^ (j2 + 1)) (hUw : j2 = 0 ∨ (128 : Int) ^ j2 ≤ (lv.length : Int)) (hok : ∀ x ∈ lv, 0 ≤ x ∧ x ≤ 255)
    (j1 : Nat) (hj1 : j1 < 10) (T : Int) (hT : Go.bits .or .u64 (IntKind.u64.wrap (f * 8)) 2 = T) (hT0 : 0 ≤ T) (hT1 : T < 18446744073709551616) (hTv : T < 128 ^ (j1 + 1)) (hTw : j1 = 0 ∨ (128 : Int) ^ j1 ≤ T) : Fielded 11 f n lv ((vbytes j1 T ++ vbytes j2 lv.length) ++ lv) := by
  intro w Av cv hlv hll
  have hbs := bytesOf_str hok
  have hsz : (strOfNums lv).size = lv.length := strOfNums_size lv
  have ks : Sem.run Tryd.prog (convert 22 9 (.slice Av lv.length cv)) w = .ok (.string (strOfNums lv)) w := Kd.C_string Tryd.underlying22 Tryd.underlying5 Tryd.underlying9 hlv
  have kb := print_bytes (P := Tryd.prog) 9 22 5 Tryd.underlying9 Tryd.underlying22 Tryd.underlying5 (strOfNums lv) w
  rw [hsz] at kb
  have hrd := bytes_reads w 5 (strOfNums lv) (by omega)
  rw [hbs, hsz] at hrd
  have HB := Aside0.mk (bytes_below (Below.refl w.heap.size w) (Nat.le_refl _) 5 (strOfNums lv))
  generalize strOfNums lv = S at *
  obtain ⟨W, hW⟩ : ∃ W, W = Lib.bytesWorld w 5 S := ⟨_, rfl⟩
  rw [← hW] at kb hrd HB
  obtain ⟨C, hC⟩ : ∃ C, C = grownCap w lv.length 0 5 := ⟨_, rfl⟩
  rw [← hC] at kb
  have hrC : (Kd.int .u8).C W (some ⟨w.heap.size, 0, none⟩) lv.length lv := Kd.C_of_reads (d := 0) hrd
  have HC := Aside0.mk (varlen_calls W w.heap.size (.slice none 0 0) [] lv f (some ⟨w.heap.size, 0, none⟩) C HB.out.size (Kd.R_nil _ _ _ _ _) (Kd.F_mono (Kd.C_F (Kd.heap_int .u8) hrC) (fun k _ => by simp [Value.ownBlock])) j1 hj1 T hT hT0 hT1 hTv hTw j2 hj2 hUv hUw (by simp; omega))
  clear hlv hT hTv hTw hUv hUw hbs hsz hrd hW hC hrC hok
  go_enter Tryd.func10, Tryd.ntmps10
  go_wp2_with (first | (go_at_call 14; (with_reducible refine HC.out.mono ?_); rintro e w2 ⟨v2, rfl, ho, hb⟩; have HO2 := Aside0.mk ho; have HB2 := Aside0.mk (HB.out.trans hb); clear ho hb) | go_in)
  go_ret
  exact ⟨_, rfl, HO2.out, HB2.out⟩
end Go.Proofs.YtokediiehlnjkaaDoor.Pb
