/- The appending of a field of each kind to a message, by the program's own door; for every number, value and message. -/
import Derived.Test.YtokediiehlnjkaaDoorPbKinds
namespace Go.Proofs.YtokediiehlnjkaaDoor.Pb
open Go.RowKit Go.Proofs.YtokediiehlnjkaaDoorW.PrintWords Go.Proofs.YtokediiehlnjkaaDoorW.PrintLast Go.Proofs.YtokediiehlnjkaaDoorW.PrintMore Go.Proofs.YtokediiehlnjkaaDoor.PFnPBAppends
set_option linter.unusedVariables false
set_option linter.unusedSimpArgs false
/-- Does the contract of the appending hold of these words? -/
def Appended (op f n : Int) (lv : List Int) (out : List Int) : Prop :=
  ∀ (w : World) (A : Option Addr) (c : Nat) (ms : List Int) (Av : Option Addr) (cv : Nat), (Kd.int .u8).C w A ms.length ms → (Kd.int .u8).C w Av lv.length lv → ms.length < 3000000000 →
    Calls Tryd.prog 6 #[.int .i64 op, .slice A ms.length c, .int .u64 f, .int .u64 n, .slice Av lv.length cv] w fun e w' => ∃ v1, e = .returned v1 ∧ (Kd.int .u8).R 5 w' w.heap.size (fun _ => True) v1 (ms ++ out) ∧ Below w.heap.size w w'
theorem C_away {w W : World} {A : Option Addr} {n : Nat} {xs ys : List Int} {v : Value} (h : (Kd.int .u8).C w A n xs) (hb : Below w.heap.size w W) (ho : (Kd.int .u8).R 5 W w.heap.size (fun _ => True) v ys) : Kd.F (Kd.int .u8) W (fun k => some k ≠ v.ownBlock) A n xs :=
  Kd.F_mono (Kd.F_below (Kd.C_F (Kd.heap_int .u8) h) hb) (fun k hk he => by have := Kd.R_base ho k he.symm; omega)

set_option maxHeartbeats 8000000 in
set_option maxRecDepth 100000 in
theorem app0 (f n : Int) (lv : List Int) (j1 : Nat) (hj1 : j1 < 10) (T : Int) (hT : Go.bits .or .u64 (IntKind.u64.wrap (f * 8)) 0 = T) (hT0 : 0 ≤ T) (hT1 : T < 18446744073709551616) (hTv : T < 128 ^ (j1 + 1)) (hTw : j1 = 0 ∨ (128 : Int) ^ j1 ≤ T)
    (j0 : Nat) (hj0 : j0 < 10) (hv0 : 0 ≤ n) (hv1 : n < 18446744073709551616) (hvv : n < 128 ^ (j0 + 1)) (hvw : j0 = 0 ∨ (128 : Int) ^ j0 ≤ n) : Appended 0 f n lv (vbytes j1 T ++ vbytes j0 n) := by
  intro w A c ms Av cv hms hlv hml
  have HM := Aside0.mk hms
  have HV := Aside0.mk hlv
  have HC := Aside0.mk (fun (W : World) (v : Value) (h1 : w.heap.size ≤ W.heap.size) (h2 : (Kd.int .u8).R 5 W w.heap.size (fun _ => True) v ms) (h3 : Kd.F (Kd.int .u8) W (fun k => some k ≠ v.ownBlock) Av lv.length lv) => varint_calls W w.heap.size v ms f n h1 h2 j1 hj1 T hT hT0 hT1 hTv hTw j0 hj0 hv0 hv1 hvv hvw (by omega))
  clear hms hlv hT hTv hTw hvv hvw
  go_enter Tryd.func6, Tryd.ntmps6
  go_wp2_with (first | (go_at_call 11; (with_reducible refine (cloned_calls w w.heap.size ms A c (Nat.le_refl _) HM.out (Nat.lt_trans hml (by decide))).mono ?_); rintro e w1 ⟨v1, rfl, ho, hb⟩; have HO := Aside0.mk ho; have HB := Aside0.mk hb; have HF := Aside0.mk (C_away HV.out hb ho); have HC2 := Aside0.mk (HC.out w1 v1 hb.size ho HF.out); clear ho hb) | (go_at_call 12; (with_reducible refine HC2.out.mono ?_); rintro e w2 ⟨v2, rfl, ho, hb⟩; have HO2 := Aside0.mk ho; have HB2 := Aside0.mk (HB.out.trans hb); clear ho hb))
  go_ret
  refine ⟨_, rfl, ?_, HB2.out⟩
  rw [← List.append_assoc]
  exact HO2.out

set_option maxHeartbeats 8000000 in
set_option maxRecDepth 100000 in
theorem app1 (f n : Int) (lv : List Int) (j1 : Nat) (hj1 : j1 < 10) (T : Int) (hT : Go.bits .or .u64 (IntKind.u64.wrap (f * 8)) 1 = T) (hT0 : 0 ≤ T) (hT1 : T < 18446744073709551616) (hTv : T < 128 ^ (j1 + 1)) (hTw : j1 = 0 ∨ (128 : Int) ^ j1 ≤ T)
    (hv0 : 0 ≤ n) (hv1 : n < 18446744073709551616) : Appended 1 f n lv (vbytes j1 T ++ lowbytes 8 n) := by
  intro w A c ms Av cv hms hlv hml
  have HM := Aside0.mk hms
  have HV := Aside0.mk hlv
  have HC := Aside0.mk (fun (W : World) (v : Value) (h1 : w.heap.size ≤ W.heap.size) (h2 : (Kd.int .u8).R 5 W w.heap.size (fun _ => True) v ms) (h3 : Kd.F (Kd.int .u8) W (fun k => some k ≠ v.ownBlock) Av lv.length lv) => fixed64_calls W w.heap.size v ms f n h1 h2 j1 hj1 T hT hT0 hT1 hTv hTw hv0 hv1 (by omega))
  clear hms hlv hT hTv hTw
  go_enter Tryd.func6, Tryd.ntmps6
  go_wp2_with (first | (go_at_call 11; (with_reducible refine (cloned_calls w w.heap.size ms A c (Nat.le_refl _) HM.out (Nat.lt_trans hml (by decide))).mono ?_); rintro e w1 ⟨v1, rfl, ho, hb⟩; have HO := Aside0.mk ho; have HB := Aside0.mk hb; have HF := Aside0.mk (C_away HV.out hb ho); have HC2 := Aside0.mk (HC.out w1 v1 hb.size ho HF.out); clear ho hb) | (go_at_call 13; (with_reducible refine HC2.out.mono ?_); rintro e w2 ⟨v2, rfl, ho, hb⟩; have HO2 := Aside0.mk ho; have HB2 := Aside0.mk (HB.out.trans hb); clear ho hb))
  go_ret
  refine ⟨_, rfl, ?_, HB2.out⟩
  rw [← List.append_assoc]
  exact HO2.out

set_option maxHeartbeats 8000000 in
set_option maxRecDepth 100000 in
theorem app2 (f n : Int) (lv : List Int) (j1 : Nat) (hj1 : j1 < 10) (T : Int) (hT : Go.bits .or .u64 (IntKind.u64.wrap (f * 8)) 2 = T) (hT0 : 0 ≤ T) (hT1 : T < 18446744073709551616) (hTv : T < 128 ^ (j1 + 1)) (hTw : j1 = 0 ∨ (128 : Int) ^ j1 ≤ T)
    (j2 : Nat) (hj2 : j2 < 10) (hUv : (lv.length : Int) < 128 ^ (j2 + 1)) (hUw : j2 = 0 ∨ (128 : Int) ^ j2 ≤ (lv.length : Int)) (hll : lv.length < 3000000000) : Appended 2 f n lv ((vbytes j1 T ++ vbytes j2 lv.length) ++ lv) := by
  intro w A c ms Av cv hms hlv hml
  have HM := Aside0.mk hms
  have HV := Aside0.mk hlv
  have HC := Aside0.mk (fun (W : World) (v : Value) (h1 : w.heap.size ≤ W.heap.size) (h2 : (Kd.int .u8).R 5 W w.heap.size (fun _ => True) v ms) (h3 : Kd.F (Kd.int .u8) W (fun k => some k ≠ v.ownBlock) Av lv.length lv) => varlen_calls W w.heap.size v ms lv f Av cv h1 h2 h3 j1 hj1 T hT hT0 hT1 hTv hTw j2 hj2 hUv hUw (by omega))
  clear hms hlv hT hTv hTw hUv hUw
  go_enter Tryd.func6, Tryd.ntmps6
  go_wp2_with (first | (go_at_call 11; (with_reducible refine (cloned_calls w w.heap.size ms A c (Nat.le_refl _) HM.out (Nat.lt_trans hml (by decide))).mono ?_); rintro e w1 ⟨v1, rfl, ho, hb⟩; have HO := Aside0.mk ho; have HB := Aside0.mk hb; have HF := Aside0.mk (C_away HV.out hb ho); have HC2 := Aside0.mk (HC.out w1 v1 hb.size ho HF.out); clear ho hb) | (go_at_call 14; (with_reducible refine HC2.out.mono ?_); rintro e w2 ⟨v2, rfl, ho, hb⟩; have HO2 := Aside0.mk ho; have HB2 := Aside0.mk (HB.out.trans hb); clear ho hb))
  go_ret
  refine ⟨_, rfl, ?_, HB2.out⟩
  rw [← List.append_assoc]
  exact HO2.out

set_option maxHeartbeats 8000000 in
set_option maxRecDepth 100000 in
theorem app5 (f n : Int) (lv : List Int) (j1 : Nat) (hj1 : j1 < 10) (T : Int) (hT : Go.bits .or .u64 (IntKind.u64.wrap (f * 8)) 5 = T) (hT0 : 0 ≤ T) (hT1 : T < 18446744073709551616) (hTv : T < 128 ^ (j1 + 1)) (hTw : j1 = 0 ∨ (128 : Int) ^ j1 ≤ T)
    (hv0 : 0 ≤ n) (hv1 : n < 18446744073709551616) : Appended 5 f n lv (vbytes j1 T ++ lowbytes 4 n) := by
  intro w A c ms Av cv hms hlv hml
  have HM := Aside0.mk hms
  have HV := Aside0.mk hlv
  have HC := Aside0.mk (fun (W : World) (v : Value) (h1 : w.heap.size ≤ W.heap.size) (h2 : (Kd.int .u8).R 5 W w.heap.size (fun _ => True) v ms) (h3 : Kd.F (Kd.int .u8) W (fun k => some k ≠ v.ownBlock) Av lv.length lv) => fixed32_calls W w.heap.size v ms f (n % 4294967296) h1 h2 j1 hj1 T hT hT0 hT1 hTv hTw (by omega) (by omega) (by omega))
  clear hms hlv hT hTv hTw
  go_enter Tryd.func6, Tryd.ntmps6
  go_wp2_with (first | (go_at_call 11; (with_reducible refine (cloned_calls w w.heap.size ms A c (Nat.le_refl _) HM.out (Nat.lt_trans hml (by decide))).mono ?_); rintro e w1 ⟨v1, rfl, ho, hb⟩; have HO := Aside0.mk ho; have HB := Aside0.mk hb; have HF := Aside0.mk (C_away HV.out hb ho); have HC2 := Aside0.mk (HC.out w1 v1 hb.size ho HF.out); clear ho hb) | (go_at_call 15; (with_reducible refine HC2.out.mono ?_); rintro e w2 ⟨v2, rfl, ho, hb⟩; have HO2 := Aside0.mk ho; have HB2 := Aside0.mk (HB.out.trans hb); clear ho hb))
  go_ret
  refine ⟨_, rfl, ?_, HB2.out⟩
  rw [← List.append_assoc]
  have e : lowbytes 4 (n % 4294967296) = lowbytes 4 n := by
    simp only [lowbytes]
    rw [show n % 4294967296 % 256 = n % 256 by omega, show n % 4294967296 / 256 % 256 = n / 256 % 256 by omega, show n % 4294967296 / 256 / 256 % 256 = n / 256 / 256 % 256 by omega, show n % 4294967296 / 256 / 256 / 256 % 256 = n / 256 / 256 / 256 % 256 by omega]
  rw [← e]
  exact HO2.out
end Go.Proofs.YtokediiehlnjkaaDoor.Pb
