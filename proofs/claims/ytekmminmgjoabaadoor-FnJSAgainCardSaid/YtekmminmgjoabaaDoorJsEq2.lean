/- Two rows of tokens are the same; or the same but for what stands behind them. -/
import Derived.Test.YtekmminmgjoabaaDoorRw
namespace Go.Proofs.YtekmminmgjoabaaDoor.Js
open Go.RowKit Go.Proofs.YtekmminmgjoabaaDoorW.PrintWords Go.Proofs.YtekmminmgjoabaaDoorW.PrintLast Go.Proofs.YtekmminmgjoabaaDoorW.PrintMore Go.Proofs.YtekmminmgjoabaaDoor.PFnJSTokens
set_option linter.unusedVariables false
set_option linter.unusedSimpArgs false
set_option maxHeartbeats 4000000 in
set_option maxRecDepth 100000 in
theorem same0_calls (f0 f2 f3 f5 f6 b : Int) (f1 : ByteArray) (f4 : Bool) (w : World) : Calls Tryd.prog 23 #[.agg #[.int .u8 f0, .string f1, .int .i64 f2, .int .i64 f3, .bool f4, .int .i64 f5, .int .i64 f6], .agg #[.int .u8 f0, .string f1, .int .i64 f2, .int .i64 f3, .bool f4, .int .i64 b, .int .i64 f6]] w fun e w' => e = .returned (.bool true) ∧ Below w.heap.size w w' := by
  go_enter Tryd.func23, Tryd.ntmps23
  go_wp2
  go_returns
  refine ⟨by simp, ?_⟩
  go_grown
set_option maxHeartbeats 4000000 in
set_option maxRecDepth 100000 in
theorem eqz_calls (w : World) (base base' : Nat) (v v' : Value) (xs ys : List S37) (h : k37.R 37 w base (fun _ => True) v xs) (h' : k37.R 37 w base' (fun _ => True) v' ys) (hlen : ys.length = xs.length) (hxy : ∀ (j : Nat) (x : S37), xs[j]? = some x → ∃ b : Int, ys[j]? = some (⟨x.f0, x.f1, x.f2, x.f3, x.f4, b, x.f6⟩ : S37)) (hl : xs.length ≤ 2200000000) :
    Calls Tryd.prog 22 #[v, v', .func (.func 23) #[] #[]] w fun e w' => e = .returned (.bool true) ∧ Below w.heap.size w w' := by
  obtain ⟨A, c, rfl, -⟩ := row37 h
  obtain ⟨A', c', rfl, -⟩ := row37 h'
  have HR := Aside0.mk h
  have HR' := Aside0.mk h'
  have HXY := Aside0.mk hxy
  obtain ⟨m, hm⟩ : ∃ m, m = xs.length := ⟨_, rfl⟩
  rw [hlen] at HR' ⊢
  rw [← hm] at hl HR HR' ⊢
  have HM := Aside0.mk hm
  clear h h' hm hxy hlen
  go_enter Tryd.func22, Tryd.ntmps22
  go_upto_region 4 with (fail)
  go_loopg [17] m (fun k v17 w' => ∃ j : Nat, v17 = .int .i64 (j : Int) ∧ Aside0 (j + k = m) ∧ Aside0 (Below w.heap.size w w'))
  case atStart => exact ⟨0, rfl, ⟨by omega⟩, ⟨Below.refl _ _⟩⟩
  case round =>
    obtain ⟨j, rfl, HJ, HB⟩ := hrel
    cases gk with
    | zero =>
      obtain rfl : j = m := by have := HJ.out; omega
      have dlt : decide (j < j) = false := by simp
      go_wp2_with fail
      go_returns
      exact ⟨rfl, HB.out⟩
    | succ k1 =>
      have hjm : j < m := by have := HJ.out; omega
      have dlt : decide (j < m) = true := by simpa using hjm
      obtain ⟨x, hx⟩ : ∃ x, xs[j]? = some x := ⟨_, List.getElem?_eq_getElem (by rw [← HM.out]; exact hjm)⟩
      obtain ⟨b, hy⟩ := HXY.out j x hx
      obtain ⟨B1, d1, e1, hc1⟩ := row37 (Kd.R_below HR.out HB.out)
      obtain ⟨B2, d2, e2, hc2⟩ := row37 (Kd.R_below HR'.out HB.out)
      injection e1 with e1 z1 z2
      injection e2 with e2 z3 z4
      clear z1 z2 z3 z4
      subst e1 e2
      obtain ⟨g, rfl, a0, a1, a2, a3, a4, a5, a6⟩ := hc1 j x hx
      obtain ⟨g', rfl, b0, b1, b2, b3, b4, b5, b6⟩ := hc2 j _ hy
      obtain ⟨f0, f1, f2, f3, f4, f5, f6⟩ := x
      have HSX := Aside0.mk (fun W => same0_calls f0 f2 f3 f5 f6 b f1 f4 W)
      simp only at a0 a1 a2 a3 a4 a5 a6 b0 b1 b2 b3 b4 b5 b6 HSX
      have p0 := fun o : Obj => pw_cell_below (below_alloc (Below.refl wr.heap.size wr) o) b0
      have p1 := fun o : Obj => pw_cell_below (below_alloc (Below.refl wr.heap.size wr) o) b1
      have p2 := fun o : Obj => pw_cell_below (below_alloc (Below.refl wr.heap.size wr) o) b2
      have p3 := fun o : Obj => pw_cell_below (below_alloc (Below.refl wr.heap.size wr) o) b3
      have p4 := fun o : Obj => pw_cell_below (below_alloc (Below.refl wr.heap.size wr) o) b4
      have p5 := fun o : Obj => pw_cell_below (below_alloc (Below.refl wr.heap.size wr) o) b5
      have p6 := fun o : Obj => pw_cell_below (below_alloc (Below.refl wr.heap.size wr) o) b6
      clear hc1 hc2 hx hy b0 b1 b2 b3 b4 b5 b6
      go_wp2_with (go_at_call 23; (with_reducible refine (HSX.out _).mono ?_); rintro e W4 ⟨rfl, hb4⟩; have HB4 := Aside0.mk hb4; clear hb4)
      go_roundg k1
      case measure => omega
      case rel => exact ⟨j + 1, by go_num, ⟨by have := HJ.out; omega⟩, ⟨HB.out.trans ((below_alloc (below_alloc (Below.refl _ _) _) _).trans (HB4.out.mono (by simp; omega)) |>.mono HB.out.size)⟩⟩
set_option maxHeartbeats 4000000 in
set_option maxRecDepth 100000 in
theorem eqs_calls (w : World) (base base' : Nat) (v v' : Value) (xs : List S37) (h : k37.R 37 w base (fun _ => True) v xs) (h' : k37.R 37 w base' (fun _ => True) v' xs) (hl : xs.length ≤ 2200000000) :
    Calls Tryd.prog 27 #[v, v'] w fun e w' => e = .returned (.bool true) ∧ Below w.heap.size w w' := by
  obtain ⟨A, c, rfl, -⟩ := row37 h
  obtain ⟨A', c', rfl, -⟩ := row37 h'
  have HR := Aside0.mk h
  have HR' := Aside0.mk h'
  obtain ⟨m, hm⟩ : ∃ m, m = xs.length := ⟨_, rfl⟩
  rw [← hm] at hl HR HR' ⊢
  have HM := Aside0.mk hm
  clear h h' hm
  go_enter Tryd.func27, Tryd.ntmps27
  go_upto_region 4 with (fail)
  go_loopg [13] m (fun k v13 w' => ∃ j : Nat, v13 = .int .i64 (j : Int) ∧ Aside0 (j + k = m) ∧ Aside0 (Below w.heap.size w w'))
  case atStart => exact ⟨0, rfl, ⟨by omega⟩, ⟨Below.refl _ _⟩⟩
  case round =>
    obtain ⟨j, rfl, HJ, HB⟩ := hrel
    cases gk with
    | zero =>
      obtain rfl : j = m := by have := HJ.out; omega
      have dlt : decide (j < j) = false := by simp
      go_wp2_with fail
      go_returns
      exact ⟨rfl, HB.out⟩
    | succ k1 =>
      have hjm : j < m := by have := HJ.out; omega
      have dlt : decide (j < m) = true := by simpa using hjm
      obtain ⟨x, hx⟩ : ∃ x, xs[j]? = some x := ⟨_, List.getElem?_eq_getElem (by rw [← HM.out]; exact hjm)⟩
      obtain ⟨B1, d1, e1, hc1⟩ := row37 (Kd.R_below HR.out HB.out)
      obtain ⟨B2, d2, e2, hc2⟩ := row37 (Kd.R_below HR'.out HB.out)
      injection e1 with e1 z1 z2
      injection e2 with e2 z3 z4
      clear z1 z2 z3 z4
      subst e1 e2
      obtain ⟨g, rfl, a0, a1, a2, a3, a4, a5, a6⟩ := hc1 j x hx
      obtain ⟨g', rfl, b0, b1, b2, b3, b4, b5, b6⟩ := hc2 j x hx
      obtain ⟨f0, f1, f2, f3, f4, f5, f6⟩ := x
      simp only at a0 a1 a2 a3 a4 a5 a6 b0 b1 b2 b3 b4 b5 b6
      clear hc1 hc2 hx
      go_upto_region 6 with (fail)
      go_region_with (fail)
      all_goals
        go_wp2_with fail
        go_roundg k1
        case measure => omega
        case rel => exact ⟨j + 1, by go_num, ⟨by have := HJ.out; omega⟩, ⟨by first | exact HB.out | exact below_drew HB.out⟩⟩
end Go.Proofs.YtekmminmgjoabaaDoor.Js
