/- The card of FnJSLess: for every code and blanks; the listed package variable holds what the program's text lays (the card's tie), and there is no other condition. -/
import Derived.Test.YtekmminmgjoabaaDoorTie
import Derived.Test.YtekmminmgjoabaaDoorCards
import Derived.Test.YtekmminmgjoabaaDoorYOwnVars
import Derived.Test.YtekmminmgjoabaaDoorYRx
import Derived.Test.YtekmminmgjoabaaDoorYJsLawLs
import Derived.WalkKit
import Derived.ProofKit
import Derived.OpenShut
import Derived.ShutString
import Derived.ChangeOld
import Derived.Below
import Derived.LaidMore
import Derived.Lay
import Derived.LaidLaws
import Derived.SevenTiedAt
namespace Go.Proofs.YtekmminmgjoabaaDoor.OwnJSLess
open Go.ChangeShapes Go.WideShapes Go.ChangeAt Go.RowKit
open Go.Proofs.YtekmminmgjoabaaDoor.Js (Sl Bytes)
set_option linter.unusedVariables false
/-- A slice of integers that came in: it is nil, or it leads to a row of cells. -/
def IsRow (k : IntKind) (w : World) (a : Option Addr) (len cap : Nat) (zs : List Int) : Prop :=
  (a = none ∧ len = 0 ∧ cap = 0 ∧ zs = []) ∨
  ∃ x, a = some x ∧ len ≤ cap ∧ cap ≤ maxLen ∧ zs.length = cap ∧ (∀ i, i < zs.length → w.cell? (x.add i) = some (.int k (zs.getD i 0))) ∧ ∀ n ∈ zs, (Lit.int k n).wf = true
theorem row_C {w : World} {a : Option Addr} {len cap : Nat} {zs : List Int} (h : IsRow .u8 w a len cap zs) : ∃ ms : List Int, ms.length = len ∧ len ≤ cap ∧ (Go.Proofs.YtekmminmgjoabaaDoorW.PrintWords.Kd.int .u8).C w a len ms ∧ ∀ x ∈ ms, 0 ≤ x ∧ x ≤ 255 := by
  rcases h with ⟨rfl, rfl, rfl, rfl⟩ | ⟨x, rfl, h1, h2, h3, h4, h5⟩
  · exact ⟨[], rfl, Nat.le_refl _, Go.Proofs.YtekmminmgjoabaaDoorW.PrintWords.Kd.C_nil _ _, by simp⟩
  · have hm : cap ≤ 9223372036854775807 := by unfold maxLen at h2; omega
    refine ⟨zs.take len, by rw [List.length_take]; omega, h1, Go.Proofs.YtekmminmgjoabaaDoorW.PrintWords.Kd.C_of_reads (d := 0) ⟨by rw [List.length_take]; omega, by omega, fun hn => ⟨x, rfl, fun j hj => ?_⟩⟩, fun y hy => bounds_u8 (h5 y (List.mem_of_mem_take hy))⟩
    rw [h4 j (by omega)]
    congr 2
    simp only [List.getD_eq_getElem?_getD]
    rw [List.getElem?_take_of_lt hj]
theorem row_Sl {w : World} {a : Option Addr} {len cap : Nat} {zs : List Int} (h : IsRow .u8 w a len cap zs) : ∃ ms : List Int, Sl w w.heap.size (.slice a len cap) ms ∧ Bytes ms := by
  obtain ⟨ms, rfl, hc, hC, hb⟩ := row_C h
  rcases Nat.eq_zero_or_pos ms.length with h0 | h0
  · obtain rfl : ms = [] := List.length_eq_zero_iff.1 h0
    exact ⟨[], ⟨a, cap, rfl, hc, fun hn => absurd rfl hn, hC⟩, hb⟩
  · exact ⟨ms, Js.Sl_of_C hC h0 hc, hb⟩
theorem own : ownKnob Tryd.prog.godebug = none := by kernel_rfl
theorem laidOut : laidOutB Tryd.prog = true := by kernel_rfl
/-- The heap of the program's own start meets the condition on the listed variables. -/
theorem door_met (os : Os) (args : Array Value) : laidMetH Tryd.prog Rows.fnJSLessRow.laid ((World.doorLaid Tryd.prog 400 os).forCall (fun _ _ => 0) ⟨#[], args, []⟩).memory :=
  laidMetH_of_parts3 (fuel := 8) (laidMet_of_run' 8 (by kernel_rfl) (by kernel_rfl)) (by kernel_rfl) (by kernel_rfl)
theorem tab_mem : ("math/bits.deBruijn64tab", (DataW.agg (Js.tab64.map fun v => .lit (.int .u8 v)) : DataW Unit)) ∈ Rows.fnJSLessRow.laid := by
  show _ ∈ [("math/bits.deBruijn64tab", Rows.laid_math_bits_deBruijn64tab)]
  exact List.mem_cons_self
theorem plainLaid : (Rows.fnJSLessRow.laid.filter fun x => x.2.handleName?.isSome) = [] := by kernel_rfl
theorem tab_of {W : World} {ps : List MemPlace} (h : DataW.LaidVars Tryd.prog W Rows.fnJSLessRow.laid ps) : Js.Tab W where
  t0 := Js.laid_ints (n := "math/bits.deBruijn64tab") Js.tab64 (by kernel_rfl) (by kernel_rfl) (t := 184) (e := 5) (N := 64) (by kernel_rfl) Tryd.underlying5 (by kernel_rfl) (l := Rows.fnJSLessRow.laid) tab_mem h 62 7 rfl (by decide)
  t1 := Js.laid_ints (n := "math/bits.deBruijn64tab") Js.tab64 (by kernel_rfl) (by kernel_rfl) (t := 184) (e := 5) (N := 64) (by kernel_rfl) Tryd.underlying5 (by kernel_rfl) (l := Rows.fnJSLessRow.laid) tab_mem h 51 15 rfl (by decide)
  t2 := Js.laid_ints (n := "math/bits.deBruijn64tab") Js.tab64 (by kernel_rfl) (by kernel_rfl) (t := 184) (e := 5) (N := 64) (by kernel_rfl) Tryd.underlying5 (by kernel_rfl) (l := Rows.fnJSLessRow.laid) tab_mem h 46 23 rfl (by decide)
  t3 := Js.laid_ints (n := "math/bits.deBruijn64tab") Js.tab64 (by kernel_rfl) (by kernel_rfl) (t := 184) (e := 5) (N := 64) (by kernel_rfl) Tryd.underlying5 (by kernel_rfl) (l := Rows.fnJSLessRow.laid) tab_mem h 54 31 rfl (by decide)
  t4 := Js.laid_ints (n := "math/bits.deBruijn64tab") Js.tab64 (by kernel_rfl) (by kernel_rfl) (t := 184) (e := 5) (N := 64) (by kernel_rfl) Tryd.underlying5 (by kernel_rfl) (l := Rows.fnJSLessRow.laid) tab_mem h 25 39 rfl (by decide)
  t5 := Js.laid_ints (n := "math/bits.deBruijn64tab") Js.tab64 (by kernel_rfl) (by kernel_rfl) (t := 184) (e := 5) (N := 64) (by kernel_rfl) Tryd.underlying5 (by kernel_rfl) (l := Rows.fnJSLessRow.laid) tab_mem h 17 47 rfl (by decide)
  t6 := Js.laid_ints (n := "math/bits.deBruijn64tab") Js.tab64 (by kernel_rfl) (by kernel_rfl) (t := 184) (e := 5) (N := 64) (by kernel_rfl) Tryd.underlying5 (by kernel_rfl) (l := Rows.fnJSLessRow.laid) tab_mem h 33 55 rfl (by decide)
  t7 := Js.laid_ints (n := "math/bits.deBruijn64tab") Js.tab64 (by kernel_rfl) (by kernel_rfl) (t := 184) (e := 5) (N := 64) (by kernel_rfl) Tryd.underlying5 (by kernel_rfl) (l := Rows.fnJSLessRow.laid) tab_mem h 32 63 rfl (by decide)
theorem walk (a0 : Option Addr) (len0 cap0 : Nat) (z0 : List Int) (a1 : Int) (w : World) (w0 : IsRow .u8 w a0 len0 cap0 z0) (w1 : (Lit.int .u16 a1).wf = true) (lp : List MemPlace) (hlaid : DataW.LaidVars Tryd.prog w Rows.fnJSLessRow.laid lp) :
    Calls Tryd.prog 12 #[.slice a0 len0 cap0, .int .u16 a1] w fun e w' => e = .returned (.bool true) ∧ Below w.heap.size w w' := by
  obtain ⟨m0, s0, b0⟩ := row_Sl w0
  exact Js.law_less w _ _ s0 b0 (tab_of hlaid) a1 (bounds_u16 w1)

set_option maxRecDepth 100000 in
theorem lifted (os : Os) (started : os.Started) (H : Type) (enc : TypeId × Value → H) :
    ReturnsInHanded {} Tryd.checked os 12 .any (fun w args => (Rows.fnJSLessSpec.pre enc Tryd.prog Tryd.f12 [] false w args ∧ laidMetH Tryd.prog Rows.fnJSLessRow.laid w) ∧ sizedMet enc Tryd.prog Tryd.f12 (OpenSpec.ofChange Rows.fnJSLessSpec) false w args)
      (Rows.fnJSLessSpec.post enc Tryd.prog Tryd.f12 false true false false) := by
  refine returnsInHanded_of_change_and (C := Tryd.checked) (X := fun w _ => laidMetH Tryd.prog Rows.fnJSLessRow.laid w) (fun _ _ _ hh h => h.of_heap hh) own started (by kernel_rfl) Tryd.func12
    (ChangeSpec.witness_shaped (enc := enc) (C := Tryd.checked) (os := os) (X := fun w _ => laidMetH Tryd.prog Rows.fnJSLessRow.laid w) false (World.doorLaid Tryd.prog 400 os) #[.slice none 0 0, .int .u16 0] 8 rfl (World.shaped_of_RefB (by kernel_rfl) (by kernel_rfl)) (by kernel_rfl) (by kernel_rfl) (by kernel_rfl) (door_met os _)) ?_
  intro W base args ds gs before hval0 hW _ _ hL _
  have hval : ∀ (j : Nat) t v, Tryd.f12.params[j]? = some t → args[j]? = some v → Value.okWide Tryd.prog W .any base t v := hval0
  have hW' := hW
  obtain ⟨p, q, hA0, hV, rfl, hfz, hnd⟩ := hW
  have hA : DataW.TrodAll enc Tryd.prog W 0 (fun _ => true) true Tryd.f12.params.toList args.toList ds p := hA0
  rw [Tryd.params12] at hA hval
  obtain ⟨v0, vs0, d0, ds0, p0, q0, hargs, rfl, rfl, h0, r0⟩ := trodAll_cons hA
  obtain ⟨v1, vs1, d1, ds1, p1, q1, rfl, rfl, rfl, h1, r1⟩ := trodAll_cons r0
  obtain ⟨rfl, rfl, rfl⟩ := trodAll_nil r1
  obtain rfl : args = #[v0, v1] := by cases args; simp_all
  obtain ⟨rfl, rfl⟩ := trodVars_none hV
  obtain ⟨a1, rfl, rfl, rfl, w1⟩ := open_int Tryd.underlying54 (hval 1 54 v1 rfl rfl) h1
  obtain ⟨a0, len0, cap0, rfl⟩ := okWide_slice Tryd.underlying22 (hval 0 22 v0 rfl rfl)
  have k0 := h0
  have lt0 : ∀ x ∈ p0, x.block < W.heap.size := by obtain ⟨m, hm⟩ := k0; exact DataW.trod_lt m _ _ _ hm
  obtain ⟨z0, w0⟩ : ∃ zs, IsRow .u8 W a0 len0 cap0 zs := by
    obtain ⟨fuel, hf⟩ := h0
    rcases open_ints Tryd.underlying22 Tryd.underlying5 (by kernel_rfl) hf with ⟨hcs, _⟩ | ⟨x, l, c, zs, hcs, _, hl, hm, hz, _, hcell, hwz⟩
    · simp [Value.cells] at hcs
      obtain ⟨rfl, rfl, rfl⟩ := hcs
      exact ⟨[], .inl ⟨rfl, rfl, rfl, rfl⟩⟩
    · simp [Value.cells] at hcs
      obtain ⟨rfl, rfl, rfl⟩ := hcs
      exact ⟨zs, .inr ⟨_, rfl, hl, hm, by simpa using hz, hcell, hwz⟩⟩
  clear hA0 hval0
  obtain ⟨lp, hlaid⟩ := OwnVars.of_met plainLaid hL
  refine (walk a0 len0 cap0 z0 a1 W w0 w1 lp hlaid).mono fun e W' ⟨he, bel⟩ => ?_
  subst he
  exact ⟨_, rfl, _, _, _, [], _, [], hW', trodAll_mk1 (shut_bool Tryd.underlying4 _), (trodAll_cons_mk (Below.trod laidOut (by kernel_rfl) (of_decide_eq_true (by kernel_rfl)) k0 bel lt0) (trodAll_cons_mk (shut_int Tryd.underlying54 w1) trodAll_mk0)), rfl, bel.frame _, fun h => by cases h⟩
end Go.Proofs.YtekmminmgjoabaaDoor.OwnJSLess

