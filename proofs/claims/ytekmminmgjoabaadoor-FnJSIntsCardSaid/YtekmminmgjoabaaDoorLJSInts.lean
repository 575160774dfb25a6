/- The card of FnJSInts: for every code and blanks; the listed package variable holds what the program's text lays (the card's tie), and there is no other condition. -/
import Derived.Test.YtekmminmgjoabaaDoorTie
import Derived.Test.YtekmminmgjoabaaDoorCards
import Derived.Test.YtekmminmgjoabaaDoorOwnVars
import Derived.Test.YtekmminmgjoabaaDoorRx
import Derived.Test.YtekmminmgjoabaaDoorJsLawIn
import Derived.WalkKit
import Derived.ProofKit
import Derived.OpenShut
import Derived.ShutString
import Derived.ChangeOld
import Derived.Below
import Derived.LaidMore
import Derived.Lay
import Derived.LaidLaws
import Derived.SevenTiedAt
namespace Go.Proofs.YtekmminmgjoabaaDoor.OwnJSInts
open Go.ChangeShapes Go.WideShapes Go.ChangeAt Go.RowKit
open Go.Proofs.YtekmminmgjoabaaDoor.Js (Sl Bytes)
set_option linter.unusedVariables false
/-- A slice of integers that came in: it is nil, or it leads to a row of cells. -/
def IsRow (k : IntKind) (w : World) (a : Option Addr) (len cap : Nat) (zs : List Int) : Prop :=
  (a = none ∧ len = 0 ∧ cap = 0 ∧ zs = []) ∨
  ∃ x, a = some x ∧ len ≤ cap ∧ cap ≤ maxLen ∧ zs.length = cap ∧ (∀ i, i < zs.length → w.cell? (x.add i) = some (.int k (zs.getD i 0))) ∧ ∀ n ∈ zs, (Lit.int k n).wf = true
theorem row_C {w : World} {a : Option Addr} {len cap : Nat} {zs : List Int} (h : IsRow .u8 w a len cap zs) : ∃ ms : List Int, ms.length = len ∧ len ≤ cap ∧ (Go.Proofs.YtekmminmgjoabaaDoorW.PrintWords.Kd.int .u8).C w a len ms ∧ ∀ x ∈ ms, 0 ≤ x ∧ x ≤ 255 := by
  rcases h with ⟨rfl, rfl, rfl, rfl⟩ | ⟨x, rfl, h1, h2, h3, h4, h5⟩
  · exact ⟨[], rfl, Nat.le_refl _, Go.Proofs.YtekmminmgjoabaaDoorW.PrintWords.Kd.C_nil _ _, by simp⟩
  · have hm : cap ≤ 9223372036854775807 := by unfold maxLen at h2; omega
    refine ⟨zs.take len, by rw [List.length_take]; omega, h1, Go.Proofs.YtekmminmgjoabaaDoorW.PrintWords.Kd.C_of_reads (d := 0) ⟨by rw [List.length_take]; omega, by omega, fun hn => ⟨x, rfl, fun j hj => ?_⟩⟩, fun y hy => bounds_u8 (h5 y (List.mem_of_mem_take hy))⟩
    rw [h4 j (by omega)]
    congr 2
    simp only [List.getD_eq_getElem?_getD]
    rw [List.getElem?_take_of_lt hj]
theorem row_Sl {w : World} {a : Option Addr} {len cap : Nat} {zs : List Int} (h : IsRow .u8 w a len cap zs) : ∃ ms : List Int, Sl w w.heap.size (.slice a len cap) ms ∧ Bytes ms := by
  obtain ⟨ms, rfl, hc, hC, hb⟩ := row_C h
  rcases Nat.eq_zero_or_pos ms.length with h0 | h0
  · obtain rfl : ms = [] := List.length_eq_zero_iff.1 h0
    exact ⟨[], ⟨a, cap, rfl, hc, fun hn => absurd rfl hn, hC⟩, hb⟩
  · exact ⟨ms, Js.Sl_of_C hC h0 hc, hb⟩
theorem own : ownKnob Tryd.prog.godebug = none := by kernel_rfl
theorem laidOut : laidOutB Tryd.prog = true := by kernel_rfl
theorem plain_ : (Rows.fnJSIntsRow.laid.filter fun x => x.2.handleName?.isNone) = Rows.fnJSIntsRow.laid := by kernel_rfl
/-- The heap of the program's own start meets the condition on the listed variables. -/
theorem door_met (os : Os) (args : Array Value) : laidMetH Tryd.prog Rows.fnJSIntsRow.laid ((World.laidAll Tryd.prog os Rows.fnJSIntsRow.laid).forCall (fun _ _ => 0) ⟨#[], args, []⟩).memory :=
  laidMetH_of_parts3 (fuel := 8) (by rw [plain_]; exact laidMet_laidAll args (by kernel_rfl) (by kernel_rfl)) (by kernel_rfl) (by kernel_rfl)
theorem tab_mem : ("math/bits.deBruijn64tab", (DataW.agg (Js.tab64.map fun v => .lit (.int .u8 v)) : DataW Unit)) ∈ Rows.fnJSIntsRow.laid := by
  show _ ∈ [("math/bits.deBruijn32tab", Rows.laid_math_bits_deBruijn32tab), ("math/bits.deBruijn64tab", Rows.laid_math_bits_deBruijn64tab), ("internal/strconv.uint64pow10", Rows.laid_internal_strconv_uint64pow10)]
  exact List.mem_cons_of_mem _ (List.mem_cons_self)
theorem plainLaid : (Rows.fnJSIntsRow.laid.filter fun x => x.2.handleName?.isSome) = [] := by kernel_rfl
theorem tab_of {W : World} {ps : List MemPlace} (h : DataW.LaidVars Tryd.prog W Rows.fnJSIntsRow.laid ps) : Js.Tab W where
  t0 := Js.laid_ints (n := "math/bits.deBruijn64tab") Js.tab64 (by kernel_rfl) (by kernel_rfl) (t := 184) (e := 5) (N := 64) (by kernel_rfl) Tryd.underlying5 (by kernel_rfl) (l := Rows.fnJSIntsRow.laid) tab_mem h 62 7 rfl (by decide)
  t1 := Js.laid_ints (n := "math/bits.deBruijn64tab") Js.tab64 (by kernel_rfl) (by kernel_rfl) (t := 184) (e := 5) (N := 64) (by kernel_rfl) Tryd.underlying5 (by kernel_rfl) (l := Rows.fnJSIntsRow.laid) tab_mem h 51 15 rfl (by decide)
  t2 := Js.laid_ints (n := "math/bits.deBruijn64tab") Js.tab64 (by kernel_rfl) (by kernel_rfl) (t := 184) (e := 5) (N := 64) (by kernel_rfl) Tryd.underlying5 (by kernel_rfl) (l := Rows.fnJSIntsRow.laid) tab_mem h 46 23 rfl (by decide)
  t3 := Js.laid_ints (n := "math/bits.deBruijn64tab") Js.tab64 (by kernel_rfl) (by kernel_rfl) (t := 184) (e := 5) (N := 64) (by kernel_rfl) Tryd.underlying5 (by kernel_rfl) (l := Rows.fnJSIntsRow.laid) tab_mem h 54 31 rfl (by decide)
  t4 := Js.laid_ints (n := "math/bits.deBruijn64tab") Js.tab64 (by kernel_rfl) (by kernel_rfl) (t := 184) (e := 5) (N := 64) (by kernel_rfl) Tryd.underlying5 (by kernel_rfl) (l := Rows.fnJSIntsRow.laid) tab_mem h 25 39 rfl (by decide)
  t5 := Js.laid_ints (n := "math/bits.deBruijn64tab") Js.tab64 (by kernel_rfl) (by kernel_rfl) (t := 184) (e := 5) (N := 64) (by kernel_rfl) Tryd.underlying5 (by kernel_rfl) (l := Rows.fnJSIntsRow.laid) tab_mem h 17 47 rfl (by decide)
  t6 := Js.laid_ints (n := "math/bits.deBruijn64tab") Js.tab64 (by kernel_rfl) (by kernel_rfl) (t := 184) (e := 5) (N := 64) (by kernel_rfl) Tryd.underlying5 (by kernel_rfl) (l := Rows.fnJSIntsRow.laid) tab_mem h 33 55 rfl (by decide)
  t7 := Js.laid_ints (n := "math/bits.deBruijn64tab") Js.tab64 (by kernel_rfl) (by kernel_rfl) (t := 184) (e := 5) (N := 64) (by kernel_rfl) Tryd.underlying5 (by kernel_rfl) (l := Rows.fnJSIntsRow.laid) tab_mem h 32 63 rfl (by decide)
theorem laid_tabIs {P : Program} {W : World} {k : IntKind} {n : String} {g : Nat} {t e : TypeId} {N : Nat} {zs : List Int} (hg : P.globalNamed n = some g) (hty : (P.globals[g]?).map (·.type) = some t) (ht : P.underlying t = some (.array N e)) (he : P.underlying e = some (.int k)) (hce : P.cellsOf e = 1) (hct : P.cellsOf t = N) :
    ∀ {l : List (String × DataW Unit)} {ps : List MemPlace}, (n, Lib.tabData k zs) ∈ l → DataW.LaidVars P W l ps → Lib.TabIs P W n k zs
  | [], _, hm, _ => absurd hm (by simp)
  | (m, d) :: r, ps, hm, h => by
    obtain ⟨g', t', cs, fuel, p, q, hg', ht', hvar, hd, hr, rfl⟩ := h
    rcases List.mem_cons.1 hm with e0 | hm
    · obtain ⟨rfl, rfl⟩ := Prod.mk.inj e0
      obtain rfl := Option.some.inj (hg.symm.trans hg')
      obtain rfl := Option.some.inj (hty.symm.trans ht')
      unfold Lib.TabIs
      rw [hvar, ← Lib.cells_of_tab ht he hce hct hd]
    · exact laid_tabIs hg hty ht he hce hct hm hr
theorem pow_mem : ("internal/strconv.uint64pow10", (Lib.tabData .u64 Lib.pow10Tab : DataW Unit)) ∈ Rows.fnJSIntsRow.laid := by
  have e : (Lib.tabData .u64 Lib.pow10Tab : DataW Unit) = Rows.laid_internal_strconv_uint64pow10 := by kernel_rfl
  rw [e]
  show _ ∈ [("math/bits.deBruijn32tab", Rows.laid_math_bits_deBruijn32tab), ("math/bits.deBruijn64tab", Rows.laid_math_bits_deBruijn64tab), ("internal/strconv.uint64pow10", Rows.laid_internal_strconv_uint64pow10)]
  exact List.mem_cons_of_mem _ (List.mem_cons_of_mem _ (List.mem_cons_self))
theorem pow_of {W : World} {ps : List MemPlace} (h : DataW.LaidVars Tryd.prog W Rows.fnJSIntsRow.laid ps) : Lib.TabIs Tryd.prog W "internal/strconv.uint64pow10" .u64 Lib.pow10Tab :=
  laid_tabIs (g := 2) (t := 181) (e := 65) (N := 20) (by kernel_rfl) (by kernel_rfl) Tryd.underlying181 Tryd.underlying65 (by kernel_rfl) (by kernel_rfl) pow_mem h
theorem walk (a0 : Int) (a1 : Int) (a2 : Int) (w : World) (w0 : (Lit.int .i64 a0).wf = true) (w1 : (Lit.int .u64 a1).wf = true) (w2 : (Lit.int .u8 a2).wf = true) (lp : List MemPlace) (hlaid : DataW.LaidVars Tryd.prog w Rows.fnJSIntsRow.laid lp) :
    Calls Tryd.prog 15 #[.int .i64 a0, .int .u64 a1, .int .u8 a2] w fun e w' => e = .returned (.bool true) ∧ Below w.heap.size w w' := by
  exact Js.law_ints w     (tab_of hlaid) (pow_of hlaid) a0 (bounds_i64 w0) a1 (bounds_u64 w1) a2 (bounds_u8 w2)

set_option maxRecDepth 100000 in
theorem lifted (os : Os) (started : os.Started) (H : Type) (enc : TypeId × Value → H) :
    ReturnsInHanded {} Tryd.checked os 15 .any (fun w args => (Rows.fnJSIntsSpec.pre enc Tryd.prog Tryd.f15 [] false w args ∧ laidMetH Tryd.prog Rows.fnJSIntsRow.laid w) ∧ sizedMet enc Tryd.prog Tryd.f15 (OpenSpec.ofChange Rows.fnJSIntsSpec) false w args)
      (Rows.fnJSIntsSpec.post enc Tryd.prog Tryd.f15 false true false false) := by
  refine returnsInHanded_of_change_and (C := Tryd.checked) (X := fun w _ => laidMetH Tryd.prog Rows.fnJSIntsRow.laid w) (fun _ _ _ hh h => h.of_heap hh) own started (by kernel_rfl) Tryd.func15
    (ChangeSpec.witness_shaped (enc := enc) (C := Tryd.checked) (os := os) (X := fun w _ => laidMetH Tryd.prog Rows.fnJSIntsRow.laid w) false (World.laidAll Tryd.prog os Rows.fnJSIntsRow.laid) #[.int .i64 0, .int .u64 0, .int .u8 0] 8 (World.laidAll_os _ _ _) (World.shaped_of_ZipB (by kernel_rfl) (by kernel_rfl)) (by kernel_rfl) (by kernel_rfl) (by kernel_rfl) (door_met os _)) ?_
  intro W base args ds gs before hval0 hW _ _ hL _
  have hval : ∀ (j : Nat) t v, Tryd.f15.params[j]? = some t → args[j]? = some v → Value.okWide Tryd.prog W .any base t v := hval0
  have hW' := hW
  obtain ⟨p, q, hA0, hV, rfl, hfz, hnd⟩ := hW
  have hA : DataW.TrodAll enc Tryd.prog W 0 (fun _ => true) true Tryd.f15.params.toList args.toList ds p := hA0
  rw [Tryd.params15] at hA hval
  obtain ⟨v0, vs0, d0, ds0, p0, q0, hargs, rfl, rfl, h0, r0⟩ := trodAll_cons hA
  obtain ⟨v1, vs1, d1, ds1, p1, q1, rfl, rfl, rfl, h1, r1⟩ := trodAll_cons r0
  obtain ⟨v2, vs2, d2, ds2, p2, q2, rfl, rfl, rfl, h2, r2⟩ := trodAll_cons r1
  obtain ⟨rfl, rfl, rfl⟩ := trodAll_nil r2
  obtain rfl : args = #[v0, v1, v2] := by cases args; simp_all
  obtain ⟨rfl, rfl⟩ := trodVars_none hV
  obtain ⟨a0, rfl, rfl, rfl, w0⟩ := open_int Tryd.underlying2 (hval 0 2 v0 rfl rfl) h0
  obtain ⟨a1, rfl, rfl, rfl, w1⟩ := open_int Tryd.underlying65 (hval 1 65 v1 rfl rfl) h1
  obtain ⟨a2, rfl, rfl, rfl, w2⟩ := open_int Tryd.underlying5 (hval 2 5 v2 rfl rfl) h2
  clear hA0 hval0
  obtain ⟨lp, hlaid⟩ := OwnVars.of_met plainLaid hL
  refine (walk a0 a1 a2 W w0 w1 w2 lp hlaid).mono fun e W' ⟨he, bel⟩ => ?_
  subst he
  exact ⟨_, rfl, _, _, _, [], _, [], hW', trodAll_mk1 (shut_bool Tryd.underlying4 _), (trodAll_cons_mk (shut_int Tryd.underlying2 w0) (trodAll_cons_mk (shut_int Tryd.underlying65 w1) (trodAll_cons_mk (shut_int Tryd.underlying5 w2) trodAll_mk0))), rfl, bel.frame _, fun h => by cases h⟩
end Go.Proofs.YtekmminmgjoabaaDoor.OwnJSInts
