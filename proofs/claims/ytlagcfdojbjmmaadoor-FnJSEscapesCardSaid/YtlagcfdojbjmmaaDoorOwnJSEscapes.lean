/- The first sign of a text that must be escaped is told; for every code and either kind; the listed package variable holds what the program's text lays (the card's tie), and there is no other condition. -/
import Derived.Test.YtlagcfdojbjmmaaDoorTie
import Derived.Test.YtlagcfdojbjmmaaDoorCards
import Derived.Test.YtlagcfdojbjmmaaDoorOwnVars
import Derived.Test.YtlagcfdojbjmmaaDoorEscAll
import Derived.WalkKit
import Derived.ProofKit
import Derived.OpenShut
import Derived.ShutString
import Derived.ChangeOld
import Derived.Below
import Derived.LaidMore
import Derived.LaidLaws
import Derived.SevenTiedAt
namespace Go.Proofs.YtlagcfdojbjmmaaDoor.OwnJSEscapes
open Go.ChangeShapes Go.WideShapes Go.ChangeAt Go.RowKit
open Go.ChangeMaps (open_string shut_string)
set_option linter.unusedVariables false

/-- A slice of integers that came in: it is nil, or it leads to a row of cells. -/
def IsRow (k : IntKind) (w : World) (a : Option Addr) (len cap : Nat) (zs : List Int) : Prop :=
  (a = none ∧ len = 0 ∧ cap = 0 ∧ zs = []) ∨
  ∃ x, a = some x ∧ len ≤ cap ∧ cap ≤ maxLen ∧ zs.length = cap ∧ (∀ i, i < zs.length → w.cell? (x.add i) = some (.int k (zs.getD i 0))) ∧ ∀ n ∈ zs, (Lit.int k n).wf = true


/-- The bytes of a slice that came in. -/
theorem row_C {w : World} {a : Option Addr} {len cap : Nat} {zs : List Int} (h : IsRow .u8 w a len cap zs) : ∃ ms : List Int, ms.length = len ∧ len ≤ cap ∧ (Go.Proofs.YtlagcfdojbjmmaaDoorW.PrintWords.Kd.int .u8).C w a len ms ∧ ∀ x ∈ ms, 0 ≤ x ∧ x ≤ 255 := by
  rcases h with ⟨rfl, rfl, rfl, rfl⟩ | ⟨x, rfl, h1, h2, h3, h4, h5⟩
  · exact ⟨[], rfl, Nat.le_refl _, Go.Proofs.YtlagcfdojbjmmaaDoorW.PrintWords.Kd.C_nil _ _, by simp⟩
  · have hm : cap ≤ 9223372036854775807 := by unfold maxLen at h2; omega
    refine ⟨zs.take len, by rw [List.length_take]; omega, h1, Go.Proofs.YtlagcfdojbjmmaaDoorW.PrintWords.Kd.C_of_reads (d := 0) ⟨by rw [List.length_take]; omega, by omega, fun hn => ⟨x, rfl, fun j hj => ?_⟩⟩, fun y hy => bounds_u8 (h5 y (List.mem_of_mem_take hy))⟩
    rw [h4 j (by omega)]
    congr 2
    simp only [List.getD_eq_getElem?_getD]
    rw [List.getElem?_take_of_lt hj]
theorem own : ownKnob Tryd.prog.godebug = none := by kernel_rfl
theorem laidOut : laidOutB Tryd.prog = true := by kernel_rfl

/-- The heap of the program's own start meets the condition on the listed variables. -/
theorem door_met (os : Os) (args : Array Value) : laidMetH Tryd.prog Rows.fnJSEscapesRow.laid ((World.doorLaid Tryd.prog 400 os).forCall (fun _ _ => 0) ⟨#[], args, []⟩).memory :=
  laidMetH_of_parts3 (fuel := 8) (laidMet_of_run' 8 (by kernel_rfl) (by kernel_rfl)) (by kernel_rfl) (by kernel_rfl)

theorem tab_mem : ("math/bits.deBruijn64tab", (DataW.agg (Esc.tab.map fun v => .lit (.int .u8 v)) : DataW Unit)) ∈ Rows.fnJSEscapesRow.laid := by
  show _ ∈ [("math/bits.deBruijn64tab", Rows.laid_math_bits_deBruijn64tab)]
  exact List.mem_singleton.2 rfl
theorem plainLaid : (Rows.fnJSEscapesRow.laid.filter fun x => x.2.handleName?.isSome) = [] := by kernel_rfl
theorem tab_of {W : World} {ps : List MemPlace} (h : DataW.LaidVars Tryd.prog W Rows.fnJSEscapesRow.laid ps) : Esc.Tab W where
  t0 := Esc.laid_ints (n := "math/bits.deBruijn64tab") Esc.tab (by kernel_rfl) (by kernel_rfl) (t := 37) (e := 5) (N := 64) (by kernel_rfl) Tryd.underlying5 (by kernel_rfl) (l := Rows.fnJSEscapesRow.laid) tab_mem h 62 7 rfl (by decide)
  t1 := Esc.laid_ints (n := "math/bits.deBruijn64tab") Esc.tab (by kernel_rfl) (by kernel_rfl) (t := 37) (e := 5) (N := 64) (by kernel_rfl) Tryd.underlying5 (by kernel_rfl) (l := Rows.fnJSEscapesRow.laid) tab_mem h 51 15 rfl (by decide)
  t2 := Esc.laid_ints (n := "math/bits.deBruijn64tab") Esc.tab (by kernel_rfl) (by kernel_rfl) (t := 37) (e := 5) (N := 64) (by kernel_rfl) Tryd.underlying5 (by kernel_rfl) (l := Rows.fnJSEscapesRow.laid) tab_mem h 46 23 rfl (by decide)
  t3 := Esc.laid_ints (n := "math/bits.deBruijn64tab") Esc.tab (by kernel_rfl) (by kernel_rfl) (t := 37) (e := 5) (N := 64) (by kernel_rfl) Tryd.underlying5 (by kernel_rfl) (l := Rows.fnJSEscapesRow.laid) tab_mem h 54 31 rfl (by decide)
  t4 := Esc.laid_ints (n := "math/bits.deBruijn64tab") Esc.tab (by kernel_rfl) (by kernel_rfl) (t := 37) (e := 5) (N := 64) (by kernel_rfl) Tryd.underlying5 (by kernel_rfl) (l := Rows.fnJSEscapesRow.laid) tab_mem h 25 39 rfl (by decide)
  t5 := Esc.laid_ints (n := "math/bits.deBruijn64tab") Esc.tab (by kernel_rfl) (by kernel_rfl) (t := 37) (e := 5) (N := 64) (by kernel_rfl) Tryd.underlying5 (by kernel_rfl) (l := Rows.fnJSEscapesRow.laid) tab_mem h 17 47 rfl (by decide)
  t6 := Esc.laid_ints (n := "math/bits.deBruijn64tab") Esc.tab (by kernel_rfl) (by kernel_rfl) (t := 37) (e := 5) (N := 64) (by kernel_rfl) Tryd.underlying5 (by kernel_rfl) (l := Rows.fnJSEscapesRow.laid) tab_mem h 33 55 rfl (by decide)
  t7 := Esc.laid_ints (n := "math/bits.deBruijn64tab") Esc.tab (by kernel_rfl) (by kernel_rfl) (t := 37) (e := 5) (N := 64) (by kernel_rfl) Tryd.underlying5 (by kernel_rfl) (l := Rows.fnJSEscapesRow.laid) tab_mem h 32 63 rfl (by decide)
theorem walk (a0 : Option Addr) (len0 cap0 : Nat) (z0 : List Int) (a1 : Bool) (w : World) (w0 : IsRow .u8 w a0 len0 cap0 z0) (lp : List MemPlace) (hlaid : DataW.LaidVars Tryd.prog w Rows.fnJSEscapesRow.laid lp) :
    Calls Tryd.prog 4 #[.slice a0 len0 cap0, .bool a1] w fun e w' => e = .returned (.bool true) ∧ Below w.heap.size w w' := by
  obtain ⟨ms, rfl, _, hm, hok⟩ := row_C w0
  exact Esc.law ms hok a0 cap0 a1 w hm (tab_of hlaid)


set_option maxRecDepth 100000 in
theorem lifted (os : Os) (started : os.Started) (H : Type) (enc : TypeId × Value → H) :
    ReturnsInHanded {} Tryd.checked os 4 .any (fun w args => (Rows.fnJSEscapesSpec.pre enc Tryd.prog Tryd.f4 [] false w args ∧ laidMetH Tryd.prog Rows.fnJSEscapesRow.laid w) ∧ sizedMet enc Tryd.prog Tryd.f4 (OpenSpec.ofChange Rows.fnJSEscapesSpec) false w args)
      (Rows.fnJSEscapesSpec.post enc Tryd.prog Tryd.f4 false true false false) := by
  refine returnsInHanded_of_change_and (C := Tryd.checked) (X := fun w _ => laidMetH Tryd.prog Rows.fnJSEscapesRow.laid w) (fun _ _ _ hh h => h.of_heap hh) own started (by kernel_rfl) Tryd.func4
    (ChangeSpec.witness_shaped (enc := enc) (C := Tryd.checked) (os := os) (X := fun w _ => laidMetH Tryd.prog Rows.fnJSEscapesRow.laid w) false (World.doorLaid Tryd.prog 400 os) #[.slice none 0 0, .bool false] 8 rfl (World.shaped_of_RefB (by kernel_rfl) (by kernel_rfl)) (by kernel_rfl) (by kernel_rfl) (by kernel_rfl) (door_met os _)) ?_
  intro W base args ds gs before hval0 hW _ _ hL _
  have hval : ∀ (j : Nat) t v, Tryd.f4.params[j]? = some t → args[j]? = some v → Value.okWide Tryd.prog W .any base t v := hval0
  have hW' := hW
  obtain ⟨p, q, hA0, hV, rfl, hfz, hnd⟩ := hW
  have hA : DataW.TrodAll enc Tryd.prog W 0 (fun _ => true) true Tryd.f4.params.toList args.toList ds p := hA0
  rw [Tryd.params4] at hA hval
  obtain ⟨v0, vs0, d0, ds0, p0, q0, hargs, rfl, rfl, h0, r0⟩ := trodAll_cons hA
  obtain ⟨v1, vs1, d1, ds1, p1, q1, rfl, rfl, rfl, h1, r1⟩ := trodAll_cons r0
  obtain ⟨rfl, rfl, rfl⟩ := trodAll_nil r1
  obtain rfl : args = #[v0, v1] := by cases args; simp_all
  obtain ⟨rfl, rfl⟩ := trodVars_none hV
  obtain ⟨a0, len0, cap0, rfl⟩ := okWide_slice Tryd.underlying25 (hval 0 25 v0 rfl rfl)
  have k0 := h0
  have lt0 : ∀ x ∈ p0, x.block < W.heap.size := by obtain ⟨m, hm⟩ := k0; exact DataW.trod_lt m _ _ _ hm
  obtain ⟨z0, w0⟩ : ∃ zs, IsRow .u8 W a0 len0 cap0 zs := by
    obtain ⟨fuel, hf⟩ := h0
    rcases open_ints Tryd.underlying25 Tryd.underlying5 (by kernel_rfl) hf with ⟨hcs, _⟩ | ⟨x, l, c, zs, hcs, _, hl, hm, hz, _, hcell, hwz⟩
    · simp [Value.cells] at hcs
      obtain ⟨rfl, rfl, rfl⟩ := hcs
      exact ⟨[], .inl ⟨rfl, rfl, rfl, rfl⟩⟩
    · simp [Value.cells] at hcs
      obtain ⟨rfl, rfl, rfl⟩ := hcs
      exact ⟨zs, .inr ⟨_, rfl, hl, hm, by simpa using hz, hcell, hwz⟩⟩
  obtain ⟨a1, rfl, rfl, rfl⟩ := open_bool Tryd.underlying4 (hval 1 4 v1 rfl rfl) h1
  clear hA0 hval0
  obtain ⟨lp, hlaid⟩ := OwnVars.of_met plainLaid hL
  refine (walk a0 len0 cap0 z0 a1 W w0 lp hlaid).mono fun e W' ⟨he, bel⟩ => ?_
  subst he
  exact ⟨_, rfl, _, _, _, [], _, [], hW', trodAll_mk1 (shut_bool Tryd.underlying4 _), (trodAll_cons_mk (Below.trod laidOut (by kernel_rfl) (of_decide_eq_true (by kernel_rfl)) k0 bel lt0) (trodAll_cons_mk (shut_bool Tryd.underlying4 _) trodAll_mk0)), rfl, bel.frame _, fun h => by cases h⟩

theorem over : Rows.fnJSEscapesRow.holds Tryd.pinned (OpenSpec.ofChange Rows.fnJSEscapesSpec) :=
  OpenClaim.holds_of_wide 4 Tryd.f4 rfl rfl rfl rfl rfl rfl rfl ⟨rfl, rfl, rfl, rfl, rfl⟩ rfl rfl rfl rfl rfl (by kernel_rfl) Tryd.func4 (by kernel_rfl)
    (of_decide_eq_true (by kernel_rfl)) (by unfold Func.isWrapper; first | (rw [if_pos (by decide +kernel)]; kernel_rfl) | (rw [if_neg (by decide +kernel)]; exact ⟨rfl, rfl⟩))
    (fun os started H enc _ => lifted os started H enc)

theorem card_holds : Rows.FnJSEscapesCardSaid :=
  Claim7.holds_tied_plain_at .later [] [.data] true (true, "d7262ededca62e964fae7cfeaf9e9bf29b6565f509e630c36b2b2a2ce610329d") false
    over (fun _ h => by cases h) (by kernel_rfl) (fun _ h => by cases h) fnJSEscapes_row_tie rfl ⟨rfl, rfl⟩ (by kernel_rfl) rfl
    (fun f fn hf hfn => by
      obtain rfl : f = 4 := Option.some.inj ((show Tryd.prog.funcNamed "given.example/pub-burnisher/laws.FnJSEscapes" = some 4 by kernel_rfl).symm.trans hf) |>.symm
      obtain rfl : fn = Tryd.f4 := (Option.some.inj (Tryd.func4.symm.trans hfn)).symm
      exact ⟨by kernel_rfl, fun j t ht => by
        rw [Tryd.params4] at ht
        have hm : t ∈ [25, 4] := by simpa using Array.mem_of_getElem? ht
        have hall : ([25, 4].all fun u => !Tryd.prog.wantsStandIn u) = true := by kernel_rfl
        exact (show Tryd.prog.wantsStandIn t = false by simpa using List.all_eq_true.1 hall t hm)⟩)
    (by kernel_rfl)
end Go.Proofs.YtlagcfdojbjmmaaDoor.OwnJSEscapes
namespace Go.Proofs.YtlagcfdojbjmmaaDoor
/-- The card's statement, under a short name. -/
theorem fnJSEscapes_holds : Rows.FnJSEscapesCardSaid := OwnJSEscapes.card_holds
end Go.Proofs.YtlagcfdojbjmmaaDoor
