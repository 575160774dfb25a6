/- Written by throw.py (wip/tpl): the statement of FnTHReads, for every input; with no condition. -/
import Derived.Test.YtmjilokgpgajjaaRows
import Derived.Test.YtmjilokgpgajjaaThN4
import Derived.WalkKit
import Derived.ProofKit
import Derived.OpenShut
import Derived.ShutString
import Derived.ChangeOld
import Derived.Below
import Derived.SizedLaws
import Derived.ChangeMaps5
import Derived.Test.YtmjilokgpgajjaaWSized
namespace Go.Proofs.Ytmjilokgpgajjaa.FnTHReads
open Go.ChangeShapes Go.WideShapes Go.ChangeAt Go.RowKit
open Go.ChangeMaps (open_string shut_string)
set_option linter.unusedVariables false
theorem own : ownKnob Try.prog.godebug = none := by kernel_rfl
theorem laidOut : laidOutB Try.prog = true := by kernel_rfl
theorem types2 : Try.prog.cellTypes Try.prog.depth 34 = some (List.replicate 2 5) := by kernel_rfl
theorem cells2 : Try.prog.cellsOf 34 = 2 := by kernel_rfl
set_option maxRecDepth 100000 in
theorem open2 {W : World} {base : Nat} {v : Value} (h : Value.okWide Try.prog W .any base 34 v) :
    ∃ n0 n1 : Int, v = .agg #[.int .u8 n0, .int .u8 n1] ∧ (0 ≤ n0 ∧ n0 ≤ 255) ∧ (0 ≤ n1 ∧ n1 ≤ 255) := by
  simp only [Value.okWide, Try.underlying34] at h
  obtain ⟨cs, rfl, hsz, ts, hts, -, hall⟩ := h
  rw [cells2] at hsz
  rw [types2] at hts
  obtain rfl := Option.some.inj hts
  have cell : ∀ i (hi : i < 2), ∃ n : Int, cs[i]? = some (.int .u8 n) ∧ 0 ≤ n ∧ n ≤ 255 := by
    intro i hi
    have hlt : i < cs.size := by omega
    obtain ⟨u, hu, hc⟩ := hall i cs[i] (by simp [hlt])
    rw [List.length_replicate, Nat.mod_eq_of_lt hi, List.getElem?_replicate, if_pos hi] at hu
    obtain rfl := Option.some.inj hu
    have he : cs[i]? = some cs[i] := by simp [hlt]
    generalize cs[i] = v at hc he
    simp only [Cell.okWide, Try.underlying5] at hc
    cases v <;> simp_all [Cell.ok]
    obtain ⟨rfl, hh⟩ := hc
    unfold IntKind.has at hh
    have h1 : IntKind.u8.min = 0 := rfl
    have h2 : IntKind.u8.max = 255 := rfl
    omega
  obtain ⟨n0, e0, w0⟩ := cell 0 (by omega)
  obtain ⟨n1, e1, w1⟩ := cell 1 (by omega)
  refine ⟨n0, n1, ?_, w0, w1⟩
  congr 1
  apply Array.ext_getElem?
  intro i
  rcases (by omega : i = 0 ∨ i = 1 ∨ 2 ≤ i) with rfl | rfl | hi
  · rw [e0]; rfl
  · rw [e1]; rfl
  · rw [Array.getElem?_eq_none (by omega), Array.getElem?_eq_none (by simpa using hi)]
def IsRow (k : IntKind) (w : World) (a : Option Addr) (len cap : Nat) (zs : List Int) : Prop :=
  (a = none ∧ len = 0 ∧ cap = 0 ∧ zs = []) ∨
  ∃ x, a = some x ∧ len ≤ cap ∧ cap ≤ maxLen ∧ zs.length = cap ∧ (∀ i, i < zs.length → w.cell? (x.add i) = some (.int k (zs.getD i 0))) ∧ ∀ n ∈ zs, (Lit.int k n).wf = true
theorem row_C {W : World} {a : Option Addr} {len cap : Nat} {zs : List Int} (h : IsRow .u8 W a len cap zs) (hy : len * 1 ≤ 140737488351232) : ∃ ms : List Int, ms.length = len ∧ len ≤ cap ∧ (Go.Proofs.YtmjilokgpgajjaaW.PrintWords.Kd.int .u8).C W a ms.length ms ∧ ∀ y ∈ ms, 0 ≤ y ∧ y ≤ 255 := by
  rcases h with ⟨rfl, rfl, rfl, rfl⟩ | ⟨x, rfl, h1, h2, h3, h4, h5⟩
  · exact ⟨[], rfl, Nat.le_refl _, Go.Proofs.YtmjilokgpgajjaaW.PrintWords.Kd.C_of_reads (d := 0) ⟨rfl, by decide, fun hn => absurd hn (by decide)⟩, fun y hy => by cases hy⟩
  · refine ⟨zs.take len, by rw [List.length_take]; omega, h1, Go.Proofs.YtmjilokgpgajjaaW.PrintWords.Kd.C_of_reads (d := 0) ⟨rfl, by rw [List.length_take]; omega, fun hn => ⟨x, rfl, fun j hj => ?_⟩⟩, fun y hy => bounds_u8 (h5 y (List.mem_of_mem_take hy))⟩
    rw [List.length_take] at hj
    rw [h4 j (by omega)]
    congr 2
    simp only [List.getD_eq_getElem?_getD]
    rw [List.getElem?_take_of_lt (by omega)]
set_option maxRecDepth 100000 in
theorem lifted (os : Os) (started : os.Started) (H : Type) (enc : TypeId × Value → H) :
    ReturnsInHanded {} Try.checked os 6 .any (Rows.fnTHReadsSpec.pre6 enc Try.prog Try.f6 Rows.fnTHReadsRow.domain false) (Rows.fnTHReadsSpec.post enc Try.prog Try.f6 false true false false) := by
  refine returnsInHanded_of_change_sized (C := Try.checked) own started (by kernel_rfl) Try.func6
    (ChangeSpec.witness6 (enc := enc) (C := Try.checked) false ⟨#[], #[.int .u8 0, .int .u8 0, .int .i64 0, .string ⟨#[]⟩, .agg #[.int .u8 0, .int .u8 0], .slice none 0 0], []⟩ 8 (by kernel_rfl) (by kernel_rfl) (by kernel_rfl) (by kernel_rfl)) ?_
  intro W base args ds gs before hval0 hW hcnd hsz0 _
  have hsz : (DataW.weightsEach Try.prog (Try.f6.params.toList ++ Rows.fnTHReadsSpec.plain.varTypes Try.prog) (ds ++ gs)).all (· ≤ reachBytes) = true := hsz0
  have hval : ∀ (j : Nat) t v, Try.f6.params[j]? = some t → args[j]? = some v → Value.okWide Try.prog W .any base t v := hval0
  have hW' := hW
  obtain ⟨p, q, hA0, hV, rfl, hfz, hnd⟩ := hW
  have hA : DataW.TrodAll enc Try.prog W 0 (fun _ => true) true Try.f6.params.toList args.toList ds p := hA0
  rw [Try.params6] at hA hval hsz
  obtain ⟨v0, vs0, d0, ds0, p0, q0, hargs, rfl, rfl, h0, r0⟩ := trodAll_cons hA
  obtain ⟨v1, vs1, d1, ds1, p1, q1, rfl, rfl, rfl, h1, r1⟩ := trodAll_cons r0
  obtain ⟨v2, vs2, d2, ds2, p2, q2, rfl, rfl, rfl, h2, r2⟩ := trodAll_cons r1
  obtain ⟨v3, vs3, d3, ds3, p3, q3, rfl, rfl, rfl, h3, r3⟩ := trodAll_cons r2
  obtain ⟨v4, vs4, d4, ds4, p4, q4, rfl, rfl, rfl, h4, r4⟩ := trodAll_cons r3
  obtain ⟨v5, vs5, d5, ds5, p5, q5, rfl, rfl, rfl, h5, r5⟩ := trodAll_cons r4
  obtain ⟨rfl, rfl, rfl⟩ := trodAll_nil r5
  obtain rfl : args = #[v0, v1, v2, v3, v4, v5] := by cases args; simp_all
  obtain ⟨rfl, rfl⟩ := trodVars_none hV
  obtain ⟨a0, rfl, rfl, rfl, w0⟩ := open_int Try.underlying5 (hval 0 5 v0 rfl rfl) h0
  have g0 := bounds_u8 w0
  obtain ⟨a1, rfl, rfl, rfl, w1⟩ := open_int Try.underlying5 (hval 1 5 v1 rfl rfl) h1
  have g1 := bounds_u8 w1
  obtain ⟨a2, rfl, rfl, rfl, w2⟩ := open_int Try.underlying2 (hval 2 2 v2 rfl rfl) h2
  have g2 := bounds_i64 w2
  obtain ⟨a3, rfl, rfl, rfl, w3⟩ := open_string Try.underlying9 (hval 3 9 v3 rfl rfl) h3
  have k4 := h4
  have lt4 : ∀ x ∈ p4, x.block < W.heap.size := by obtain ⟨m, hm⟩ := k4; exact DataW.trod_lt m _ _ _ hm
  obtain ⟨a4, b4, rfl, g4, e4⟩ := open2 (hval 4 34 v4 rfl rfl)
  obtain ⟨a5, len5, cap5, rfl⟩ := okWide_slice Try.underlying26 (hval 5 26 v5 rfl rfl)
  have k5 := h5
  have lt5 : ∀ x ∈ p5, x.block < W.heap.size := by obtain ⟨m, hm⟩ := k5; exact DataW.trod_lt m _ _ _ hm
  obtain ⟨z5, w5⟩ : ∃ zs, IsRow .u8 W a5 len5 cap5 zs := by
    obtain ⟨fuel, hf⟩ := h5
    rcases open_ints Try.underlying26 Try.underlying5 (by kernel_rfl) hf with ⟨hcs, _⟩ | ⟨x, l, c, zs, hcs, _, hl, hm, hz, _, hcell, hwz⟩
    · simp [Value.cells] at hcs
      obtain ⟨rfl, rfl, rfl⟩ := hcs
      exact ⟨[], .inl ⟨rfl, rfl, rfl, rfl⟩⟩
    · simp [Value.cells] at hcs
      obtain ⟨rfl, rfl, rfl⟩ := hcs
      exact ⟨zs, .inr ⟨_, rfl, hl, hm, by simpa using hz, hcell, hwz⟩⟩
  have y5 : len5 * 1 ≤ 140737488351232 := Go.Proofs.YtmjilokgpgajjaaW.PrintWords.sized_ints hsz (j := 5) (t := 26) rfl rfl Try.underlying26 Try.underlying5 (by kernel_rfl) (by kernel_rfl) h5
  obtain ⟨ms5, ml5, mc5, C5, u5⟩ := row_C w5 y5
  clear hA0 hval0 hsz0 hsz
  refine (Th.law_reads W a0 g0.1 g0.2 a1 g1.1 g1.2 a2 g2.1 g2.2 a3 w3 a4 b4 g4.1 g4.2 e4.1 e4.2 a5 len5 cap5 ms5 ml5 (by omega) mc5 C5 u5).mono fun e W' ⟨he, bel⟩ => ?_
  subst he
  exact ⟨_, rfl, _, _, _, [], _, [], hW', trodAll_mk1 (shut_bool Try.underlying4 _), (trodAll_cons_mk (shut_int Try.underlying5 w0) (trodAll_cons_mk (shut_int Try.underlying5 w1) (trodAll_cons_mk (shut_int Try.underlying2 w2) (trodAll_cons_mk (shut_string Try.underlying9 w3) (trodAll_cons_mk (Below.trod laidOut (by kernel_rfl) (of_decide_eq_true (by kernel_rfl)) k4 bel lt4) (trodAll_cons_mk (Below.trod laidOut (by kernel_rfl) (of_decide_eq_true (by kernel_rfl)) k5 bel lt5) trodAll_mk0)))))), rfl, bel.frame _, fun h => by cases h⟩
theorem over : Rows.fnTHReadsRow.holds Try.pinned (OpenSpec.ofChange Rows.fnTHReadsSpec) :=
  OpenClaim.holds_of_wide 6 Try.f6 rfl rfl rfl rfl rfl rfl rfl ⟨rfl, rfl, rfl, rfl, rfl⟩ rfl rfl rfl rfl rfl (by kernel_rfl) Try.func6 (by kernel_rfl)
    (of_decide_eq_true (by kernel_rfl)) (by unfold Func.isWrapper; first | (rw [if_pos (by decide +kernel)]; kernel_rfl) | (rw [if_neg (by decide +kernel)]; exact ⟨rfl, rfl⟩))
    (fun os started H enc _ => lifted os started H enc)
theorem proved : Rows.FnTHReadsSaid := over
#print axioms proved
end Go.Proofs.Ytmjilokgpgajjaa.FnTHReads
namespace Go.Proofs.Ytmjilokgpgajjaa
/-- The row, under a short name, for the claim. -/
theorem fnTHReads_holds : Rows.FnTHReadsSaid := FnTHReads.proved
end Go.Proofs.Ytmjilokgpgajjaa
