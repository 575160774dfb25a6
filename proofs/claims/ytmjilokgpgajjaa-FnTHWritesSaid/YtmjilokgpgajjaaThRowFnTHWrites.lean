/- Written by throw.py (wip/tpl): the statement of FnTHWrites, for every input; with no condition. -/
import Derived.Test.YtmjilokgpgajjaaRows
import Derived.Test.YtmjilokgpgajjaaThM8
import Derived.WalkKit
import Derived.ProofKit
import Derived.OpenShut
import Derived.ShutString
import Derived.ChangeOld
import Derived.Below
import Derived.SizedLaws
import Derived.ChangeMaps5
import Derived.Test.YtmjilokgpgajjaaWSized
namespace Go.Proofs.Ytmjilokgpgajjaa.FnTHWrites
open Go.ChangeShapes Go.WideShapes Go.ChangeAt Go.RowKit
open Go.ChangeMaps (open_string shut_string)
set_option linter.unusedVariables false
theorem own : ownKnob Try.prog.godebug = none := by kernel_rfl
theorem laidOut : laidOutB Try.prog = true := by kernel_rfl
theorem types2 : Try.prog.cellTypes Try.prog.depth 34 = some (List.replicate 2 5) := by kernel_rfl
theorem cells2 : Try.prog.cellsOf 34 = 2 := by kernel_rfl
set_option maxRecDepth 100000 in
theorem open2 {W : World} {base : Nat} {v : Value} (h : Value.okWide Try.prog W .any base 34 v) :
    ∃ n0 n1 : Int, v = .agg #[.int .u8 n0, .int .u8 n1] ∧ (0 ≤ n0 ∧ n0 ≤ 255) ∧ (0 ≤ n1 ∧ n1 ≤ 255) := by
  simp only [Value.okWide, Try.underlying34] at h
  obtain ⟨cs, rfl, hsz, ts, hts, -, hall⟩ := h
  rw [cells2] at hsz
  rw [types2] at hts
  obtain rfl := Option.some.inj hts
  have cell : ∀ i (hi : i < 2), ∃ n : Int, cs[i]? = some (.int .u8 n) ∧ 0 ≤ n ∧ n ≤ 255 := by
    intro i hi
    have hlt : i < cs.size := by omega
    obtain ⟨u, hu, hc⟩ := hall i cs[i] (by simp [hlt])
    rw [List.length_replicate, Nat.mod_eq_of_lt hi, List.getElem?_replicate, if_pos hi] at hu
    obtain rfl := Option.some.inj hu
    have he : cs[i]? = some cs[i] := by simp [hlt]
    generalize cs[i] = v at hc he
    simp only [Cell.okWide, Try.underlying5] at hc
    cases v <;> simp_all [Cell.ok]
    obtain ⟨rfl, hh⟩ := hc
    unfold IntKind.has at hh
    have h1 : IntKind.u8.min = 0 := rfl
    have h2 : IntKind.u8.max = 255 := rfl
    omega
  obtain ⟨n0, e0, w0⟩ := cell 0 (by omega)
  obtain ⟨n1, e1, w1⟩ := cell 1 (by omega)
  refine ⟨n0, n1, ?_, w0, w1⟩
  congr 1
  apply Array.ext_getElem?
  intro i
  rcases (by omega : i = 0 ∨ i = 1 ∨ 2 ≤ i) with rfl | rfl | hi
  · rw [e0]; rfl
  · rw [e1]; rfl
  · rw [Array.getElem?_eq_none (by omega), Array.getElem?_eq_none (by simpa using hi)]
set_option maxRecDepth 100000 in
theorem lifted (os : Os) (started : os.Started) (H : Type) (enc : TypeId × Value → H) :
    ReturnsInHanded {} Try.checked os 5 .any (Rows.fnTHWritesSpec.pre6 enc Try.prog Try.f5 Rows.fnTHWritesRow.domain false) (Rows.fnTHWritesSpec.post enc Try.prog Try.f5 false true false false) := by
  refine returnsInHanded_of_change_sized (C := Try.checked) own started (by kernel_rfl) Try.func5
    (ChangeSpec.witness6 (enc := enc) (C := Try.checked) false ⟨#[], #[.int .u8 0, .int .u8 0, .int .i64 0, .string ⟨#[]⟩, .agg #[.int .u8 0, .int .u8 0]], []⟩ 8 (by kernel_rfl) (by kernel_rfl) (by kernel_rfl) (by kernel_rfl)) ?_
  intro W base args ds gs before hval0 hW hcnd hsz0 _
  have hsz : (DataW.weightsEach Try.prog (Try.f5.params.toList ++ Rows.fnTHWritesSpec.plain.varTypes Try.prog) (ds ++ gs)).all (· ≤ reachBytes) = true := hsz0
  have hval : ∀ (j : Nat) t v, Try.f5.params[j]? = some t → args[j]? = some v → Value.okWide Try.prog W .any base t v := hval0
  have hW' := hW
  obtain ⟨p, q, hA0, hV, rfl, hfz, hnd⟩ := hW
  have hA : DataW.TrodAll enc Try.prog W 0 (fun _ => true) true Try.f5.params.toList args.toList ds p := hA0
  rw [Try.params5] at hA hval hsz
  obtain ⟨v0, vs0, d0, ds0, p0, q0, hargs, rfl, rfl, h0, r0⟩ := trodAll_cons hA
  obtain ⟨v1, vs1, d1, ds1, p1, q1, rfl, rfl, rfl, h1, r1⟩ := trodAll_cons r0
  obtain ⟨v2, vs2, d2, ds2, p2, q2, rfl, rfl, rfl, h2, r2⟩ := trodAll_cons r1
  obtain ⟨v3, vs3, d3, ds3, p3, q3, rfl, rfl, rfl, h3, r3⟩ := trodAll_cons r2
  obtain ⟨v4, vs4, d4, ds4, p4, q4, rfl, rfl, rfl, h4, r4⟩ := trodAll_cons r3
  obtain ⟨rfl, rfl, rfl⟩ := trodAll_nil r4
  obtain rfl : args = #[v0, v1, v2, v3, v4] := by cases args; simp_all
  obtain ⟨rfl, rfl⟩ := trodVars_none hV
  obtain ⟨a0, rfl, rfl, rfl, w0⟩ := open_int Try.underlying5 (hval 0 5 v0 rfl rfl) h0
  have g0 := bounds_u8 w0
  obtain ⟨a1, rfl, rfl, rfl, w1⟩ := open_int Try.underlying5 (hval 1 5 v1 rfl rfl) h1
  have g1 := bounds_u8 w1
  obtain ⟨a2, rfl, rfl, rfl, w2⟩ := open_int Try.underlying2 (hval 2 2 v2 rfl rfl) h2
  have g2 := bounds_i64 w2
  obtain ⟨a3, rfl, rfl, rfl, w3⟩ := open_string Try.underlying9 (hval 3 9 v3 rfl rfl) h3
  have k4 := h4
  have lt4 : ∀ x ∈ p4, x.block < W.heap.size := by obtain ⟨m, hm⟩ := k4; exact DataW.trod_lt m _ _ _ hm
  obtain ⟨a4, b4, rfl, g4, e4⟩ := open2 (hval 4 34 v4 rfl rfl)
  clear hA0 hval0 hsz0 hsz
  refine (Th.law_writes W a0 g0.1 g0.2 a1 g1.1 g1.2 a2 g2.1 g2.2 a3 w3 a4 b4 g4.1 g4.2 e4.1 e4.2).mono fun e W' ⟨he, bel⟩ => ?_
  subst he
  exact ⟨_, rfl, _, _, _, [], _, [], hW', trodAll_mk1 (shut_bool Try.underlying4 _), (trodAll_cons_mk (shut_int Try.underlying5 w0) (trodAll_cons_mk (shut_int Try.underlying5 w1) (trodAll_cons_mk (shut_int Try.underlying2 w2) (trodAll_cons_mk (shut_string Try.underlying9 w3) (trodAll_cons_mk (Below.trod laidOut (by kernel_rfl) (of_decide_eq_true (by kernel_rfl)) k4 bel lt4) trodAll_mk0))))), rfl, bel.frame _, fun h => by cases h⟩
theorem over : Rows.fnTHWritesRow.holds Try.pinned (OpenSpec.ofChange Rows.fnTHWritesSpec) :=
  OpenClaim.holds_of_wide 5 Try.f5 rfl rfl rfl rfl rfl rfl rfl ⟨rfl, rfl, rfl, rfl, rfl⟩ rfl rfl rfl rfl rfl (by kernel_rfl) Try.func5 (by kernel_rfl)
    (of_decide_eq_true (by kernel_rfl)) (by unfold Func.isWrapper; first | (rw [if_pos (by decide +kernel)]; kernel_rfl) | (rw [if_neg (by decide +kernel)]; exact ⟨rfl, rfl⟩))
    (fun os started H enc _ => lifted os started H enc)
theorem proved : Rows.FnTHWritesSaid := over
#print axioms proved
end Go.Proofs.Ytmjilokgpgajjaa.FnTHWrites
namespace Go.Proofs.Ytmjilokgpgajjaa
/-- The row, under a short name, for the claim. -/
theorem fnTHWrites_holds : Rows.FnTHWritesSaid := FnTHWrites.proved
end Go.Proofs.Ytmjilokgpgajjaa
