/- An argument that is an array of eight numbers, opened. -/
import Derived.Test.YtmhngpihkaignaaRows
import Derived.Test.YtmhngpihkaignaaPFnIOValidx1
import Derived.WalkKit
import Derived.ProofKit
import Derived.OpenShut
namespace Go.Proofs.Ytmhngpihkaignaa.Own8
open Go.ChangeShapes Go.WideShapes Go.ChangeAt Go.RowKit
theorem types47 : Try.prog.cellTypes Try.prog.depth 47 = some (List.replicate 8 46) := by kernel_rfl
theorem cells47 : Try.prog.cellsOf 47 = 8 := by kernel_rfl
theorem wf_5 {n : Int} (h : (Lit.int .u8 n).wf = true) : 0 ≤ n ∧ n ≤ 255 := by
  simp [Lit.wf] at h
  have h1 : IntKind.u8.min = 0 := rfl
  have h2 : IntKind.u8.max = 255 := rfl
  omega
theorem wf_48 {n : Int} (h : (Lit.int .i16 n).wf = true) : -32768 ≤ n ∧ n ≤ 32767 := by
  simp [Lit.wf] at h
  have h1 : IntKind.i16.min = -32768 := rfl
  have h2 : IntKind.i16.max = 32767 := rfl
  omega
/-- An array of eight numbers, opened. -/
theorem open8 {W : World} {base : Nat} {v : Value} (h : Value.okWide Try.prog W .any base 47 v) :
    ∃ n0 n1 n2 n3 n4 n5 n6 n7 : Int, v = .agg #[.int .u16 n0, .int .u16 n1, .int .u16 n2, .int .u16 n3, .int .u16 n4, .int .u16 n5, .int .u16 n6, .int .u16 n7] ∧
      (0 ≤ n0 ∧ n0 ≤ 65535) ∧ (0 ≤ n1 ∧ n1 ≤ 65535) ∧ (0 ≤ n2 ∧ n2 ≤ 65535) ∧ (0 ≤ n3 ∧ n3 ≤ 65535) ∧ (0 ≤ n4 ∧ n4 ≤ 65535) ∧ (0 ≤ n5 ∧ n5 ≤ 65535) ∧ (0 ≤ n6 ∧ n6 ≤ 65535) ∧ (0 ≤ n7 ∧ n7 ≤ 65535) := by
  simp only [Value.okWide, Try.underlying47] at h
  obtain ⟨cs, rfl, hsz, ts, hts, -, hall⟩ := h
  rw [cells47] at hsz
  rw [types47] at hts
  obtain rfl := Option.some.inj hts
  have cell : ∀ i (hi : i < 8), ∃ n : Int, cs[i]? = some (.int .u16 n) ∧ 0 ≤ n ∧ n ≤ 65535 := by
    intro i hi
    have hlt : i < cs.size := by omega
    obtain ⟨u, hu, hc⟩ := hall i cs[i] (by simp [hlt])
    rw [List.length_replicate, Nat.mod_eq_of_lt hi, List.getElem?_replicate, if_pos hi] at hu
    obtain rfl := Option.some.inj hu
    have he : cs[i]? = some cs[i] := by simp [hlt]
    generalize cs[i] = v at hc he
    simp only [Cell.okWide, Try.underlying46] at hc
    cases v <;> simp_all [Cell.ok]
    obtain ⟨rfl, hh⟩ := hc
    unfold IntKind.has at hh
    have h1 : IntKind.u16.min = 0 := rfl
    have h2 : IntKind.u16.max = 65535 := rfl
    omega
  obtain ⟨n0, e0, w0⟩ := cell 0 (by omega)
  obtain ⟨n1, e1, w1⟩ := cell 1 (by omega)
  obtain ⟨n2, e2, w2⟩ := cell 2 (by omega)
  obtain ⟨n3, e3, w3⟩ := cell 3 (by omega)
  obtain ⟨n4, e4, w4⟩ := cell 4 (by omega)
  obtain ⟨n5, e5, w5⟩ := cell 5 (by omega)
  obtain ⟨n6, e6, w6⟩ := cell 6 (by omega)
  obtain ⟨n7, e7, w7⟩ := cell 7 (by omega)
  refine ⟨n0, n1, n2, n3, n4, n5, n6, n7, ?_, w0, w1, w2, w3, w4, w5, w6, w7⟩
  congr 1
  apply Array.ext_getElem?
  intro i
  rcases (by omega : i = 0 ∨ i = 1 ∨ i = 2 ∨ i = 3 ∨ i = 4 ∨ i = 5 ∨ i = 6 ∨ i = 7 ∨ 8 ≤ i) with rfl | rfl | rfl | rfl | rfl | rfl | rfl | rfl | hi
  · rw [e0]; rfl
  · rw [e1]; rfl
  · rw [e2]; rfl
  · rw [e3]; rfl
  · rw [e4]; rfl
  · rw [e5]; rfl
  · rw [e6]; rfl
  · rw [e7]; rfl
  · rw [Array.getElem?_eq_none (by omega), Array.getElem?_eq_none (by simpa using hi)]
end Go.Proofs.Ytmhngpihkaignaa.Own8
