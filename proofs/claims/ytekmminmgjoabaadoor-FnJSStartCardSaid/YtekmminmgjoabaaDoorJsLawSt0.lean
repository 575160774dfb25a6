/- Written by laws.py: the law on a text that is cut off behind a token. -/
import Derived.Test.YtekmminmgjoabaaDoorJsLawB
import Derived.Test.YtekmminmgjoabaaDoorJsCut
namespace Go.Proofs.YtekmminmgjoabaaDoor.Js
open Go.RowKit Go.Proofs.YtekmminmgjoabaaDoorW.PrintWords Go.Proofs.YtekmminmgjoabaaDoorW.PrintLast Go.Proofs.YtekmminmgjoabaaDoorW.PrintMore Go.Proofs.YtekmminmgjoabaaDoor.PFnJSTokens
set_option linter.unusedVariables false
set_option linter.unusedSimpArgs false
theorem take_front {α : Type} (a b : List α) (n : Nat) (h : n = a.length) : (a ++ b).take n = a := by subst h; exact List.take_left
/-- What is told of a text that is cut off behind token number k. -/
theorem start_pure {n : JN} (h : JOk n) (bl : List Int) (k : Nat) (hk : k < (n.toks 0 0).length) : ∃ (ls : List (Tk × Int)) (st : St) (ys : List Int) (kb : Int), TokRun ⟨[], false⟩ ys ls st [] ∧ ls.length = k + 1 ∧ (0 ≤ kb ∧ ys = (sfx bl (n.toks 0 0) 0).take ((sfx bl (n.toks 0 0) 0).length - kb.toNat) ∧ kb ≤ (sfx bl (n.toks 0 0) 0).length ∧ Bytes ys) ∧
    (∃ y : S37, ((btoks bl (n.toks 0 0) 0).map toS)[k]? = some y ∧ y.f5 = kb) ∧
    ∀ j, j < k + 1 → ∃ (x : S37) (gb : Int), ((btoks bl (n.toks 0 0) 0).map toS)[j]? = some x ∧ (ls.map toS)[j]? = some (⟨x.f0, x.f1, x.f2, x.f3, x.f4, gb, x.f6⟩ : S37) ∧ gb + kb = x.f5 ∧ 0 ≤ gb ∧ x.f5 ≤ ((sfx bl (n.toks 0 0) 0).length : Int) := by
  obtain ⟨ts, hts⟩ : ∃ ts, ts = n.toks 0 0 := ⟨_, rfl⟩
  rw [← hts] at hk ⊢
  obtain ⟨a0, tk, b, e0, hl0⟩ := split_at ts k hk
  have e1 : ts = (a0 ++ [tk]) ++ b := by rw [e0]; simp
  have hla : (a0 ++ [tk]).length = k + 1 := by simp [hl0]
  obtain ⟨st, hrun⟩ := run_cut h bl (a := a0 ++ [tk]) (b := b) (by rw [← hts]; exact e1)
  have hst := steps_node h ⟨[], false⟩ 0 0 rfl rfl rfl
  rw [← hts, e1] at hst
  obtain ⟨c, h1, -⟩ := hst.split
  have hsf : sfx bl ts 0 = wtext bl (a0 ++ [tk]) 0 ++ sfx bl b (k + 1) := by rw [e1, sfx_append, hla, Nat.zero_add]
  refine ⟨_, st, wtext bl (a0 ++ [tk]) 0, ((sfx bl b (k + 1)).length : Int), hrun, by rw [wrun_length, hla], ⟨by omega, ?_, by rw [hsf, List.length_append]; omega, text_is_bytes bl h1 0⟩, ?_, fun j hj => ?_⟩
  · rw [hsf, take_front _ _ _ (by rw [List.length_append]; simp)]
  · have := btoks_at bl a0 tk b 0
    rw [← e0, hl0, Nat.zero_add] at this
    refine ⟨_, by rw [List.getElem?_map, this]; rfl, rfl⟩
  · obtain ⟨a, t, c, e2, hl2⟩ := split_at (a0 ++ [tk]) j (by rw [hla]; exact hj)
    have hb := btoks_at bl a t (c ++ b) 0
    have e3 : a ++ t :: (c ++ b) = ts := by rw [e1, e2]; simp
    rw [e3, hl2, Nat.zero_add] at hb
    have hw := wrun_at bl [] a t c 0
    rw [← e2, hl2, Nat.zero_add, List.append_nil] at hw
    have hc := cut_behind bl a t c b
    rw [← e2, hla, hl2] at hc
    refine ⟨toS (t, ((sfx bl (c ++ b) (j + 1)).length : Int)), ((wtext bl c (j + 1)).length : Int), by rw [List.getElem?_map, hb]; rfl, by rw [List.getElem?_map, hw]; rfl, hc, by omega, ?_⟩
    have e4 : sfx bl ts 0 = wtext bl (a ++ [t]) 0 ++ sfx bl (c ++ b) (j + 1) := by
      rw [← e3, show a ++ t :: (c ++ b) = (a ++ [t]) ++ (c ++ b) by simp, sfx_append]
      simp [hl2]
    show ((sfx bl (c ++ b) (j + 1)).length : Int) ≤ _
    rw [e4, List.length_append]; omega
theorem str_take (zs : List Int) (e : Nat) : (strOfNums zs).extract 0 e = strOfNums (zs.take e) := by
  rw [ByteArray.ext_iff, ByteArray.data_extract]
  simp [strOfNums, List.map_take]
end Go.Proofs.YtekmminmgjoabaaDoor.Js
