/- Rows of tokens that are cut, and texts behind a value: pure. What the laws on tokens share: the made value's bounds, its text's bytes, the tokens of its text. -/
import Derived.Test.YtekmminmgjoabaaDoorYRt
import Derived.Test.YtekmminmgjoabaaDoorYRw
namespace Go.Proofs.YtekmminmgjoabaaDoor.Js
open Go.RowKit Go.Proofs.YtekmminmgjoabaaDoorW.PrintWords Go.Proofs.YtekmminmgjoabaaDoorW.PrintLast Go.Proofs.YtekmminmgjoabaaDoorW.PrintMore Go.Proofs.YtekmminmgjoabaaDoor.PFnJSTokens
set_option linter.unusedVariables false
set_option linter.unusedSimpArgs false
theorem Steps.split : ∀ {l m : List Tk} {a b : St}, Steps a (l ++ m) b → ∃ c, Steps a l c ∧ Steps c m b := by
  intro l
  induction l with
  | nil => intro m a b h; exact ⟨a, .nil _, h⟩
  | cons t l ih =>
    intro m a b h
    rw [List.cons_append] at h
    generalize he : t :: (l ++ m) = x at h
    cases h with
    | nil => cases he
    | cons h1 h2 h3 =>
      injection he with e1 e2
      subst e1 e2
      obtain ⟨c, hc1, hc2⟩ := ih h3
      exact ⟨c, .cons h1 h2 hc1, hc2⟩
theorem wtext_append (bl : List Int) : ∀ (a b : List Tk) (k : Nat), wtext bl (a ++ b) k = wtext bl a k ++ wtext bl b (k + a.length) := by
  intro a
  induction a with
  | nil => intro b k; simp [wtext]
  | cons t a ih => intro b k; simp [wtext, ih, Nat.add_comm, Nat.add_left_comm]
theorem blk_none (k : Nat) : blk [] k = [] := by unfold blk; rw [if_pos rfl]
theorem sfx_none (ts : List Tk) (k : Nat) : sfx [] ts k = wtext [] ts k := by
  unfold sfx; rw [blk_none, List.append_nil]
theorem wtext_none : ∀ (ts : List Tk) (k j : Nat), wtext [] ts k = wtext [] ts j := by
  intro ts
  induction ts with
  | nil => intro k j; rfl
  | cons t ts ih => intro k j; rw [wtext, wtext, blk_none, blk_none, ih (k + 1) (j + 1)]
end Go.Proofs.YtekmminmgjoabaaDoor.Js

namespace Go.Proofs.YtekmminmgjoabaaDoor.Js
open Go.RowKit Go.Proofs.YtekmminmgjoabaaDoorW.PrintWords Go.Proofs.YtekmminmgjoabaaDoorW.PrintLast Go.Proofs.YtekmminmgjoabaaDoorW.PrintMore Go.Proofs.YtekmminmgjoabaaDoor.PFnJSTokens
set_option linter.unusedVariables false
set_option linter.unusedSimpArgs false
theorem made_ok {code : List Int} (h : Bytes code) : JOk (jsN code) ∧ vlen ((jsN code).toks 0 0) ≤ 2900000 ∧ ((jsN code).toks 0 0).length ≤ 2900000 := by
  obtain ⟨h1, h2, -⟩ := node_ok 6 code 40 h
  have h3 := toks_len h1 0 0
  have h4 := (steps_node h1 ⟨[], false⟩ 0 0 rfl rfl rfl).long
  have := lenB6
  exact ⟨h1, by show vlen ((nodeF 6 code 40).1.toks 0 0) ≤ _; omega, by show ((nodeF 6 code 40).1.toks 0 0).length ≤ _; omega⟩
theorem sfx_le {code : List Int} (h : Bytes code) (bl : List Int) : (sfx bl ((jsN code).toks 0 0) 0).length ≤ 9000000 := by
  have := sfx_len bl ((jsN code).toks 0 0) 0
  have := made_ok h
  omega
theorem Str.bytes {l : List Int} (h : Str l) : Bytes l := by
  induction h with
  | nil => intro c hc; simp at hc
  | raw h1 h2 _ _ _ ih =>
    intro c hc
    rcases List.mem_cons.1 hc with rfl | hc
    · omega
    · exact ih c hc
  | esc h1 _ ih =>
    intro c hc
    rcases List.mem_cons.1 hc with rfl | hc
    · decide
    rcases List.mem_cons.1 hc with rfl | hc
    · omega
    · exact ih c hc
  | uni ha hb hc' hd _ ih =>
    intro c hc
    have hx : ∀ x, Hex x → 0 ≤ x ∧ x ≤ 255 := fun x h => by unfold Hex at h; omega
    rcases List.mem_cons.1 hc with rfl | hc
    · decide
    rcases List.mem_cons.1 hc with rfl | hc
    · decide
    rcases List.mem_cons.1 hc with rfl | hc
    · exact hx _ ha
    rcases List.mem_cons.1 hc with rfl | hc
    · exact hx _ hb
    rcases List.mem_cons.1 hc with rfl | hc
    · exact hx _ hc'
    rcases List.mem_cons.1 hc with rfl | hc
    · exact hx _ hd
    · exact ih c hc
theorem bytes_append {a b : List Int} (h : Bytes a) (h' : Bytes b) : Bytes (a ++ b) := fun c hc => by
  rcases List.mem_append.1 hc with hc | hc
  · exact h c hc
  · exact h' c hc
theorem digits_bytes {l : List Int} (h : Digits l) : Bytes l := fun c hc => by have := h.2 c hc; unfold Digit at this; omega
theorem Plain.bytes {k : Int} {v : List Int} (h : Plain k v) : Bytes v := by
  have hlit : ∀ l : List Int, (∀ c ∈ l, 0 ≤ c ∧ c ≤ 255) → Bytes l := fun l h => h
  cases h with
  | null => exact hlit _ (by decide)
  | yes => exact hlit _ (by decide)
  | no => exact hlit _ (by decide)
  | num h =>
    cases h with
    | @mk s i f e hs hi hf he =>
      refine bytes_append (bytes_append (bytes_append ?_ ?_) ?_) ?_
      · rcases hs with rfl | rfl <;> exact hlit _ (by decide)
      · rcases hi with rfl | ⟨h, -⟩
        · exact hlit _ (by decide)
        · exact digits_bytes h
      · rcases hf with rfl | ⟨t, rfl, h⟩
        · exact hlit _ (by decide)
        · exact bytes_append (a := [46]) (hlit _ (by decide)) (digits_bytes h)
      · rcases he with rfl | ⟨x, s, t, rfl, hx, hs, h⟩
        · exact hlit _ (by decide)
        · refine bytes_append (a := [x]) (hlit _ (by intro c hc; simp at hc; omega)) (bytes_append ?_ (digits_bytes h))
          rcases hs with rfl | rfl | rfl <;> exact hlit _ (by decide)
  | str h => exact bytes_append (a := [34]) (hlit _ (by decide)) (bytes_append h.bytes (hlit _ (by decide)))
theorem Good.bytes {c : Int} {v : List Int} {k : Int} (h : Good c v k) : Bytes v := by
  have hlit : ∀ l : List Int, (∀ c ∈ l, 0 ≤ c ∧ c ≤ 255) → Bytes l := fun l h => h
  cases h with
  | plain h => exact h.bytes
  | _ => exact hlit _ (by decide)
theorem blank_bytes {l : List Int} (h : ∀ c ∈ l, Blank c) : Bytes l := fun c hc => by rcases h c hc with rfl | rfl | rfl | rfl <;> decide
theorem text_is_bytes (bl : List Int) {st st2 : St} {ts : List Tk} (h : Steps st ts st2) : ∀ k, Bytes (wtext bl ts k) := by
  induction h with
  | nil st => intro k c hc; simp [wtext] at hc
  | cons ha hg hst ih =>
    intro k
    exact bytes_append (blank_bytes (fun c hc => blk_blank bl _ c hc)) (bytes_append hg.bytes (ih (k + 1)))
theorem sfx_bytes {n : JN} (h : JOk n) (bl : List Int) : Bytes (sfx bl (n.toks 0 0) 0) :=
  bytes_append (text_is_bytes bl (steps_node h ⟨[], false⟩ 0 0 rfl rfl rfl) 0) (blank_bytes (fun c hc => blk_blank bl _ c hc))
end Go.Proofs.YtekmminmgjoabaaDoor.Js

