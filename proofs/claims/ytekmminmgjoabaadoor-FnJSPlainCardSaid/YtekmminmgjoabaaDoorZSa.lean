/- Rows of tokens that are cut, and texts behind a value: pure. What the laws on tokens share: the made value's bounds, its text's bytes, the tokens of its text. -/
import Derived.Test.YtekmminmgjoabaaDoorZRt
import Derived.Test.YtekmminmgjoabaaDoorZRw
namespace Go.Proofs.YtekmminmgjoabaaDoor.Js
open Go.RowKit Go.Proofs.YtekmminmgjoabaaDoorW.PrintWords Go.Proofs.YtekmminmgjoabaaDoorW.PrintLast Go.Proofs.YtekmminmgjoabaaDoorW.PrintMore Go.Proofs.YtekmminmgjoabaaDoor.PFnJSTokens
set_option linter.unusedVariables false
set_option linter.unusedSimpArgs false
theorem Steps.split : ∀ {l m : List Tk} {a b : St}, Steps a (l ++ m) b → ∃ c, Steps a l c ∧ Steps c m b := by
  intro l
  induction l with
  | nil => intro m a b h; exact ⟨a, .nil _, h⟩
  | cons t l ih =>
    intro m a b h
    rw [List.cons_append] at h
    generalize he : t :: (l ++ m) = x at h
    cases h with
    | nil => cases he
    | cons h1 h2 h3 =>
      injection he with e1 e2
      subst e1 e2
      obtain ⟨c, hc1, hc2⟩ := ih h3
      exact ⟨c, .cons h1 h2 hc1, hc2⟩
end Go.Proofs.YtekmminmgjoabaaDoor.Js

namespace Go.Proofs.YtekmminmgjoabaaDoor.Js
open Go.RowKit Go.Proofs.YtekmminmgjoabaaDoorW.PrintWords Go.Proofs.YtekmminmgjoabaaDoorW.PrintLast Go.Proofs.YtekmminmgjoabaaDoorW.PrintMore Go.Proofs.YtekmminmgjoabaaDoor.PFnJSTokens
set_option linter.unusedVariables false
set_option linter.unusedSimpArgs false
theorem Str.bytes {l : List Int} (h : Str l) : Bytes l := by
  induction h with
  | nil => intro c hc; simp at hc
  | raw h1 h2 _ _ _ ih =>
    intro c hc
    rcases List.mem_cons.1 hc with rfl | hc
    · omega
    · exact ih c hc
  | esc h1 _ ih =>
    intro c hc
    rcases List.mem_cons.1 hc with rfl | hc
    · decide
    rcases List.mem_cons.1 hc with rfl | hc
    · omega
    · exact ih c hc
  | uni ha hb hc' hd _ ih =>
    intro c hc
    have hx : ∀ x, Hex x → 0 ≤ x ∧ x ≤ 255 := fun x h => by unfold Hex at h; omega
    rcases List.mem_cons.1 hc with rfl | hc
    · decide
    rcases List.mem_cons.1 hc with rfl | hc
    · decide
    rcases List.mem_cons.1 hc with rfl | hc
    · exact hx _ ha
    rcases List.mem_cons.1 hc with rfl | hc
    · exact hx _ hb
    rcases List.mem_cons.1 hc with rfl | hc
    · exact hx _ hc'
    rcases List.mem_cons.1 hc with rfl | hc
    · exact hx _ hd
    · exact ih c hc
theorem bytes_append {a b : List Int} (h : Bytes a) (h' : Bytes b) : Bytes (a ++ b) := fun c hc => by
  rcases List.mem_append.1 hc with hc | hc
  · exact h c hc
  · exact h' c hc
theorem digits_bytes {l : List Int} (h : Digits l) : Bytes l := fun c hc => by have := h.2 c hc; unfold Digit at this; omega
theorem Plain.bytes {k : Int} {v : List Int} (h : Plain k v) : Bytes v := by
  have hlit : ∀ l : List Int, (∀ c ∈ l, 0 ≤ c ∧ c ≤ 255) → Bytes l := fun l h => h
  cases h with
  | null => exact hlit _ (by decide)
  | yes => exact hlit _ (by decide)
  | no => exact hlit _ (by decide)
  | num h =>
    cases h with
    | @mk s i f e hs hi hf he =>
      refine bytes_append (bytes_append (bytes_append ?_ ?_) ?_) ?_
      · rcases hs with rfl | rfl <;> exact hlit _ (by decide)
      · rcases hi with rfl | ⟨h, -⟩
        · exact hlit _ (by decide)
        · exact digits_bytes h
      · rcases hf with rfl | ⟨t, rfl, h⟩
        · exact hlit _ (by decide)
        · exact bytes_append (a := [46]) (hlit _ (by decide)) (digits_bytes h)
      · rcases he with rfl | ⟨x, s, t, rfl, hx, hs, h⟩
        · exact hlit _ (by decide)
        · refine bytes_append (a := [x]) (hlit _ (by intro c hc; simp at hc; omega)) (bytes_append ?_ (digits_bytes h))
          rcases hs with rfl | rfl | rfl <;> exact hlit _ (by decide)
  | str h => exact bytes_append (a := [34]) (hlit _ (by decide)) (bytes_append h.bytes (hlit _ (by decide)))
theorem Good.bytes {c : Int} {v : List Int} {k : Int} (h : Good c v k) : Bytes v := by
  have hlit : ∀ l : List Int, (∀ c ∈ l, 0 ≤ c ∧ c ≤ 255) → Bytes l := fun l h => h
  cases h with
  | plain h => exact h.bytes
  | _ => exact hlit _ (by decide)
end Go.Proofs.YtekmminmgjoabaaDoor.Js

