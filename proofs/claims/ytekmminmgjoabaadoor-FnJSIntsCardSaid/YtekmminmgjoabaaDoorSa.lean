/- Rows of tokens that are cut, and texts behind a value: pure. What the laws on tokens share: the made value's bounds, its text's bytes, the tokens of its text. -/
import Derived.Test.YtekmminmgjoabaaDoorRt
import Derived.Test.YtekmminmgjoabaaDoorRw
namespace Go.Proofs.YtekmminmgjoabaaDoor.Js
open Go.RowKit Go.Proofs.YtekmminmgjoabaaDoorW.PrintWords Go.Proofs.YtekmminmgjoabaaDoorW.PrintLast Go.Proofs.YtekmminmgjoabaaDoorW.PrintMore Go.Proofs.YtekmminmgjoabaaDoor.PFnJSTokens
set_option linter.unusedVariables false
set_option linter.unusedSimpArgs false
theorem Steps.split : ∀ {l m : List Tk} {a b : St}, Steps a (l ++ m) b → ∃ c, Steps a l c ∧ Steps c m b := by
  intro l
  induction l with
  | nil => intro m a b h; exact ⟨a, .nil _, h⟩
  | cons t l ih =>
    intro m a b h
    rw [List.cons_append] at h
    generalize he : t :: (l ++ m) = x at h
    cases h with
    | nil => cases he
    | cons h1 h2 h3 =>
      injection he with e1 e2
      subst e1 e2
      obtain ⟨c, hc1, hc2⟩ := ih h3
      exact ⟨c, .cons h1 h2 hc1, hc2⟩
theorem wtext_append (bl : List Int) : ∀ (a b : List Tk) (k : Nat), wtext bl (a ++ b) k = wtext bl a k ++ wtext bl b (k + a.length) := by
  intro a
  induction a with
  | nil => intro b k; simp [wtext]
  | cons t a ih => intro b k; simp [wtext, ih, Nat.add_comm, Nat.add_left_comm]
theorem sfx_append (bl : List Int) (a b : List Tk) (k : Nat) : sfx bl (a ++ b) k = wtext bl a k ++ sfx bl b (k + a.length) := by
  unfold sfx
  rw [wtext_append, List.append_assoc, List.length_append, Nat.add_assoc]
theorem btoks_at (bl : List Int) : ∀ (a : List Tk) (t : Tk) (b : List Tk) (k : Nat), (btoks bl (a ++ t :: b) k)[a.length]? = some (t, ((sfx bl b (k + a.length + 1)).length : Int)) := by
  intro a
  induction a with
  | nil => intro t b k; simp [btoks]
  | cons x a ih =>
    intro t b k
    have := ih t b (k + 1)
    simp only [List.cons_append, btoks, List.length_cons, List.getElem?_cons_succ]
    rw [this, show k + 1 + a.length + 1 = k + (a.length + 1) + 1 by omega]
theorem wrun_length (bl tail : List Int) : ∀ (ts : List Tk) (k : Nat), (wrun bl tail ts k).length = ts.length := by
  intro ts
  induction ts with
  | nil => intro k; rfl
  | cons t ts ih => intro k; simp [wrun, ih]
theorem wrun_at (bl tail : List Int) : ∀ (a : List Tk) (t : Tk) (b : List Tk) (k : Nat), (wrun bl tail (a ++ t :: b) k)[a.length]? = some (t, ((wtext bl b (k + a.length + 1) ++ tail).length : Int)) := by
  intro a
  induction a with
  | nil => intro t b k; simp [wrun]
  | cons x a ih =>
    intro t b k
    have := ih t b (k + 1)
    simp only [List.cons_append, wrun, List.length_cons, List.getElem?_cons_succ]
    rw [this, show k + 1 + a.length + 1 = k + (a.length + 1) + 1 by omega]
theorem split_at {α : Type} (l : List α) (i : Nat) (h : i < l.length) : ∃ a t b, l = a ++ t :: b ∧ a.length = i :=
  ⟨l.take i, l[i], l.drop (i + 1), by rw [← List.drop_eq_getElem_cons h, List.take_append_drop], by rw [List.length_take]; omega⟩
theorem Sp_front {p : Bool} {a b : List Tk} (h : Sp p (a ++ b)) : Sp p a := ((Sp_append a b p).1 h).1
/-- A text that is cut off behind a token. -/
theorem run_cut {n : JN} (h : JOk n) (bl : List Int) {a b : List Tk} (e : n.toks 0 0 = a ++ b) : ∃ st, TokRun ⟨[], false⟩ (wtext bl a 0) (wrun bl [] a 0) st [] := by
  have hst := steps_node h ⟨[], false⟩ 0 0 rfl rfl rfl
  have hsp := sp_toks h 0 0
  rw [e] at hst hsp
  obtain ⟨c, h1, h2⟩ := hst.split
  have := run_text bl [] (fun c t e => by cases e) h1 0 false (Sp_front hsp)
  rw [List.append_nil] at this
  exact ⟨c, this⟩
/-- .. and the places of its tokens. -/
theorem cut_behind (bl : List Int) (a : List Tk) (t : Tk) (c b : List Tk) : ((wtext bl c (a.length + 1)).length : Int) + ((sfx bl b ((a ++ t :: c).length)).length : Int) = ((sfx bl (c ++ b) (a.length + 1)).length : Int) := by
  have e : a.length + 1 + c.length = (a ++ t :: c).length := by simp only [List.length_append, List.length_cons]; omega
  rw [sfx_append, e]
  simp only [List.length_append, Int.natCast_add]
/-- A value's text with something behind it. -/
theorem run_more {n : JN} (h : JOk n) (tail : List Int) (ht : NumEnd tail) : TokRun ⟨[], false⟩ (wtext [] (n.toks 0 0) 0 ++ tail) (wrun [] tail (n.toks 0 0) 0) ⟨[], false⟩ tail :=
  run_text [] tail ht (steps_node h ⟨[], false⟩ 0 0 rfl rfl rfl) 0 false (sp_toks h 0 0)
theorem blk_none (k : Nat) : blk [] k = [] := by unfold blk; rw [if_pos rfl]
theorem sfx_none (ts : List Tk) (k : Nat) : sfx [] ts k = wtext [] ts k := by
  unfold sfx; rw [blk_none, List.append_nil]
theorem wtext_none : ∀ (ts : List Tk) (k j : Nat), wtext [] ts k = wtext [] ts j := by
  intro ts
  induction ts with
  | nil => intro k j; rfl
  | cons t ts ih => intro k j; rw [wtext, wtext, blk_none, blk_none, ih (k + 1) (j + 1)]
/-- A value within an open array. -/
theorem run_inArr {n : JN} (h : JOk n) (tail : List Int) (ht : NumEnd tail) : TokRun ⟨[], false⟩ (91 :: (wtext [] (n.toks 1 0) 0 ++ tail)) (wrun [] tail (tkDelim 91 0 0 5 :: n.toks 1 0) 0) ⟨[(false, 1)], false⟩ tail := by
  have h1 : Steps ⟨[], false⟩ (tkDelim 91 0 0 5 :: n.toks 1 0) ⟨[(false, 1)], false⟩ :=
    Steps.append (l := [tkDelim 91 0 0 5]) (Steps.one' (c := 91) (v := [91]) (k := 5) rfl .arr rfl) (steps_node h ⟨[(false, 1)], false⟩ 1 0 rfl rfl rfl)
  have h2 := run_text [] tail ht h1 0 false ⟨(fun h => by cases h), sp_toks h 1 0⟩
  rw [wtext, blk_none, wtext_none _ 1 0] at h2
  simpa [tkDelim] using h2
/-- A value within an open object, behind its first key. -/
theorem run_inObj {n : JN} (h : JOk n) (tail : List Int) (ht : NumEnd tail) : TokRun ⟨[], false⟩ (123 :: 34 :: 107 :: 34 :: 58 :: (wtext [] (n.toks 1 0) 0 ++ tail)) (wrun [] tail (tkDelim 123 0 0 6 :: ⟨0, [34, 107, 34], 1, 0, true, 4⟩ :: tkDelim 58 1 0 0 :: n.toks 1 0) 0) ⟨[(true, 1)], false⟩ tail := by
  have hs : Plain 4 [34, 107, 34] := .str (l := [107]) (.raw (by decide) (by decide) (by decide) (by decide) .nil)
  have h1 : Steps ⟨[], false⟩ (tkDelim 123 0 0 6 :: ⟨0, [34, 107, 34], 1, 0, true, 4⟩ :: tkDelim 58 1 0 0 :: n.toks 1 0) ⟨[(true, 1)], false⟩ :=
    Steps.append (l := [tkDelim 123 0 0 6]) (Steps.one' (c := 123) (v := [123]) (k := 6) rfl .obj rfl)
      (Steps.append (l := [⟨0, [34, 107, 34], 1, 0, true, 4⟩]) (Steps.one' (st := ⟨[(true, 1)], true⟩) (c := 0) (v := [34, 107, 34]) (k := 4) rfl (.plain hs) rfl)
        (Steps.append (l := [tkDelim 58 1 0 0]) (Steps.one' (c := 58) (v := [58]) (k := 0) rfl .colon rfl) (steps_node h ⟨[(true, 1)], false⟩ 1 0 rfl rfl rfl)))
  have h2 := run_text [] tail ht h1 0 false ⟨(fun h => by cases h), (fun h => by cases h), (fun _ => by simp [tkDelim]), sp_toks h 1 0⟩
  rw [wtext, wtext, wtext, blk_none, blk_none, blk_none, wtext_none _ _ 0] at h2
  simpa [tkDelim] using h2
/-- The depth and the index of a value's tokens turn nothing in its text. -/
theorem vals_items (ob : Bool) : ∀ (items : List JN) (keys : List (List Int)) (d d' j : Int), (∀ x ∈ items, ∀ d i d' i', (x.toks d i).map Tk.val = (x.toks d' i').map Tk.val) → (JN.itoks items keys ob d j).map Tk.val = (JN.itoks items keys ob d' j).map Tk.val := by
  intro items
  induction items with
  | nil => intro keys d d' j h; rfl
  | cons x xs ih =>
    intro keys d d' j h
    have h1 := h x List.mem_cons_self (d + 1) j (d' + 1) j
    have h2 := ih keys.tail d d' (j + 1) (fun y hy => h y (List.mem_cons_of_mem _ hy))
    simp only [JN.itoks, List.map_append, h1, h2]
    congr 1
    · split <;> rfl
    · congr 1
      cases ob <;> rfl
theorem vals_toks {n : JN} (h : JOk n) : ∀ d i d' i', (n.toks d i).map Tk.val = (n.toks d' i').map Tk.val := by
  induction h with
  | leaf hp =>
    intro d i d' i'
    have := hp.kind
    rw [JN.toks, JN.toks, if_pos (by omega), if_pos (by omega)]
    rfl
  | arr hx ih =>
    intro d i d' i'
    rw [JN.toks, JN.toks, if_neg (by omega), if_neg (by omega), if_neg (by omega), if_neg (by omega)]
    simp only [List.map_cons, List.map_append, tkDelim, vals_items false _ _ d d' 0 ih, List.map_nil]
  | obj hne hl hks hx ih =>
    intro d i d' i'
    rw [JN.toks, JN.toks, if_neg (by omega), if_pos rfl, if_neg (by omega), if_pos rfl]
    simp only [List.map_cons, List.map_append, tkDelim, vals_items true _ _ d d' 0 ih, List.map_nil]
theorem wtext_vals : ∀ (a b : List Tk) (k : Nat), a.map Tk.val = b.map Tk.val → wtext [] a k = wtext [] b k := by
  intro a
  induction a with
  | nil => intro b k h; cases b with
    | nil => rfl
    | cons t b => cases h
  | cons t a ih =>
    intro b k h
    cases b with
    | nil => cases h
    | cons u b =>
      simp only [List.map_cons, List.cons.injEq] at h
      rw [wtext, wtext, h.1, ih b (k + 1) h.2]
theorem text_at {n : JN} (h : JOk n) (d i : Int) : wtext [] (n.toks d i) 0 = wtext [] (n.toks 0 0) 0 := wtext_vals _ _ 0 (vals_toks h d i 0 0)
end Go.Proofs.YtekmminmgjoabaaDoor.Js

namespace Go.Proofs.YtekmminmgjoabaaDoor.Js
open Go.RowKit Go.Proofs.YtekmminmgjoabaaDoorW.PrintWords Go.Proofs.YtekmminmgjoabaaDoorW.PrintLast Go.Proofs.YtekmminmgjoabaaDoorW.PrintMore Go.Proofs.YtekmminmgjoabaaDoor.PFnJSTokens
set_option linter.unusedVariables false
set_option linter.unusedSimpArgs false
theorem made_ok {code : List Int} (h : Bytes code) : JOk (jsN code) ∧ vlen ((jsN code).toks 0 0) ≤ 2900000 ∧ ((jsN code).toks 0 0).length ≤ 2900000 := by
  obtain ⟨h1, h2, -⟩ := node_ok 6 code 40 h
  have h3 := toks_len h1 0 0
  have h4 := (steps_node h1 ⟨[], false⟩ 0 0 rfl rfl rfl).long
  have := lenB6
  exact ⟨h1, by show vlen ((nodeF 6 code 40).1.toks 0 0) ≤ _; omega, by show ((nodeF 6 code 40).1.toks 0 0).length ≤ _; omega⟩
theorem sfx_le {code : List Int} (h : Bytes code) (bl : List Int) : (sfx bl ((jsN code).toks 0 0) 0).length ≤ 9000000 := by
  have := sfx_len bl ((jsN code).toks 0 0) 0
  have := made_ok h
  omega
theorem Str.bytes {l : List Int} (h : Str l) : Bytes l := by
  induction h with
  | nil => intro c hc; simp at hc
  | raw h1 h2 _ _ _ ih =>
    intro c hc
    rcases List.mem_cons.1 hc with rfl | hc
    · omega
    · exact ih c hc
  | esc h1 _ ih =>
    intro c hc
    rcases List.mem_cons.1 hc with rfl | hc
    · decide
    rcases List.mem_cons.1 hc with rfl | hc
    · omega
    · exact ih c hc
  | uni ha hb hc' hd _ ih =>
    intro c hc
    have hx : ∀ x, Hex x → 0 ≤ x ∧ x ≤ 255 := fun x h => by unfold Hex at h; omega
    rcases List.mem_cons.1 hc with rfl | hc
    · decide
    rcases List.mem_cons.1 hc with rfl | hc
    · decide
    rcases List.mem_cons.1 hc with rfl | hc
    · exact hx _ ha
    rcases List.mem_cons.1 hc with rfl | hc
    · exact hx _ hb
    rcases List.mem_cons.1 hc with rfl | hc
    · exact hx _ hc'
    rcases List.mem_cons.1 hc with rfl | hc
    · exact hx _ hd
    · exact ih c hc
theorem bytes_append {a b : List Int} (h : Bytes a) (h' : Bytes b) : Bytes (a ++ b) := fun c hc => by
  rcases List.mem_append.1 hc with hc | hc
  · exact h c hc
  · exact h' c hc
theorem digits_bytes {l : List Int} (h : Digits l) : Bytes l := fun c hc => by have := h.2 c hc; unfold Digit at this; omega
theorem Plain.bytes {k : Int} {v : List Int} (h : Plain k v) : Bytes v := by
  have hlit : ∀ l : List Int, (∀ c ∈ l, 0 ≤ c ∧ c ≤ 255) → Bytes l := fun l h => h
  cases h with
  | null => exact hlit _ (by decide)
  | yes => exact hlit _ (by decide)
  | no => exact hlit _ (by decide)
  | num h =>
    cases h with
    | @mk s i f e hs hi hf he =>
      refine bytes_append (bytes_append (bytes_append ?_ ?_) ?_) ?_
      · rcases hs with rfl | rfl <;> exact hlit _ (by decide)
      · rcases hi with rfl | ⟨h, -⟩
        · exact hlit _ (by decide)
        · exact digits_bytes h
      · rcases hf with rfl | ⟨t, rfl, h⟩
        · exact hlit _ (by decide)
        · exact bytes_append (a := [46]) (hlit _ (by decide)) (digits_bytes h)
      · rcases he with rfl | ⟨x, s, t, rfl, hx, hs, h⟩
        · exact hlit _ (by decide)
        · refine bytes_append (a := [x]) (hlit _ (by intro c hc; simp at hc; omega)) (bytes_append ?_ (digits_bytes h))
          rcases hs with rfl | rfl | rfl <;> exact hlit _ (by decide)
  | str h => exact bytes_append (a := [34]) (hlit _ (by decide)) (bytes_append h.bytes (hlit _ (by decide)))
theorem Good.bytes {c : Int} {v : List Int} {k : Int} (h : Good c v k) : Bytes v := by
  have hlit : ∀ l : List Int, (∀ c ∈ l, 0 ≤ c ∧ c ≤ 255) → Bytes l := fun l h => h
  cases h with
  | plain h => exact h.bytes
  | _ => exact hlit _ (by decide)
theorem blank_bytes {l : List Int} (h : ∀ c ∈ l, Blank c) : Bytes l := fun c hc => by rcases h c hc with rfl | rfl | rfl | rfl <;> decide
theorem text_is_bytes (bl : List Int) {st st2 : St} {ts : List Tk} (h : Steps st ts st2) : ∀ k, Bytes (wtext bl ts k) := by
  induction h with
  | nil st => intro k c hc; simp [wtext] at hc
  | cons ha hg hst ih =>
    intro k
    exact bytes_append (blank_bytes (fun c hc => blk_blank bl _ c hc)) (bytes_append hg.bytes (ih (k + 1)))
theorem sfx_bytes {n : JN} (h : JOk n) (bl : List Int) : Bytes (sfx bl (n.toks 0 0) 0) :=
  bytes_append (text_is_bytes bl (steps_node h ⟨[], false⟩ 0 0 rfl rfl rfl) 0) (blank_bytes (fun c hc => blk_blank bl _ c hc))
/-- The tokens of a value's text. -/
theorem doorTok (w : World) (A : Option Addr) (m c : Nat) (code bl zs : List Int) (hc : Bytes code) (hz : zs = sfx bl ((jsN code).toks 0 0) 0) (hs : Sl w w.heap.size (.slice A m c) zs) (ht : Tab w) :
    Calls Tryd.prog 18 #[.slice A m c] w fun e w' => ∃ v, e = .returned (.tuple #[v, .bool true]) ∧ k37.R 37 w' w.heap.size (fun _ => True) v ((btoks bl ((jsN code).toks 0 0) 0).map toS) ∧ Below w.heap.size w w' := by
  obtain ⟨h1, h2, h3⟩ := made_ok hc
  have hl := sfx_le hc bl
  subst hz
  exact jsTok w A m c _ _ ⟨[], false⟩ _ true hs (sfx_bytes h1 bl) (by omega) (run_node h1 bl) (by rw [btoks_length]; omega) ht (fun W T p q hT hb hst _ => end_last W w.heap.size T _ _ p q hT hst (fun c hc => blank_sp (blk_blank bl _ c hc)))
end Go.Proofs.YtekmminmgjoabaaDoor.Js
