/- The text of a value without blanks, by its shape. -/
import Derived.Test.YtekmminmgjoabaaDoorJsCut
import Derived.Test.YtekmminmgjoabaaDoorJsLawB
import Derived.Test.YtekmminmgjoabaaDoorJsRaw
namespace Go.Proofs.YtekmminmgjoabaaDoor.Js
open Go.RowKit Go.Proofs.YtekmminmgjoabaaDoorW.PrintWords Go.Proofs.YtekmminmgjoabaaDoorW.PrintLast Go.Proofs.YtekmminmgjoabaaDoorW.PrintMore Go.Proofs.YtekmminmgjoabaaDoor.PFnJSTokens
set_option linter.unusedVariables false
set_option linter.unusedSimpArgs false
mutual
/-- A value's text. -/
def JN.txt : JN → List Int
  | .mk k t items keys =>
    if k < 5 then t
    else if k = 6 then 123 :: (JN.itxt items keys true 0 ++ [125])
    else 91 :: (JN.itxt items keys false 0 ++ [93])
/-- .. of its items, from number j on. -/
def JN.itxt : List JN → List (List Int) → Bool → Int → List Int
  | [], _, _, _ => []
  | x :: xs, keys, ob, j => (if 0 < j then [44] else []) ++ ((if ob then keys.headD [] ++ [58] else []) ++ (x.txt ++ JN.itxt xs keys.tail ob (j + 1)))
end
theorem itxt_items (ob : Bool) : ∀ (items : List JN) (keys : List (List Int)) (d j : Int), (∀ x ∈ items, ∀ d i, wtext [] (x.toks d i) 0 = x.txt) → wtext [] (JN.itoks items keys ob d j) 0 = JN.itxt items keys ob j := by
  intro items
  induction items with
  | nil => intro keys d j h; rfl
  | cons x xs ih =>
    intro keys d j h
    have h1 := h x List.mem_cons_self (d + 1) j
    have h2 := ih keys.tail d (j + 1) (fun y hy => h y (List.mem_cons_of_mem _ hy))
    rw [JN.itoks, JN.itxt, wtext_append, wtext_append, wtext_append, wtext_none _ _ 0, wtext_none (x.toks _ _) _ 0, wtext_none (JN.itoks xs _ _ _ _) _ 0, h1, h2]
    congr 1
    · split <;> simp [wtext, blk_none, tkDelim]
    · congr 1
      cases ob <;> simp [wtext, blk_none, tkDelim]
theorem txt_toks {n : JN} (h : JOk n) : ∀ d i, wtext [] (n.toks d i) 0 = n.txt := by
  induction h with
  | leaf hp =>
    intro d i
    have := hp.kind
    rw [JN.toks, JN.txt, if_pos (by omega), if_pos (by omega)]
    simp [wtext, blk_none]
  | arr hx ih =>
    intro d i
    rw [JN.toks, JN.txt, if_neg (by omega), if_neg (by omega), if_neg (by omega), if_neg (by omega)]
    rw [wtext, blk_none, wtext_append, wtext_none _ _ 0, itxt_items false _ _ d 0 ih, wtext_none [_] _ 0]
    simp [wtext, blk_none, tkDelim]
  | obj hne hl hks hx ih =>
    intro d i
    rw [JN.toks, JN.txt, if_neg (by omega), if_pos rfl, if_neg (by omega), if_pos rfl]
    rw [wtext, blk_none, wtext_append, wtext_none _ _ 0, itxt_items true _ _ d 0 ih, wtext_none [_] _ 0]
    simp [wtext, blk_none, tkDelim]
/-- What a byte may be that begins a value. -/
def Begins (b : Int) : Prop := 33 ≤ b ∧ b ≤ 255 ∧ b ≠ 93 ∧ b ≠ 125 ∧ b ≠ 44 ∧ b ≠ 58
theorem plain_begins {k : Int} {v : List Int} (h : Plain k v) : ∃ b r, v = b :: r ∧ Begins b := by
  obtain ⟨b0, r, e, hb, -⟩ := plain_first h
  exact ⟨b0, r, e, by unfold Begins; omega⟩
theorem txt_begins {n : JN} (h : JOk n) : ∃ b r, n.txt = b :: r ∧ Begins b := by
  cases h with
  | leaf hp =>
    obtain ⟨b, r, e, hb⟩ := plain_begins hp
    have := hp.kind
    exact ⟨b, r, by rw [JN.txt, if_pos (by omega), e], hb⟩
  | arr hx => exact ⟨91, _, by rw [JN.txt, if_neg (by omega), if_neg (by omega)], by unfold Begins; decide⟩
  | obj hne hl hks hx => exact ⟨123, _, by rw [JN.txt, if_neg (by omega), if_pos rfl], by unfold Begins; decide⟩
theorem Begins.sp {b : Int} (h : Begins b) : isSp b = false := by
  obtain ⟨h1, -⟩ := h
  simp [isSp]; omega
theorem skip_none {b : Int} {l : List Int} (h : isSp b = false) : skipF (b :: l) = b :: l := by simp [skipF, h]
theorem numEnd_of {b : Int} {l : List Int} (h : b = 44 ∨ b = 93 ∨ b = 125) : NumEnd (b :: l) := by
  intro c t e
  obtain ⟨rfl, -⟩ : b = c ∧ _ := by simpa using e
  unfold Digit
  omega
/-- Behind an item stands a comma or the end. -/
theorem itxt_behind (ob : Bool) (en : Int) (he : en = 93 ∨ en = 125) (xs : List JN) (keys : List (List Int)) (j : Int) (hj : 0 < j) (r : List Int) : ∃ b l, JN.itxt xs keys ob j ++ en :: r = b :: l ∧ (b = 44 ∨ b = 93 ∨ b = 125) := by
  cases xs with
  | nil => exact ⟨en, r, rfl, by omega⟩
  | cons x xs => exact ⟨44, _, by rw [JN.itxt, if_pos hj]; rfl, .inl rfl⟩
theorem txt_bytes {n : JN} (h : JOk n) : Bytes n.txt := by
  rw [← txt_toks h 0 0]
  exact text_is_bytes [] (steps_node h ⟨[], false⟩ 0 0 rfl rfl rfl) 0
end Go.Proofs.YtekmminmgjoabaaDoor.Js
