/- Written by laws.py: a raw value's first byte. The text of a value without blanks, by its shape. Written by val.py: parseValue asks the parser that the first byte tells. Written by val.py: parseArray over the text of an array. Written by val.py: parseObject over the text of an object. Written by val.py: parseValue over the text of any value. -/
import Derived.Test.YtekmminmgjoabaaDoorYRr
import Derived.Test.YtekmminmgjoabaaDoorYKa
import Derived.Test.YtekmminmgjoabaaDoorYSa
import Derived.Deep.RegionLaw
namespace Go.Proofs.YtekmminmgjoabaaDoor.Js
open Go.RowKit Go.Proofs.YtekmminmgjoabaaDoorW.PrintWords Go.Proofs.YtekmminmgjoabaaDoorW.PrintLast Go.Proofs.YtekmminmgjoabaaDoorW.PrintMore Go.Proofs.YtekmminmgjoabaaDoor.PFnJSTokens
set_option linter.unusedVariables false
set_option linter.unusedSimpArgs false
def isNumB (b : Int) : Bool := decide (b = 45 ∨ (48 ≤ b ∧ b ≤ 57))
/-- The first byte of a plain value. -/
theorem plain_first {k : Int} {v : List Int} (h : Plain k v) : ∃ b0 r, v = b0 :: r ∧ (b0 = 110 ∨ b0 = 116 ∨ b0 = 102 ∨ b0 = 34 ∨ b0 = 45 ∨ b0 = 48 ∨ b0 = 49 ∨ b0 = 50 ∨ b0 = 51 ∨ b0 = 52 ∨ b0 = 53 ∨ b0 = 54 ∨ b0 = 55 ∨ b0 = 56 ∨ b0 = 57) ∧ (b0 == 110) = (k == 1) ∧ (b0 == 116) = decide (v = [116, 114, 117, 101]) ∧ (b0 == 102) = decide (v = [102, 97, 108, 115, 101]) ∧ isNumB b0 = (k == 3) ∧ (b0 == 34) = (k == 4) := by
  cases h with
  | null => exact ⟨110, _, rfl, .inl rfl, by decide, by decide, by decide, by decide, by decide⟩
  | yes => exact ⟨116, _, rfl, .inr (.inl rfl), by decide, by decide, by decide, by decide, by decide⟩
  | no => exact ⟨102, _, rfl, .inr (.inr (.inl rfl)), by decide, by decide, by decide, by decide, by decide⟩
  | num h =>
    have hne := Plain.ne (.num h)
    obtain ⟨p0, p1, p2, hn⟩ := num_at (r := []) h (fun c t e => by cases e)
    have hs := hn.sign
    rw [List.append_nil] at hs
    cases v with
    | nil => exact absurd rfl hne
    | cons b0 r =>
      have hb : b0 = 45 ∨ (48 ≤ b0 ∧ b0 ≤ 57) := by
        rcases hs with ⟨-, h⟩ | ⟨-, h⟩
        · unfold Digit at h; exact .inr h
        · exact .inl h
      refine ⟨b0, r, rfl, by omega, ?_, ?_, ?_, ?_, ?_⟩
      · rw [beq_eq_false_iff_ne.2 (by omega)]; rfl
      · rw [beq_eq_false_iff_ne.2 (by omega)]; symm; rw [decide_eq_false_iff_not]; intro e; injection e with e; omega
      · rw [beq_eq_false_iff_ne.2 (by omega)]; symm; rw [decide_eq_false_iff_not]; intro e; injection e with e; omega
      · show decide _ = _; rw [decide_eq_true hb]; rfl
      · rw [beq_eq_false_iff_ne.2 (by omega)]; rfl
  | @str l h => exact ⟨34, _, rfl, .inr (.inr (.inr (.inl rfl))), by decide, (by show false = _; rw [decide_eq_false (fun e => by injection e with e; cases e)]), (by show false = _; rw [decide_eq_false (fun e => by injection e with e; cases e)]), by decide, by decide⟩
end Go.Proofs.YtekmminmgjoabaaDoor.Js

namespace Go.Proofs.YtekmminmgjoabaaDoor.Js
open Go.RowKit Go.Proofs.YtekmminmgjoabaaDoorW.PrintWords Go.Proofs.YtekmminmgjoabaaDoorW.PrintLast Go.Proofs.YtekmminmgjoabaaDoorW.PrintMore Go.Proofs.YtekmminmgjoabaaDoor.PFnJSTokens
set_option linter.unusedVariables false
set_option linter.unusedSimpArgs false
mutual
/-- A value's text. -/
def JN.txt : JN → List Int
  | .mk k t items keys =>
    if k < 5 then t
    else if k = 6 then 123 :: (JN.itxt items keys true 0 ++ [125])
    else 91 :: (JN.itxt items keys false 0 ++ [93])
/-- .. of its items, from number j on. -/
def JN.itxt : List JN → List (List Int) → Bool → Int → List Int
  | [], _, _, _ => []
  | x :: xs, keys, ob, j => (if 0 < j then [44] else []) ++ ((if ob then keys.headD [] ++ [58] else []) ++ (x.txt ++ JN.itxt xs keys.tail ob (j + 1)))
end
theorem itxt_items (ob : Bool) : ∀ (items : List JN) (keys : List (List Int)) (d j : Int), (∀ x ∈ items, ∀ d i, wtext [] (x.toks d i) 0 = x.txt) → wtext [] (JN.itoks items keys ob d j) 0 = JN.itxt items keys ob j := by
  intro items
  induction items with
  | nil => intro keys d j h; rfl
  | cons x xs ih =>
    intro keys d j h
    have h1 := h x List.mem_cons_self (d + 1) j
    have h2 := ih keys.tail d (j + 1) (fun y hy => h y (List.mem_cons_of_mem _ hy))
    rw [JN.itoks, JN.itxt, wtext_append, wtext_append, wtext_append, wtext_none _ _ 0, wtext_none (x.toks _ _) _ 0, wtext_none (JN.itoks xs _ _ _ _) _ 0, h1, h2]
    congr 1
    · split <;> simp [wtext, blk_none, tkDelim]
    · congr 1
      cases ob <;> simp [wtext, blk_none, tkDelim]
theorem txt_toks {n : JN} (h : JOk n) : ∀ d i, wtext [] (n.toks d i) 0 = n.txt := by
  induction h with
  | leaf hp =>
    intro d i
    have := hp.kind
    rw [JN.toks, JN.txt, if_pos (by omega), if_pos (by omega)]
    simp [wtext, blk_none]
  | arr hx ih =>
    intro d i
    rw [JN.toks, JN.txt, if_neg (by omega), if_neg (by omega), if_neg (by omega), if_neg (by omega)]
    rw [wtext, blk_none, wtext_append, wtext_none _ _ 0, itxt_items false _ _ d 0 ih, wtext_none [_] _ 0]
    simp [wtext, blk_none, tkDelim]
  | obj hne hl hks hx ih =>
    intro d i
    rw [JN.toks, JN.txt, if_neg (by omega), if_pos rfl, if_neg (by omega), if_pos rfl]
    rw [wtext, blk_none, wtext_append, wtext_none _ _ 0, itxt_items true _ _ d 0 ih, wtext_none [_] _ 0]
    simp [wtext, blk_none, tkDelim]
/-- What a byte may be that begins a value. -/
def Begins (b : Int) : Prop := 33 ≤ b ∧ b ≤ 255 ∧ b ≠ 93 ∧ b ≠ 125 ∧ b ≠ 44 ∧ b ≠ 58
theorem plain_begins {k : Int} {v : List Int} (h : Plain k v) : ∃ b r, v = b :: r ∧ Begins b := by
  obtain ⟨b0, r, e, hb, -⟩ := plain_first h
  exact ⟨b0, r, e, by unfold Begins; omega⟩
theorem txt_begins {n : JN} (h : JOk n) : ∃ b r, n.txt = b :: r ∧ Begins b := by
  cases h with
  | leaf hp =>
    obtain ⟨b, r, e, hb⟩ := plain_begins hp
    have := hp.kind
    exact ⟨b, r, by rw [JN.txt, if_pos (by omega), e], hb⟩
  | arr hx => exact ⟨91, _, by rw [JN.txt, if_neg (by omega), if_neg (by omega)], by unfold Begins; decide⟩
  | obj hne hl hks hx => exact ⟨123, _, by rw [JN.txt, if_neg (by omega), if_pos rfl], by unfold Begins; decide⟩
theorem Begins.sp {b : Int} (h : Begins b) : isSp b = false := by
  obtain ⟨h1, -⟩ := h
  simp [isSp]; omega
theorem skip_none {b : Int} {l : List Int} (h : isSp b = false) : skipF (b :: l) = b :: l := by simp [skipF, h]
theorem numEnd_of {b : Int} {l : List Int} (h : b = 44 ∨ b = 93 ∨ b = 125) : NumEnd (b :: l) := by
  intro c t e
  obtain ⟨rfl, -⟩ : b = c ∧ _ := by simpa using e
  unfold Digit
  omega
/-- Behind an item stands a comma or the end. -/
theorem itxt_behind (ob : Bool) (en : Int) (he : en = 93 ∨ en = 125) (xs : List JN) (keys : List (List Int)) (j : Int) (hj : 0 < j) (r : List Int) : ∃ b l, JN.itxt xs keys ob j ++ en :: r = b :: l ∧ (b = 44 ∨ b = 93 ∨ b = 125) := by
  cases xs with
  | nil => exact ⟨en, r, rfl, by omega⟩
  | cons x xs => exact ⟨44, _, by rw [JN.itxt, if_pos hj]; rfl, .inl rfl⟩
end Go.Proofs.YtekmminmgjoabaaDoor.Js

namespace Go.Proofs.YtekmminmgjoabaaDoor.Js
open Go.RowKit Go.Proofs.YtekmminmgjoabaaDoorW.PrintWords Go.Proofs.YtekmminmgjoabaaDoorW.PrintLast Go.Proofs.YtekmminmgjoabaaDoorW.PrintMore Go.Proofs.YtekmminmgjoabaaDoor.PFnJSTokens
set_option linter.unusedVariables false
set_option linter.unusedSimpArgs false
set_option maxHeartbeats 4000000 in
set_option maxRecDepth 100000 in
theorem pv_str (w : World) (B : Nat) (ad : Addr) (m c : Nat) (fl : Int) (v r zs : List Int) (KS : Int → Prop) (hm : 0 < m) (hJ : Sl w B (.slice (some ad) m c) zs) (b0 : Int) (hb0 : zs.getD 0 0 = b0) (hbn : b0 = 34) (HC : Aside0 (∀ W : World, Below w.heap.size w W → Calls Tryd.prog 80 #[.agg #[.int .u32 fl], .slice (some ad) m c] W (ParsePost W B v r KS))) :
    Calls Tryd.prog 94 #[.agg #[.int .u32 fl], .slice (some ad) m c] w (ParsePost w B v r KS) := by
  have hal := below_alloc (Below.refl w.heap.size w) (.cells #[.int .u32 fl] 116)
  obtain ⟨ad2, had, c0, -⟩ := hJ.at_ 0 hm
  obtain rfl : ad = ad2 := by injection had
  rw [hb0] at c0
  have e0 : ad.add 0 = ad := by simp [Addr.add]
  rw [e0] at c0
  have c1 := pw_cell_below hal c0
  have hz : ((m : Int) == 0) = false := by rw [beq_eq_false_iff_ne]; omega
  have HC1 := Aside0.mk (HC.out _ hal)
  have HAL := Aside0.mk hal
  clear had e0 hb0 hal HC hJ c0
  rcases hbn with rfl
  all_goals
    go_enter Tryd.func94, Tryd.ntmps94
    go_wp2_with (go_at_call 80; (with_reducible refine HC1.out.mono ?_); rintro e w2 ⟨v1, v2, K, rfl, hk, hv1, hv2, hb2⟩; have HK := Aside0.mk hk; have HV1 := Aside0.mk hv1; have HV2 := Aside0.mk hv2; have HB2 := Aside0.mk hb2; clear hk hv1 hv2 hb2)
    go_returns
    exact ⟨_, _, _, rfl, HK.out, HV1.out, HV2.out, HAL.out.trans (HB2.out.mono HAL.out.size)⟩
set_option maxHeartbeats 4000000 in
set_option maxRecDepth 100000 in
theorem pv_null (w : World) (B : Nat) (ad : Addr) (m c : Nat) (fl : Int) (v r zs : List Int) (KS : Int → Prop) (hm : 0 < m) (hJ : Sl w B (.slice (some ad) m c) zs) (b0 : Int) (hb0 : zs.getD 0 0 = b0) (hbn : b0 = 110) (HC : Aside0 (∀ W : World, Below w.heap.size w W → Calls Tryd.prog 81 #[.agg #[.int .u32 fl], .slice (some ad) m c] W (ParsePost W B v r KS))) :
    Calls Tryd.prog 94 #[.agg #[.int .u32 fl], .slice (some ad) m c] w (ParsePost w B v r KS) := by
  have hal := below_alloc (Below.refl w.heap.size w) (.cells #[.int .u32 fl] 116)
  obtain ⟨ad2, had, c0, -⟩ := hJ.at_ 0 hm
  obtain rfl : ad = ad2 := by injection had
  rw [hb0] at c0
  have e0 : ad.add 0 = ad := by simp [Addr.add]
  rw [e0] at c0
  have c1 := pw_cell_below hal c0
  have hz : ((m : Int) == 0) = false := by rw [beq_eq_false_iff_ne]; omega
  have HC1 := Aside0.mk (HC.out _ hal)
  have HAL := Aside0.mk hal
  clear had e0 hb0 hal HC hJ c0
  rcases hbn with rfl
  all_goals
    go_enter Tryd.func94, Tryd.ntmps94
    go_wp2_with (go_at_call 81; (with_reducible refine HC1.out.mono ?_); rintro e w2 ⟨v1, v2, K, rfl, hk, hv1, hv2, hb2⟩; have HK := Aside0.mk hk; have HV1 := Aside0.mk hv1; have HV2 := Aside0.mk hv2; have HB2 := Aside0.mk hb2; clear hk hv1 hv2 hb2)
    go_returns
    exact ⟨_, _, _, rfl, HK.out, HV1.out, HV2.out, HAL.out.trans (HB2.out.mono HAL.out.size)⟩
set_option maxHeartbeats 4000000 in
set_option maxRecDepth 100000 in
theorem pv_yes (w : World) (B : Nat) (ad : Addr) (m c : Nat) (fl : Int) (v r zs : List Int) (KS : Int → Prop) (hm : 0 < m) (hJ : Sl w B (.slice (some ad) m c) zs) (b0 : Int) (hb0 : zs.getD 0 0 = b0) (hbn : b0 = 116) (HC : Aside0 (∀ W : World, Below w.heap.size w W → Calls Tryd.prog 82 #[.agg #[.int .u32 fl], .slice (some ad) m c] W (ParsePost W B v r KS))) :
    Calls Tryd.prog 94 #[.agg #[.int .u32 fl], .slice (some ad) m c] w (ParsePost w B v r KS) := by
  have hal := below_alloc (Below.refl w.heap.size w) (.cells #[.int .u32 fl] 116)
  obtain ⟨ad2, had, c0, -⟩ := hJ.at_ 0 hm
  obtain rfl : ad = ad2 := by injection had
  rw [hb0] at c0
  have e0 : ad.add 0 = ad := by simp [Addr.add]
  rw [e0] at c0
  have c1 := pw_cell_below hal c0
  have hz : ((m : Int) == 0) = false := by rw [beq_eq_false_iff_ne]; omega
  have HC1 := Aside0.mk (HC.out _ hal)
  have HAL := Aside0.mk hal
  clear had e0 hb0 hal HC hJ c0
  rcases hbn with rfl
  all_goals
    go_enter Tryd.func94, Tryd.ntmps94
    go_wp2_with (go_at_call 82; (with_reducible refine HC1.out.mono ?_); rintro e w2 ⟨v1, v2, K, rfl, hk, hv1, hv2, hb2⟩; have HK := Aside0.mk hk; have HV1 := Aside0.mk hv1; have HV2 := Aside0.mk hv2; have HB2 := Aside0.mk hb2; clear hk hv1 hv2 hb2)
    go_returns
    exact ⟨_, _, _, rfl, HK.out, HV1.out, HV2.out, HAL.out.trans (HB2.out.mono HAL.out.size)⟩
set_option maxHeartbeats 4000000 in
set_option maxRecDepth 100000 in
theorem pv_no (w : World) (B : Nat) (ad : Addr) (m c : Nat) (fl : Int) (v r zs : List Int) (KS : Int → Prop) (hm : 0 < m) (hJ : Sl w B (.slice (some ad) m c) zs) (b0 : Int) (hb0 : zs.getD 0 0 = b0) (hbn : b0 = 102) (HC : Aside0 (∀ W : World, Below w.heap.size w W → Calls Tryd.prog 83 #[.agg #[.int .u32 fl], .slice (some ad) m c] W (ParsePost W B v r KS))) :
    Calls Tryd.prog 94 #[.agg #[.int .u32 fl], .slice (some ad) m c] w (ParsePost w B v r KS) := by
  have hal := below_alloc (Below.refl w.heap.size w) (.cells #[.int .u32 fl] 116)
  obtain ⟨ad2, had, c0, -⟩ := hJ.at_ 0 hm
  obtain rfl : ad = ad2 := by injection had
  rw [hb0] at c0
  have e0 : ad.add 0 = ad := by simp [Addr.add]
  rw [e0] at c0
  have c1 := pw_cell_below hal c0
  have hz : ((m : Int) == 0) = false := by rw [beq_eq_false_iff_ne]; omega
  have HC1 := Aside0.mk (HC.out _ hal)
  have HAL := Aside0.mk hal
  clear had e0 hb0 hal HC hJ c0
  rcases hbn with rfl
  all_goals
    go_enter Tryd.func94, Tryd.ntmps94
    go_wp2_with (go_at_call 83; (with_reducible refine HC1.out.mono ?_); rintro e w2 ⟨v1, v2, K, rfl, hk, hv1, hv2, hb2⟩; have HK := Aside0.mk hk; have HV1 := Aside0.mk hv1; have HV2 := Aside0.mk hv2; have HB2 := Aside0.mk hb2; clear hk hv1 hv2 hb2)
    go_returns
    exact ⟨_, _, _, rfl, HK.out, HV1.out, HV2.out, HAL.out.trans (HB2.out.mono HAL.out.size)⟩
set_option maxHeartbeats 4000000 in
set_option maxRecDepth 100000 in
theorem pv_num (w : World) (B : Nat) (ad : Addr) (m c : Nat) (fl : Int) (v r zs : List Int) (KS : Int → Prop) (hm : 0 < m) (hJ : Sl w B (.slice (some ad) m c) zs) (b0 : Int) (hb0 : zs.getD 0 0 = b0) (hbn : b0 = 45 ∨ b0 = 48 ∨ b0 = 49 ∨ b0 = 50 ∨ b0 = 51 ∨ b0 = 52 ∨ b0 = 53 ∨ b0 = 54 ∨ b0 = 55 ∨ b0 = 56 ∨ b0 = 57) (HC : Aside0 (∀ W : World, Below w.heap.size w W → Calls Tryd.prog 84 #[.agg #[.int .u32 fl], .slice (some ad) m c] W (ParsePost W B v r KS))) :
    Calls Tryd.prog 94 #[.agg #[.int .u32 fl], .slice (some ad) m c] w (ParsePost w B v r KS) := by
  have hal := below_alloc (Below.refl w.heap.size w) (.cells #[.int .u32 fl] 116)
  obtain ⟨ad2, had, c0, -⟩ := hJ.at_ 0 hm
  obtain rfl : ad = ad2 := by injection had
  rw [hb0] at c0
  have e0 : ad.add 0 = ad := by simp [Addr.add]
  rw [e0] at c0
  have c1 := pw_cell_below hal c0
  have hz : ((m : Int) == 0) = false := by rw [beq_eq_false_iff_ne]; omega
  have HC1 := Aside0.mk (HC.out _ hal)
  have HAL := Aside0.mk hal
  clear had e0 hb0 hal HC hJ c0
  rcases hbn with rfl | rfl | rfl | rfl | rfl | rfl | rfl | rfl | rfl | rfl | rfl
  all_goals
    go_enter Tryd.func94, Tryd.ntmps94
    go_wp2_with (go_at_call 84; (with_reducible refine HC1.out.mono ?_); rintro e w2 ⟨v1, v2, K, rfl, hk, hv1, hv2, hb2⟩; have HK := Aside0.mk hk; have HV1 := Aside0.mk hv1; have HV2 := Aside0.mk hv2; have HB2 := Aside0.mk hb2; clear hk hv1 hv2 hb2)
    go_returns
    exact ⟨_, _, _, rfl, HK.out, HV1.out, HV2.out, HAL.out.trans (HB2.out.mono HAL.out.size)⟩
set_option maxHeartbeats 4000000 in
set_option maxRecDepth 100000 in
theorem pv_obj (w : World) (B : Nat) (ad : Addr) (m c : Nat) (fl : Int) (v r zs : List Int) (KS : Int → Prop) (hm : 0 < m) (hJ : Sl w B (.slice (some ad) m c) zs) (b0 : Int) (hb0 : zs.getD 0 0 = b0) (hbn : b0 = 123) (HC : Aside0 (∀ W : World, Below w.heap.size w W → Calls Tryd.prog 132 #[.agg #[.int .u32 fl], .slice (some ad) m c] W (ParsePost W B v r KS))) :
    Calls Tryd.prog 94 #[.agg #[.int .u32 fl], .slice (some ad) m c] w (ParsePost w B v r KS) := by
  have hal := below_alloc (Below.refl w.heap.size w) (.cells #[.int .u32 fl] 116)
  obtain ⟨ad2, had, c0, -⟩ := hJ.at_ 0 hm
  obtain rfl : ad = ad2 := by injection had
  rw [hb0] at c0
  have e0 : ad.add 0 = ad := by simp [Addr.add]
  rw [e0] at c0
  have c1 := pw_cell_below hal c0
  have hz : ((m : Int) == 0) = false := by rw [beq_eq_false_iff_ne]; omega
  have HC1 := Aside0.mk (HC.out _ hal)
  have HAL := Aside0.mk hal
  clear had e0 hb0 hal HC hJ c0
  rcases hbn with rfl
  all_goals
    go_enter Tryd.func94, Tryd.ntmps94
    go_wp2_with (go_at_call 132; (with_reducible refine HC1.out.mono ?_); rintro e w2 ⟨v1, v2, K, rfl, hk, hv1, hv2, hb2⟩; have HK := Aside0.mk hk; have HV1 := Aside0.mk hv1; have HV2 := Aside0.mk hv2; have HB2 := Aside0.mk hb2; clear hk hv1 hv2 hb2)
    go_returns
    exact ⟨_, _, _, rfl, HK.out, HV1.out, HV2.out, HAL.out.trans (HB2.out.mono HAL.out.size)⟩
set_option maxHeartbeats 4000000 in
set_option maxRecDepth 100000 in
theorem pv_arr (w : World) (B : Nat) (ad : Addr) (m c : Nat) (fl : Int) (v r zs : List Int) (KS : Int → Prop) (hm : 0 < m) (hJ : Sl w B (.slice (some ad) m c) zs) (b0 : Int) (hb0 : zs.getD 0 0 = b0) (hbn : b0 = 91) (HC : Aside0 (∀ W : World, Below w.heap.size w W → Calls Tryd.prog 133 #[.agg #[.int .u32 fl], .slice (some ad) m c] W (ParsePost W B v r KS))) :
    Calls Tryd.prog 94 #[.agg #[.int .u32 fl], .slice (some ad) m c] w (ParsePost w B v r KS) := by
  have hal := below_alloc (Below.refl w.heap.size w) (.cells #[.int .u32 fl] 116)
  obtain ⟨ad2, had, c0, -⟩ := hJ.at_ 0 hm
  obtain rfl : ad = ad2 := by injection had
  rw [hb0] at c0
  have e0 : ad.add 0 = ad := by simp [Addr.add]
  rw [e0] at c0
  have c1 := pw_cell_below hal c0
  have hz : ((m : Int) == 0) = false := by rw [beq_eq_false_iff_ne]; omega
  have HC1 := Aside0.mk (HC.out _ hal)
  have HAL := Aside0.mk hal
  clear had e0 hb0 hal HC hJ c0
  rcases hbn with rfl
  all_goals
    go_enter Tryd.func94, Tryd.ntmps94
    go_wp2_with (go_at_call 133; (with_reducible refine HC1.out.mono ?_); rintro e w2 ⟨v1, v2, K, rfl, hk, hv1, hv2, hb2⟩; have HK := Aside0.mk hk; have HV1 := Aside0.mk hv1; have HV2 := Aside0.mk hv2; have HB2 := Aside0.mk hb2; clear hk hv1 hv2 hb2)
    go_returns
    exact ⟨_, _, _, rfl, HK.out, HV1.out, HV2.out, HAL.out.trans (HB2.out.mono HAL.out.size)⟩
end Go.Proofs.YtekmminmgjoabaaDoor.Js

namespace Go.Proofs.YtekmminmgjoabaaDoor.Js
open Go.RowKit Go.Proofs.YtekmminmgjoabaaDoorW.PrintWords Go.Proofs.YtekmminmgjoabaaDoorW.PrintLast Go.Proofs.YtekmminmgjoabaaDoorW.PrintMore Go.Proofs.YtekmminmgjoabaaDoor.PFnJSTokens
set_option linter.unusedVariables false
set_option linter.unusedSimpArgs false
/-- What parseValue answers over a value's text. -/
def ValC (n : JN) : Prop := ∀ (w : World) (B : Nat) (v : Value) (r : List Int) (p q : Bool) (K0 : Int), 0 ≤ K0 → K0 < 64 → Sl w B v (n.txt ++ r) → Bytes (n.txt ++ r) → (n.txt ++ r).length < 4000000000 → (q = true → 92 ∉ n.txt ++ r) → (n.kind = 3 → NumEnd r) → Tab w → 3 < B → B ≤ w.heap.size →
  Calls Tryd.prog 94 #[.agg #[.int .u32 (flK p q K0)], v] w (ParsePost w B n.txt r (KSet n.kind n.txt))
theorem Sl.first {w : World} {B : Nat} {v : Value} {b : Int} {l : List Int} (h : Sl w B v (b :: l)) : ∃ ad m c, v = .slice (some ad) m c ∧ m = l.length + 1 ∧ w.cell? ad = some (.int .u8 b) := by
  obtain ⟨A, c, rfl, -⟩ := h.form
  obtain ⟨ad, rfl, h1, -⟩ := h.at_ 0 (by simp)
  have e0 : ad.add 0 = ad := by simp [Addr.add]
  rw [e0] at h1
  exact ⟨ad, _, c, rfl, by simp, h1⟩
theorem Sl.formv {w : World} {B : Nat} {v : Value} {zs : List Int} (h : Sl w B v zs) : ∃ A m c, v = .slice A m c ∧ m = zs.length := by
  obtain ⟨A, c, rfl, -⟩ := h.form
  exact ⟨A, _, c, rfl, rfl⟩
theorem blk116 {w0 W : World} {g : Nat} {fl : Int} (h : w0.heap[g]? = some (.cells #[.int .u32 fl] 116 (0, 0))) (hb : Below w0.heap.size w0 W) : W.cell? ⟨g, 0, none⟩ = some (.int .u32 fl) := (blk_cell (blk_below h hb) 0).trans rfl
/-- What holds of the rest of a text. -/
structure Rest (all rest : List Int) (q : Bool) : Prop where
  bytes : Bytes rest
  noesc : q = true → 92 ∉ rest
  long : rest.length ≤ all.length
theorem Rest.back {all a b : List Int} {q : Bool} (h : Rest all (a ++ b) q) : Rest all b q := ⟨h.bytes.sub (fun c hc => List.mem_append_right _ hc), fun hq hc => h.noesc hq (List.mem_append_right _ hc), by have := h.long; rw [List.length_append] at this; omega⟩
set_option maxHeartbeats 4000000 in
set_option maxRecDepth 100000 in
theorem arr_calls (items : List JN) (keys : List (List Int)) (hok : ∀ x ∈ items, JOk x) (ih : ∀ x ∈ items, ValC x) (w : World) (B : Nat) (ad : Addr) (m c : Nat) (r : List Int) (p q : Bool) (K0 : Int) (hK0 : 0 ≤ K0) (hK1 : K0 < 64) (hJ : Sl w B (.slice (some ad) m c) (91 :: (JN.itxt items keys false 0 ++ 93 :: r))) (hby : Bytes (91 :: (JN.itxt items keys false 0 ++ 93 :: r))) (hlen : (91 :: (JN.itxt items keys false 0 ++ 93 :: r)).length < 4000000000) (hq : q = true → 92 ∉ 91 :: (JN.itxt items keys false 0 ++ 93 :: r)) (ht : Tab w) (h3 : 3 < B) (hB : B ≤ w.heap.size) :
    Calls Tryd.prog 133 #[.agg #[.int .u32 (flK p q K0)], .slice (some ad) m c] w (ParsePost w B (91 :: (JN.itxt items keys false 0 ++ [93])) r (fun K => K = 16)) := by
  have hml := hJ.len.1
  have hm2 : 2 ≤ m := by rw [hml]; simp; omega
  have hmx : m < 4000000000 := by rw [hml]; exact hlen
  obtain ⟨A1, hcut, hd⟩ := hJ.next 22 1 .i64 Tryd.underlying22 (by omega)
  obtain ⟨ad2, had, c0, -⟩ := hJ.at_ 0 (by omega)
  obtain rfl : ad = ad2 := by injection had
  have e0 : ad.add 0 = ad := by simp [Addr.add]
  rw [e0] at c0
  obtain ⟨fl, hfl⟩ : ∃ fl, fl = flK p q K0 := ⟨_, rfl⟩
  rw [← hfl]
  have HFL := Aside0.mk hfl
  obtain ⟨w0, hw0⟩ : ∃ w0, w0 = w.alloc (.cells #[.int .u32 fl] 116) := ⟨_, rfl⟩
  have hal : Below w.heap.size w w0 := by rw [hw0]; exact below_alloc (Below.refl w.heap.size w) _
  have HBX := Aside0.mk (show w0.heap[w.heap.size]? = some (.cells #[.int .u32 fl] 116 (0, 0)) by rw [hw0]; exact blk_new w _)
  have c1 : w0.cell? ad = some (.int .u8 91) := (pw_cell_below hal c0).trans rfl
  have HAL := Aside0.mk hal
  obtain ⟨rest0, hrest0⟩ : ∃ rest0, rest0 = JN.itxt items keys false 0 ++ 93 :: r := ⟨_, rfl⟩
  rw [← hrest0] at hJ hby hlen hq hd hml
  have HR0 := Aside0.mk (show Rest (91 :: rest0) rest0 q from (⟨hby, hq, Nat.le_refl _⟩ : Rest (91 :: rest0) ([91] ++ rest0) q).back)
  have HD := Aside0.mk (show Sl w0 B (.slice A1 (m - 1) (c - 1)) rest0 from hd.below (hal.mono hB))
  have HJ := Aside0.mk hJ
  have HM := Aside0.mk (show m = rest0.length + 1 by rw [hml]; rfl)
  have HREST := Aside0.mk hrest0
  have HT := Aside0.mk ht
  have H3 := Aside0.mk (And.intro h3 hB)
  have HIH := Aside0.mk (fun x hx => And.intro (hok x hx) (ih x hx))
  have HKB := Aside0.mk (And.intro hK0 hK1)
  have hcut1 : ∀ W : World, (Instr.slice 22 (.slice (some ad) m c) (some (.int .i64 1)) none none).run Tryd.prog W = .ok (.slice A1 (m - 1) (c - 1)) W := hcut
  clear hJ hby hlen hq hd hml ht h3 hB hok ih hK0 hK1 had e0 c0 hal hfl hrest0 hcut
  have hn2 : ¬ ((m : Int) < 2) := by omega
  go_enter Tryd.func133, Tryd.ntmps133
  go_upto_region 3 with (fail)
  rw [← hw0]
  clear hw0
  go_upto_region 10 with (fail)
  clear hcut1 c1 hn2
  obtain ⟨mm, hmm⟩ : ∃ mm, mm = m - 1 := ⟨_, rfl⟩
  obtain ⟨cc1, hcc1⟩ : ∃ cc1, cc1 = c - 1 := ⟨_, rfl⟩
  rw [← hmm, ← hcc1] at HD ⊢
  clear hmm hcc1
  have HKEY := Aside0.mk (show JN.itxt items keys false ((0 : Nat) : Int) ++ 93 :: r = rest0 from HREST.out.symm)
  go_loopg [1, 8, 11] items.length (fun gk v1 v8 v11 w' => ∃ (j : Nat) (xs : List JN) (ks : List (List Int)) (rest : List Int), v8 = .nilIface ∧ v11 = .int .i64 (j : Int) ∧ Aside0 (xs.length = gk ∧ j + gk = items.length ∧ (∀ x ∈ xs, x ∈ items)) ∧ Aside0 (rest = JN.itxt xs ks false (j : Int) ++ 93 :: r) ∧ Aside0 (Rest (91 :: rest0) rest q ∧ rest.length + j ≤ rest0.length) ∧ Aside0 (Sl w' B v1 rest) ∧ Aside0 (Below w0.heap.size w0 w'))
  case atStart => exact ⟨0, items, keys, rest0, rfl, rfl, ⟨rfl, by omega, fun x hx => hx⟩, ⟨HKEY.out.symm⟩, ⟨HR0.out, Nat.le_refl _⟩, HD, ⟨Below.refl _ _⟩⟩
  case round =>
    obtain ⟨j, xs, ks, rest, rfl, rfl, HXS, HRE, HRR, HDr, HBr⟩ := hrel
    have HS := Aside0.mk (fun (W : World) (v : Value) (zs : List Int) (hW : Below w0.heap.size w0 W) (h : Sl W B v zs) (hz : Bytes zs) => (show Calls Tryd.prog 95 #[v] W fun e w' => ∃ v', e = .returned v' ∧ Sl w' B v' (skipF zs) ∧ Below W.heap.size W w' by
      obtain ⟨A, c, rfl, -⟩ := h.form
      exact skip_calls W B A _ c zs h hz (Nat.le_trans H3.out.2 (Nat.le_trans HAL.out.size hW.size))))
    cases gk with
    | zero =>
      obtain rfl : xs = [] := List.eq_nil_of_length_eq_zero HXS.out.1
      have hre : rest = 93 :: r := HRE.out
      subst hre
      have HSK := Aside0.mk (HS.out wr _ _ HBr.out HDr.out HRR.out.1.bytes)
      obtain ⟨A2, m2, c2, rfl, hm2⟩ := HDr.out.formv
      clear hm2
      go_upto_region 11 with (go_at_call 95; (with_reducible refine HSK.out.mono ?_); rintro e w2 ⟨v2, rfl, hs, hb⟩; rw [skip_none (by rfl)] at hs; have HD2 := Aside0.mk hs; have HB2 := Aside0.mk (HBr.out.trans (hb.mono HBr.out.size)); clear hs hb)
      obtain ⟨ad3, m3, c3, rfl, hm3, k3⟩ := HD2.out.first
      have hm3p : 0 < m3 := by omega
      have hz3 : ((m3 : Int) == 0) = false := by rw [beq_eq_false_iff_ne]; omega
      obtain ⟨e1, he1⟩ : ∃ e1 : Nat, e1 = (91 :: (JN.itxt items keys false 0 ++ [93])).length := ⟨_, rfl⟩
      have hlr := congrArg List.length HREST.out
      have hme : m = e1 + r.length := by
        have := HM.out
        rw [he1]
        simp only [List.length_append, List.length_cons, List.length_nil] at hlr ⊢
        omega
      have sw : IntKind.i64.wrap (IntKind.i64.wrap ((m : Int) - (m3 : Int)) + 1) = (e1 : Int) := by rw [IntKind.wrap_i64, IntKind.wrap_i64]; omega
      have sw1 : IntKind.i64.wrap ((m : Int) - (m3 : Int)) = (e1 : Int) - 1 := by rw [IntKind.wrap_i64]; omega
      have sw2 : IntKind.i64.wrap ((e1 : Int) - 1 + 1) = (e1 : Int) := by rw [IntKind.wrap_i64]; omega
      obtain ⟨A9, hcA, hcB, hdA, hdB⟩ := HJ.out.both 22 e1 (e1 : Int) .i64 Tryd.underlying22 rfl (by omega)
      have htk : (91 :: rest0).take e1 = 91 :: (JN.itxt items keys false 0 ++ [93]) ∧ (91 :: rest0).drop e1 = r := by
        have e : 91 :: rest0 = (91 :: (JN.itxt items keys false 0 ++ [93])) ++ r := by rw [HREST.out]; simp
        rw [e]
        exact ⟨List.take_left' he1.symm, List.drop_left' he1.symm⟩
      rw [htk.1] at hdA
      rw [htk.2] at hdB
      have HDA := Aside0.mk hdA
      have HDB := Aside0.mk hdB
      have sw3 : wrap64 (e1 : Int) = (e1 : Int) := by first | omega | (unfold wrap64; omega)
      clear hlr hme hdA hdB htk he1 hm3 sw
      go_upto_region 15 with (fail)
      go_region
      all_goals
        go_wp2_with fail
        go_returns
        refine ⟨.slice (some ad) e1 c, .slice A9 (m - e1) (c - e1), 16, by rfl, rfl, ?_, ?_, ?_⟩
        · exact HDA.out.below ((below_drew (HAL.out.trans (HB2.out.mono HAL.out.size))).mono H3.out.2)
        · exact HDB.out.below ((below_drew (HAL.out.trans (HB2.out.mono HAL.out.size))).mono H3.out.2)
        · exact below_drew (HAL.out.trans (HB2.out.mono HAL.out.size))
    | succ k1 =>
      cases xs with
      | nil => exact absurd HXS.out.1 (by simp)
      | cons x xs =>
      obtain ⟨hxok, hxv⟩ := HIH.out x (HXS.out.2.2 x List.mem_cons_self)
      obtain ⟨rest', hrest'⟩ : ∃ rest', rest' = JN.itxt xs ks.tail false ((j : Int) + 1) ++ 93 :: r := ⟨_, rfl⟩
      have hre : rest = (if (0 : Int) < (j : Int) then [44] else []) ++ (x.txt ++ rest') := by
        rw [HRE.out, JN.itxt, hrest']; simp
      have HRE' := Aside0.mk hrest'
      obtain ⟨zs, hzs⟩ : ∃ zs, zs = x.txt ++ rest' := ⟨_, rfl⟩
      rw [← hzs] at hre
      have HRZ := Aside0.mk (show Rest (91 :: rest0) zs q by have h := HRR.out.1; rw [hre] at h; exact h.back)
      have HRN0 := Aside0.mk (show Rest (91 :: rest0) rest' q by have h := HRZ.out; rw [hzs] at h; exact h.back)
      have HVC := Aside0.mk (fun (W : World) (v : Value) (hW : Below w0.heap.size w0 W) (hs : Sl W B v zs) => (show Calls Tryd.prog 94 #[.agg #[.int .u32 fl], v] W (ParsePost W B x.txt rest' (KSet x.kind x.txt)) by
        rw [hzs] at hs
        have hb := HRZ.out
        rw [hzs] at hb
        have hl := hb.long
        have hm := HM.out
        rw [HFL.out]
        refine hxv W B v rest' p q K0 HKB.out.1 HKB.out.2 hs hb.bytes (by simp only [List.length_cons] at hl; omega) hb.noesc (fun _ => ?_) (HT.out.base H3.out.1 ((HAL.out.trans (hW.mono HAL.out.size)).mono H3.out.2)) H3.out.1 (Nat.le_trans H3.out.2 (Nat.le_trans HAL.out.size hW.size))
        rw [hrest']
        obtain ⟨b, l, e, hb⟩ := itxt_behind false 93 (.inl rfl) xs ks.tail ((j : Int) + 1) (by omega) r
        rw [e]
        exact numEnd_of hb))
      obtain ⟨b0, l0, hbl, hbeg⟩ := txt_begins hxok
      have hz0 : zs = b0 :: (l0 ++ rest') := by rw [hzs, hbl]; rfl
      have HRN := Aside0.mk (show Rest (91 :: rest0) rest' q ∧ rest'.length + (j + 1) ≤ rest0.length by
        refine ⟨HRN0.out, ?_⟩
        have h1 := HRR.out.2
        have h2 := congrArg List.length hre
        rw [hz0] at h2
        simp only [List.length_append, List.length_cons] at h2
        omega)
      have hjb : j < 4000000000 := by have h1 := HRN.out.2; have h2 := HM.out; omega
      have hsp := hbeg.sp
      have h93 : ¬ b0 = 93 := hbeg.2.2.1
      clear hbl hbeg hxok hxv hrest' hzs
      rcases Nat.eq_zero_or_pos j with rfl | hj
      · have hre0 : rest = zs := by rw [hre, if_neg (by decide)]; rfl
        subst hre0
        have HSK := Aside0.mk (HS.out wr _ _ HBr.out HDr.out HRR.out.1.bytes)
        rw [hz0, skip_none hsp, ← hz0] at HSK
        obtain ⟨A2, m2, c2, rfl, hm2⟩ := HDr.out.formv
        clear hm2 hre
        go_upto_region 11 with (go_at_call 95; (with_reducible refine HSK.out.mono ?_); rintro e w2 ⟨v2, rfl, hs, hb⟩; have HD2 := Aside0.mk hs; have HB2 := Aside0.mk (HBr.out.trans (hb.mono HBr.out.size)); clear hs hb)
        have hd2 := HD2.out
        rw [hz0] at hd2
        obtain ⟨ad3, m3, c3, rfl, hm3, k3⟩ := hd2.first
        have hm3p : 0 < m3 := by omega
        have hz3 : ((m3 : Int) == 0) = false := by rw [beq_eq_false_iff_ne]; omega
        have HVV := Aside0.mk (HVC.out w2 _ HB2.out HD2.out)
        have k6 := blk116 HBX.out HB2.out
        clear hm3 hd2
        go_wp2_with (go_at_call 94; (with_reducible refine HVV.out.mono ?_); rintro e w5 ⟨v6, v7, K, rfl, -, -, hv7, hb5⟩; have HV7 := Aside0.mk hv7; have HB5 := Aside0.mk (HB2.out.trans (hb5.mono HB2.out.size)); clear hv7 hb5)
        go_roundg k1
        case measure => omega
        case rel => exact ⟨1, xs, ks.tail, rest', rfl, by go_num, ⟨by have := HXS.out.1; simpa using this, by have := HXS.out.2.1; omega, fun y hy => HXS.out.2.2 y (List.mem_cons_of_mem _ hy)⟩, HRE', HRN, HV7, HB5⟩
      · have hre0 : rest = 44 :: zs := by rw [hre, if_pos (by omega)]; rfl
        subst hre0
        have hjz : ((j : Int) != 0) = true := by rw [bne_iff_ne]; omega
        have HSK := Aside0.mk (HS.out wr _ _ HBr.out HDr.out HRR.out.1.bytes)
        rw [skip_none (by rfl)] at HSK
        obtain ⟨A2, m2, c2, rfl, hm2⟩ := HDr.out.formv
        clear hm2 hre
        go_upto_region 11 with (go_at_call 95; (with_reducible refine HSK.out.mono ?_); rintro e w2 ⟨v2, rfl, hs, hb⟩; have HD2 := Aside0.mk hs; have HB2 := Aside0.mk (HBr.out.trans (hb.mono HBr.out.size)); clear hs hb)
        obtain ⟨ad3, m3, c3, rfl, hm3, k3⟩ := HD2.out.first
        have hm3p : 0 < m3 := by omega
        have hz3 : ((m3 : Int) == 0) = false := by rw [beq_eq_false_iff_ne]; omega
        obtain ⟨A4, hcut4, hd4⟩ := HD2.out.next 22 1 .i64 Tryd.underlying22 (by omega)
        have hcut5 : ∀ W : World, (Instr.slice 22 (.slice (some ad3) m3 c3) (some (.int .i64 1)) none none).run Tryd.prog W = .ok (.slice A4 (m3 - 1) (c3 - 1)) W := hcut4
        have HD4 := Aside0.mk (show Sl w2 B (.slice A4 (m3 - 1) (c3 - 1)) zs from hd4)
        have HSK2 := Aside0.mk (HS.out w2 _ _ HB2.out HD4.out HRZ.out.bytes)
        rw [hz0, skip_none hsp, ← hz0] at HSK2
        clear hm3 hcut4 hd4
        go_upto_region 22 with (go_at_call 95; (with_reducible refine HSK2.out.mono ?_); rintro e w3 ⟨v3, rfl, hs, hb⟩; have HD5 := Aside0.mk hs; have HB3 := Aside0.mk (HB2.out.trans (hb.mono HB2.out.size)); clear hs hb)
        have hd5 := HD5.out
        rw [hz0] at hd5
        obtain ⟨ad6, m6, c6, rfl, hm6, k7⟩ := hd5.first
        have hm6p : 0 < m6 := by omega
        have hz6 : ((m6 : Int) == 0) = false := by rw [beq_eq_false_iff_ne]; omega
        have HVV := Aside0.mk (HVC.out w3 _ HB3.out HD5.out)
        have k6 := blk116 HBX.out HB3.out
        clear hm6 hd5 k3 hcut5
        go_wp2_with (go_at_call 94; (with_reducible refine HVV.out.mono ?_); rintro e w5 ⟨v6, v7, K, rfl, -, -, hv7, hb5⟩; have HV7 := Aside0.mk hv7; have HB5 := Aside0.mk (HB3.out.trans (hb5.mono HB3.out.size)); clear hv7 hb5)
        go_roundg k1
        case measure => omega
        case rel => exact ⟨j + 1, xs, ks.tail, rest', rfl, by go_num, ⟨by have := HXS.out.1; simpa using this, by have := HXS.out.2.1; omega, fun y hy => HXS.out.2.2 y (List.mem_cons_of_mem _ hy)⟩, ⟨by rw [HRE'.out]; simp⟩, HRN, HV7, HB5⟩
end Go.Proofs.YtekmminmgjoabaaDoor.Js

namespace Go.Proofs.YtekmminmgjoabaaDoor.Js
open Go.RowKit Go.Proofs.YtekmminmgjoabaaDoorW.PrintWords Go.Proofs.YtekmminmgjoabaaDoorW.PrintLast Go.Proofs.YtekmminmgjoabaaDoorW.PrintMore Go.Proofs.YtekmminmgjoabaaDoor.PFnJSTokens
set_option linter.unusedVariables false
set_option linter.unusedSimpArgs false
theorem str_parse (w : World) (B : Nat) (v : Value) (key r : List Int) (p q : Bool) (K0 : Int) (hK0 : 0 ≤ K0) (hK1 : K0 < 64) (hk : Plain 4 key) (hs : Sl w B v (key ++ r)) (hby : Bytes (key ++ r)) (hl : (key ++ r).length < 4000000000) (hq : q = true → 92 ∉ key ++ r) (ht : Tab w) (hB : B ≤ w.heap.size) :
    Calls Tryd.prog 80 #[.agg #[.int .u32 (flK p q K0)], v] w (ParsePost w B key r (KSet 4 key)) := by
  cases hk with
  | @str l h =>
    have e1 : (34 :: (l ++ [34])) ++ r = 34 :: (l ++ 34 :: r) := by simp
    have hsa := strAt_init (r := r) h
    rw [e1] at hs hby hl hq
    obtain ⟨A, m, c, rfl, hm⟩ := hs.formv
    refine (pstr_calls w B A m c _ _ l (l.length + 1) p q (by omega) hby hs hB rfl hsa (flK_fl p q K0 hK0 hK1) hq ht).mono ?_
    rintro e w' ⟨v1, v2, K, rfl, hk, a1, a2, a3⟩
    have t1 : (34 :: (l ++ 34 :: r)).take (l.length + 1 + 1) = 34 :: (l ++ [34]) := by
      rw [List.take_succ_cons, show l ++ 34 :: r = (l ++ [34]) ++ r by simp, List.take_left' (by simp)]
    have t2 : (34 :: (l ++ 34 :: r)).drop (l.length + 1 + 1) = r := by
      rw [List.drop_succ_cons, show l ++ 34 :: r = (l ++ [34]) ++ r by simp, List.drop_left' (by simp)]
    rw [t1] at a1
    rw [t2] at a2
    refine ⟨v1, v2, K, rfl, ⟨?_, ?_, ?_⟩, a1, a2, a3⟩
    · rcases hk with ⟨h, -⟩ | ⟨h, -⟩ <;> omega
    · rcases hk with ⟨h, -⟩ | ⟨h, -⟩ <;> (unfold Cls; omega)
    · intro h9
      rcases hk with ⟨-, h⟩ | ⟨h8, -⟩
      · intro hm
        simp only [List.mem_cons, List.mem_append, List.not_mem_nil, or_false] at hm
        rcases hm with h | h | h
        · cases h
        · contradiction
        · cases h
      · omega
set_option maxHeartbeats 4000000 in
set_option maxRecDepth 100000 in
theorem obj_calls (items : List JN) (keys : List (List Int)) (hkl : keys.length = items.length) (hks : ∀ s ∈ keys, Plain 4 s) (hok : ∀ x ∈ items, JOk x) (ih : ∀ x ∈ items, ValC x) (w : World) (B : Nat) (ad : Addr) (m c : Nat) (r : List Int) (p q : Bool) (K0 : Int) (hK0 : 0 ≤ K0) (hK1 : K0 < 64) (hJ : Sl w B (.slice (some ad) m c) (123 :: (JN.itxt items keys true 0 ++ 125 :: r))) (hby : Bytes (123 :: (JN.itxt items keys true 0 ++ 125 :: r))) (hlen : (123 :: (JN.itxt items keys true 0 ++ 125 :: r)).length < 4000000000) (hq : q = true → 92 ∉ 123 :: (JN.itxt items keys true 0 ++ 125 :: r)) (ht : Tab w) (h3 : 3 < B) (hB : B ≤ w.heap.size) :
    Calls Tryd.prog 132 #[.agg #[.int .u32 (flK p q K0)], .slice (some ad) m c] w (ParsePost w B (123 :: (JN.itxt items keys true 0 ++ [125])) r (fun K => K = 32)) := by
  have hml := hJ.len.1
  have hm2 : 2 ≤ m := by rw [hml]; simp; omega
  have hmx : m < 4000000000 := by rw [hml]; exact hlen
  obtain ⟨A1, hcut, hd⟩ := hJ.next 22 1 .i64 Tryd.underlying22 (by omega)
  obtain ⟨ad2, had, c0, -⟩ := hJ.at_ 0 (by omega)
  obtain rfl : ad = ad2 := by injection had
  have e0 : ad.add 0 = ad := by simp [Addr.add]
  rw [e0] at c0
  obtain ⟨fl, hfl⟩ : ∃ fl, fl = flK p q K0 := ⟨_, rfl⟩
  rw [← hfl]
  have HFL := Aside0.mk hfl
  obtain ⟨w0, hw0⟩ : ∃ w0, w0 = w.alloc (.cells #[.int .u32 fl] 116) := ⟨_, rfl⟩
  have hal : Below w.heap.size w w0 := by rw [hw0]; exact below_alloc (Below.refl w.heap.size w) _
  have HBX := Aside0.mk (show w0.heap[w.heap.size]? = some (.cells #[.int .u32 fl] 116 (0, 0)) by rw [hw0]; exact blk_new w _)
  have c1 : w0.cell? ad = some (.int .u8 123) := (pw_cell_below hal c0).trans rfl
  have HAL := Aside0.mk hal
  obtain ⟨rest0, hrest0⟩ : ∃ rest0, rest0 = JN.itxt items keys true 0 ++ 125 :: r := ⟨_, rfl⟩
  rw [← hrest0] at hJ hby hlen hq hd hml
  have HR0 := Aside0.mk (show Rest (123 :: rest0) rest0 q from (⟨hby, hq, Nat.le_refl _⟩ : Rest (123 :: rest0) ([123] ++ rest0) q).back)
  have HD := Aside0.mk (show Sl w0 B (.slice A1 (m - 1) (c - 1)) rest0 from hd.below (hal.mono hB))
  have HJ := Aside0.mk hJ
  have HM := Aside0.mk (show m = rest0.length + 1 by rw [hml]; rfl)
  have HREST := Aside0.mk hrest0
  have HT := Aside0.mk ht
  have H3 := Aside0.mk (And.intro h3 hB)
  have HIH := Aside0.mk (fun x hx => And.intro (hok x hx) (ih x hx))
  have HKB := Aside0.mk (And.intro hK0 hK1)
  have HKY := Aside0.mk (And.intro hkl hks)
  have hcut1 : ∀ W : World, (Instr.slice 22 (.slice (some ad) m c) (some (.int .i64 1)) none none).run Tryd.prog W = .ok (.slice A1 (m - 1) (c - 1)) W := hcut
  clear hJ hby hlen hq hd hml ht h3 hB hok ih hkl hks hK0 hK1 had e0 c0 hal hfl hrest0 hcut
  have hn2 : ¬ ((m : Int) < 2) := by omega
  go_enter Tryd.func132, Tryd.ntmps132
  go_upto_region 3 with (fail)
  rw [← hw0]
  clear hw0
  go_upto_region 10 with (fail)
  clear hcut1 c1 hn2
  obtain ⟨mm, hmm⟩ : ∃ mm, mm = m - 1 := ⟨_, rfl⟩
  obtain ⟨cc1, hcc1⟩ : ∃ cc1, cc1 = c - 1 := ⟨_, rfl⟩
  rw [← hmm, ← hcc1] at HD ⊢
  clear hmm hcc1
  have HKEY := Aside0.mk (show JN.itxt items keys true ((0 : Nat) : Int) ++ 125 :: r = rest0 from HREST.out.symm)
  go_loopg [1, 8, 11] items.length (fun gk v1 v8 v11 w' => ∃ (j : Nat) (xs : List JN) (ks : List (List Int)) (rest : List Int), v8 = .nilIface ∧ v11 = .int .i64 (j : Int) ∧ Aside0 (xs.length = gk ∧ j + gk = items.length ∧ (∀ x ∈ xs, x ∈ items)) ∧ Aside0 (ks.length = xs.length ∧ ∀ s ∈ ks, Plain 4 s) ∧ Aside0 (rest = JN.itxt xs ks true (j : Int) ++ 125 :: r) ∧ Aside0 (Rest (123 :: rest0) rest q ∧ rest.length + j ≤ rest0.length) ∧ Aside0 (Sl w' B v1 rest) ∧ Aside0 (Below w0.heap.size w0 w'))
  case atStart => exact ⟨0, items, keys, rest0, rfl, rfl, ⟨rfl, by omega, fun x hx => hx⟩, HKY, ⟨HKEY.out.symm⟩, ⟨HR0.out, Nat.le_refl _⟩, HD, ⟨Below.refl _ _⟩⟩
  case round =>
    obtain ⟨j, xs, ks, rest, rfl, rfl, HXS, HKS, HRE, HRR, HDr, HBr⟩ := hrel
    have HS := Aside0.mk (fun (W : World) (v : Value) (zs : List Int) (hW : Below w0.heap.size w0 W) (h : Sl W B v zs) (hz : Bytes zs) => (show Calls Tryd.prog 95 #[v] W fun e w' => ∃ v', e = .returned v' ∧ Sl w' B v' (skipF zs) ∧ Below W.heap.size W w' by
      obtain ⟨A, c, rfl, -⟩ := h.form
      exact skip_calls W B A _ c zs h hz (Nat.le_trans H3.out.2 (Nat.le_trans HAL.out.size hW.size))))
    cases gk with
    | zero =>
      obtain rfl : xs = [] := List.eq_nil_of_length_eq_zero HXS.out.1
      have hre : rest = 125 :: r := HRE.out
      subst hre
      have HSK := Aside0.mk (HS.out wr _ _ HBr.out HDr.out HRR.out.1.bytes)
      obtain ⟨A2, m2, c2, rfl, hm2⟩ := HDr.out.formv
      clear hm2
      go_upto_region 11 with (go_at_call 95; (with_reducible refine HSK.out.mono ?_); rintro e w2 ⟨v2, rfl, hs, hb⟩; rw [skip_none (by rfl)] at hs; have HD2 := Aside0.mk hs; have HB2 := Aside0.mk (HBr.out.trans (hb.mono HBr.out.size)); clear hs hb)
      obtain ⟨ad3, m3, c3, rfl, hm3, k3⟩ := HD2.out.first
      have hm3p : 0 < m3 := by omega
      have hz3 : ((m3 : Int) == 0) = false := by rw [beq_eq_false_iff_ne]; omega
      obtain ⟨e1, he1⟩ : ∃ e1 : Nat, e1 = (123 :: (JN.itxt items keys true 0 ++ [125])).length := ⟨_, rfl⟩
      have hlr := congrArg List.length HREST.out
      have hme : m = e1 + r.length := by
        have := HM.out
        rw [he1]
        simp only [List.length_append, List.length_cons, List.length_nil] at hlr ⊢
        omega
      have sw : IntKind.i64.wrap (IntKind.i64.wrap ((m : Int) - (m3 : Int)) + 1) = (e1 : Int) := by rw [IntKind.wrap_i64, IntKind.wrap_i64]; omega
      have sw1 : IntKind.i64.wrap ((m : Int) - (m3 : Int)) = (e1 : Int) - 1 := by rw [IntKind.wrap_i64]; omega
      have sw2 : IntKind.i64.wrap ((e1 : Int) - 1 + 1) = (e1 : Int) := by rw [IntKind.wrap_i64]; omega
      obtain ⟨A9, hcA, hcB, hdA, hdB⟩ := HJ.out.both 22 e1 (e1 : Int) .i64 Tryd.underlying22 rfl (by omega)
      have htk : (123 :: rest0).take e1 = 123 :: (JN.itxt items keys true 0 ++ [125]) ∧ (123 :: rest0).drop e1 = r := by
        have e : 123 :: rest0 = (123 :: (JN.itxt items keys true 0 ++ [125])) ++ r := by rw [HREST.out]; simp
        rw [e]
        exact ⟨List.take_left' he1.symm, List.drop_left' he1.symm⟩
      rw [htk.1] at hdA
      rw [htk.2] at hdB
      have HDA := Aside0.mk hdA
      have HDB := Aside0.mk hdB
      have sw3 : wrap64 (e1 : Int) = (e1 : Int) := by first | omega | (unfold wrap64; omega)
      clear hlr hme hdA hdB htk he1 hm3 sw
      go_upto_region 15 with (fail)
      go_region
      all_goals
        go_wp2_with fail
        go_returns
        refine ⟨.slice (some ad) e1 c, .slice A9 (m - e1) (c - e1), 32, by rfl, rfl, ?_, ?_, ?_⟩
        · exact HDA.out.below ((below_drew (HAL.out.trans (HB2.out.mono HAL.out.size))).mono H3.out.2)
        · exact HDB.out.below ((below_drew (HAL.out.trans (HB2.out.mono HAL.out.size))).mono H3.out.2)
        · exact below_drew (HAL.out.trans (HB2.out.mono HAL.out.size))
    | succ k1 =>
      cases xs with
      | nil => exact absurd HXS.out.1 (by simp)
      | cons x xs =>
      cases ks with
      | nil => exact absurd HKS.out.1 (by simp)
      | cons key ks =>
      have hkp := HKS.out.2 key List.mem_cons_self
      obtain ⟨hxok, hxv⟩ := HIH.out x (HXS.out.2.2 x List.mem_cons_self)
      obtain ⟨rest', hrest'⟩ : ∃ rest', rest' = JN.itxt xs ks true ((j : Int) + 1) ++ 125 :: r := ⟨_, rfl⟩
      have hre : rest = (if (0 : Int) < (j : Int) then [44] else []) ++ (key ++ 58 :: (x.txt ++ rest')) := by
        rw [HRE.out, JN.itxt, hrest']; simp
      have HRE' := Aside0.mk hrest'
      obtain ⟨zs, hzs⟩ : ∃ zs, zs = x.txt ++ rest' := ⟨_, rfl⟩
      rw [← hzs] at hre
      obtain ⟨ys, hys⟩ : ∃ ys, ys = key ++ 58 :: zs := ⟨_, rfl⟩
      rw [← hys] at hre
      have HRY := Aside0.mk (show Rest (123 :: rest0) ys q by have h := HRR.out.1; rw [hre] at h; exact h.back)
      have HRC := Aside0.mk (show Rest (123 :: rest0) (58 :: zs) q by have h := HRY.out; rw [hys] at h; exact h.back)
      have HRZ := Aside0.mk (show Rest (123 :: rest0) zs q from (show Rest (123 :: rest0) ([58] ++ zs) q from HRC.out).back)
      have HKC := Aside0.mk (fun (W : World) (v : Value) (hW : Below w0.heap.size w0 W) (hs : Sl W B v ys) => (show Calls Tryd.prog 80 #[.agg #[.int .u32 fl], v] W (ParsePost W B key (58 :: zs) (KSet 4 key)) by
        rw [hys] at hs
        have hb := HRY.out
        rw [hys] at hb
        have hl := hb.long
        have hm := HM.out
        rw [HFL.out]
        exact str_parse W B v key (58 :: zs) p q K0 HKB.out.1 HKB.out.2 hkp hs hb.bytes (by simp only [List.length_cons] at hl ⊢; omega) hb.noesc (HT.out.base H3.out.1 ((HAL.out.trans (hW.mono HAL.out.size)).mono H3.out.2)) (Nat.le_trans H3.out.2 (Nat.le_trans HAL.out.size hW.size))))
      obtain ⟨kb, kr, hkb, -⟩ : ∃ kb kr, key = kb :: kr ∧ kb = 34 := by cases hkp; exact ⟨_, _, rfl, rfl⟩
      obtain rfl : kb = 34 := by cases hkp; injection hkb with h; exact h.symm
      have hy0 : ys = 34 :: (kr ++ 58 :: zs) := by rw [hys, hkb]; rfl
      have HRN0 := Aside0.mk (show Rest (123 :: rest0) rest' q by have h := HRZ.out; rw [hzs] at h; exact h.back)
      have HVC := Aside0.mk (fun (W : World) (v : Value) (hW : Below w0.heap.size w0 W) (hs : Sl W B v zs) => (show Calls Tryd.prog 94 #[.agg #[.int .u32 fl], v] W (ParsePost W B x.txt rest' (KSet x.kind x.txt)) by
        rw [hzs] at hs
        have hb := HRZ.out
        rw [hzs] at hb
        have hl := hb.long
        have hm := HM.out
        rw [HFL.out]
        refine hxv W B v rest' p q K0 HKB.out.1 HKB.out.2 hs hb.bytes (by simp only [List.length_cons] at hl; omega) hb.noesc (fun _ => ?_) (HT.out.base H3.out.1 ((HAL.out.trans (hW.mono HAL.out.size)).mono H3.out.2)) H3.out.1 (Nat.le_trans H3.out.2 (Nat.le_trans HAL.out.size hW.size))
        rw [hrest']
        obtain ⟨b, l, e, hb⟩ := itxt_behind true 125 (.inr rfl) xs ks ((j : Int) + 1) (by omega) r
        rw [e]
        exact numEnd_of hb))
      obtain ⟨b0, l0, hbl, hbeg⟩ := txt_begins hxok
      have hz0 : zs = b0 :: (l0 ++ rest') := by rw [hzs, hbl]; rfl
      have HRN := Aside0.mk (show Rest (123 :: rest0) rest' q ∧ rest'.length + (j + 1) ≤ rest0.length by
        refine ⟨HRN0.out, ?_⟩
        have h1 := HRR.out.2
        have h2 := congrArg List.length hre
        rw [hy0, hz0] at h2
        simp only [List.length_append, List.length_cons] at h2
        omega)
      have hjb : j < 4000000000 := by have h1 := HRN.out.2; have h2 := HM.out; omega
      have hsp := hbeg.sp
      clear hbl hbeg hxok hxv hrest' hzs hys hkb hkp
      rcases Nat.eq_zero_or_pos j with rfl | hj
      · have hre0 : rest = ys := by rw [hre, if_neg (by decide)]; rfl
        subst hre0
        have HSK := Aside0.mk (HS.out wr _ _ HBr.out HDr.out HRR.out.1.bytes)
        rw [hy0, skip_none (by rfl), ← hy0] at HSK
        obtain ⟨A2, m2, c2, rfl, hm2⟩ := HDr.out.formv
        clear hm2 hre
        go_upto_region 11 with (go_at_call 95; (with_reducible refine HSK.out.mono ?_); rintro e w2 ⟨v2, rfl, hs, hb⟩; have HD2 := Aside0.mk hs; have HB2 := Aside0.mk (HBr.out.trans (hb.mono HBr.out.size)); clear hs hb)
        have hd2 := HD2.out
        rw [hy0] at hd2
        obtain ⟨ad3, m3, c3, rfl, hm3, k3⟩ := hd2.first
        have hm3p : 0 < m3 := by omega
        have hz3 : ((m3 : Int) == 0) = false := by rw [beq_eq_false_iff_ne]; omega
        have HVV := Aside0.mk (HKC.out w2 _ HB2.out HD2.out)
        have k6 := blk116 HBX.out HB2.out
        clear hm3 hd2
        go_upto_region 29 with (go_at_call 80; (with_reducible refine HVV.out.mono ?_); rintro e w4 ⟨v6, v7, K, rfl, -, -, hv7, hb5⟩; have HV7 := Aside0.mk hv7; have HB4 := Aside0.mk (HB2.out.trans (hb5.mono HB2.out.size)); clear hv7 hb5)
        have HSK3 := Aside0.mk (HS.out w4 _ _ HB4.out HV7.out HRC.out.bytes)
        rw [skip_none (by rfl)] at HSK3
        obtain ⟨A7, m7, c7, rfl, hm7⟩ := HV7.out.formv
        clear hm7 k6 k3
        go_upto_region 30 with (go_at_call 95; (with_reducible refine HSK3.out.mono ?_); rintro e w5 ⟨v8, rfl, hs, hb⟩; have HD8 := Aside0.mk hs; have HB5 := Aside0.mk (HB4.out.trans (hb.mono HB4.out.size)); clear hs hb)
        obtain ⟨ad8, m8, c8, rfl, hm8, k8⟩ := HD8.out.first
        have hm8p : 0 < m8 := by omega
        have hz8 : ((m8 : Int) == 0) = false := by rw [beq_eq_false_iff_ne]; omega
        obtain ⟨A9, hcut9, hd9⟩ := HD8.out.next 22 1 .i64 Tryd.underlying22 (by omega)
        have hcut10 : ∀ W : World, (Instr.slice 22 (.slice (some ad8) m8 c8) (some (.int .i64 1)) none none).run Tryd.prog W = .ok (.slice A9 (m8 - 1) (c8 - 1)) W := hcut9
        have HD9 := Aside0.mk (show Sl w5 B (.slice A9 (m8 - 1) (c8 - 1)) zs from hd9)
        have HSK4 := Aside0.mk (HS.out w5 _ _ HB5.out HD9.out HRZ.out.bytes)
        rw [hz0, skip_none hsp, ← hz0] at HSK4
        clear hm8 hcut9 hd9
        go_upto_region 35 with (go_at_call 95; (with_reducible refine HSK4.out.mono ?_); rintro e w6 ⟨v9, rfl, hs, hb⟩; have HD10 := Aside0.mk hs; have HB6 := Aside0.mk (HB5.out.trans (hb.mono HB5.out.size)); clear hs hb)
        obtain ⟨A11, m11, c11, rfl, hm11⟩ := HD10.out.formv
        have HVW := Aside0.mk (HVC.out w6 _ HB6.out HD10.out)
        have k10 := blk116 HBX.out HB6.out
        clear hm11 k8 hcut10
        go_wp2_with (go_at_call 94; (with_reducible refine HVW.out.mono ?_); rintro e w7 ⟨v12, v13, K2, rfl, -, -, hv13, hb7⟩; have HV13 := Aside0.mk hv13; have HB7 := Aside0.mk (HB6.out.trans (hb7.mono HB6.out.size)); clear hv13 hb7)
        go_roundg k1
        case measure => omega
        case rel => exact ⟨1, xs, ks, rest', rfl, by go_num, ⟨by have := HXS.out.1; simpa using this, by have := HXS.out.2.1; omega, fun y hy => HXS.out.2.2 y (List.mem_cons_of_mem _ hy)⟩, ⟨by have := HKS.out.1; simpa using this, fun s hs => HKS.out.2 s (List.mem_cons_of_mem _ hs)⟩, HRE', HRN, HV13, HB7⟩
      · have hre0 : rest = 44 :: ys := by rw [hre, if_pos (by omega)]; rfl
        subst hre0
        have hjz : ((j : Int) != 0) = true := by rw [bne_iff_ne]; omega
        have HSK := Aside0.mk (HS.out wr _ _ HBr.out HDr.out HRR.out.1.bytes)
        rw [skip_none (by rfl)] at HSK
        obtain ⟨A2, m2, c2, rfl, hm2⟩ := HDr.out.formv
        clear hm2 hre
        go_upto_region 11 with (go_at_call 95; (with_reducible refine HSK.out.mono ?_); rintro e w2 ⟨v2, rfl, hs, hb⟩; have HD2 := Aside0.mk hs; have HB2 := Aside0.mk (HBr.out.trans (hb.mono HBr.out.size)); clear hs hb)
        obtain ⟨ad3, m3, c3, rfl, hm3, k3⟩ := HD2.out.first
        have hm3p : 0 < m3 := by omega
        have hz3 : ((m3 : Int) == 0) = false := by rw [beq_eq_false_iff_ne]; omega
        obtain ⟨A4, hcut4, hd4⟩ := HD2.out.next 22 1 .i64 Tryd.underlying22 (by omega)
        have hcut5 : ∀ W : World, (Instr.slice 22 (.slice (some ad3) m3 c3) (some (.int .i64 1)) none none).run Tryd.prog W = .ok (.slice A4 (m3 - 1) (c3 - 1)) W := hcut4
        have HD4 := Aside0.mk (show Sl w2 B (.slice A4 (m3 - 1) (c3 - 1)) ys from hd4)
        have HSK2 := Aside0.mk (HS.out w2 _ _ HB2.out HD4.out HRY.out.bytes)
        rw [hy0, skip_none (by rfl), ← hy0] at HSK2
        clear hm3 hcut4 hd4
        go_upto_region 22 with (go_at_call 95; (with_reducible refine HSK2.out.mono ?_); rintro e w3 ⟨v3, rfl, hs, hb⟩; have HD5 := Aside0.mk hs; have HB3 := Aside0.mk (HB2.out.trans (hb.mono HB2.out.size)); clear hs hb)
        have hd5 := HD5.out
        rw [hy0] at hd5
        obtain ⟨ad6, m6, c6, rfl, hm6, k7⟩ := hd5.first
        have hm6p : 0 < m6 := by omega
        have hz6 : ((m6 : Int) == 0) = false := by rw [beq_eq_false_iff_ne]; omega
        have HVV := Aside0.mk (HKC.out w3 _ HB3.out HD5.out)
        have k6 := blk116 HBX.out HB3.out
        clear hm6 hd5 k3 hcut5
        go_upto_region 29 with (go_at_call 80; (with_reducible refine HVV.out.mono ?_); rintro e w4 ⟨v6, v7, K, rfl, -, -, hv7, hb5⟩; have HV7 := Aside0.mk hv7; have HB4 := Aside0.mk (HB3.out.trans (hb5.mono HB3.out.size)); clear hv7 hb5)
        have HSK3 := Aside0.mk (HS.out w4 _ _ HB4.out HV7.out HRC.out.bytes)
        rw [skip_none (by rfl)] at HSK3
        obtain ⟨A7, m7, c7, rfl, hm7⟩ := HV7.out.formv
        clear hm7 k6 k7
        go_upto_region 30 with (go_at_call 95; (with_reducible refine HSK3.out.mono ?_); rintro e w5 ⟨v8, rfl, hs, hb⟩; have HD8 := Aside0.mk hs; have HB5 := Aside0.mk (HB4.out.trans (hb.mono HB4.out.size)); clear hs hb)
        obtain ⟨ad8, m8, c8, rfl, hm8, k8⟩ := HD8.out.first
        have hm8p : 0 < m8 := by omega
        have hz8 : ((m8 : Int) == 0) = false := by rw [beq_eq_false_iff_ne]; omega
        obtain ⟨A9, hcut9, hd9⟩ := HD8.out.next 22 1 .i64 Tryd.underlying22 (by omega)
        have hcut10 : ∀ W : World, (Instr.slice 22 (.slice (some ad8) m8 c8) (some (.int .i64 1)) none none).run Tryd.prog W = .ok (.slice A9 (m8 - 1) (c8 - 1)) W := hcut9
        have HD9 := Aside0.mk (show Sl w5 B (.slice A9 (m8 - 1) (c8 - 1)) zs from hd9)
        have HSK4 := Aside0.mk (HS.out w5 _ _ HB5.out HD9.out HRZ.out.bytes)
        rw [hz0, skip_none hsp, ← hz0] at HSK4
        clear hm8 hcut9 hd9
        go_upto_region 35 with (go_at_call 95; (with_reducible refine HSK4.out.mono ?_); rintro e w6 ⟨v9, rfl, hs, hb⟩; have HD10 := Aside0.mk hs; have HB6 := Aside0.mk (HB5.out.trans (hb.mono HB5.out.size)); clear hs hb)
        obtain ⟨A11, m11, c11, rfl, hm11⟩ := HD10.out.formv
        have HVW := Aside0.mk (HVC.out w6 _ HB6.out HD10.out)
        have k10 := blk116 HBX.out HB6.out
        clear hm11 k8 hcut10
        go_wp2_with (go_at_call 94; (with_reducible refine HVW.out.mono ?_); rintro e w7 ⟨v12, v13, K2, rfl, -, -, hv13, hb7⟩; have HV13 := Aside0.mk hv13; have HB7 := Aside0.mk (HB6.out.trans (hb7.mono HB6.out.size)); clear hv13 hb7)
        go_roundg k1
        case measure => omega
        case rel => exact ⟨j + 1, xs, ks, rest', rfl, by go_num, ⟨by have := HXS.out.1; simpa using this, by have := HXS.out.2.1; omega, fun y hy => HXS.out.2.2 y (List.mem_cons_of_mem _ hy)⟩, ⟨by have := HKS.out.1; simpa using this, fun s hs => HKS.out.2 s (List.mem_cons_of_mem _ hs)⟩, ⟨by rw [HRE'.out]; simp⟩, HRN, HV13, HB7⟩
end Go.Proofs.YtekmminmgjoabaaDoor.Js

namespace Go.Proofs.YtekmminmgjoabaaDoor.Js
open Go.RowKit Go.Proofs.YtekmminmgjoabaaDoorW.PrintWords Go.Proofs.YtekmminmgjoabaaDoorW.PrintLast Go.Proofs.YtekmminmgjoabaaDoorW.PrintMore Go.Proofs.YtekmminmgjoabaaDoor.PFnJSTokens
set_option linter.unusedVariables false
set_option linter.unusedSimpArgs false
theorem ParsePost.imp {w : World} {B : Nat} {v r : List Int} {KS KS' : Int → Prop} {e : Ending} {w' : World} (h : ParsePost w B v r KS e w') (hk : ∀ K, KS K → KS' K) : ParsePost w B v r KS' e w' := by
  obtain ⟨v1, v2, K, h1, h2, h3⟩ := h
  exact ⟨v1, v2, K, h1, hk K h2, h3⟩
theorem val_leaf {k : Int} {t : List Int} {items : List JN} {keys : List (List Int)} (hp : Plain k t) : ValC (.mk k t items keys) := by
  intro w B v r p q K0 hK0 hK1 hs hby hl hq hnum ht h3 hB
  have hk5 := hp.kind
  have htx : (JN.mk k t items keys).txt = t := by rw [JN.txt, if_pos (by omega)]
  have hkd : (JN.mk k t items keys).kind = k := rfl
  rw [htx] at hs hby hl hq ⊢
  rw [hkd] at hnum ⊢
  obtain ⟨b, r0, e0, -⟩ := plain_first hp
  have hs0 := hs
  rw [e0] at hs0
  obtain ⟨ad, m, c, rfl, hm, -⟩ := hs0.first
  have hmp : 0 < m := by omega
  have hsb : ∀ W : World, Below w.heap.size w W → Sl W B (.slice (some ad) m c) (t ++ r) := fun W hW => hs.below (hW.mono hB)
  have htb : ∀ W : World, Below w.heap.size w W → Tab W := fun W hW => ht.base h3 (hW.mono hB)
  clear hs0 e0
  cases hp with
  | null => exact pv_null w B ad m c _ _ r _ _ hmp hs 110 rfl rfl ⟨fun W hW => (null_calls W B (some ad) m c _ _ r rfl (hsb W hW) hby (Nat.le_trans hB hW.size)).mono (by rintro e w' ⟨v1, v2, rfl, a1, a2, a3⟩; exact ⟨v1, v2, 1, rfl, ⟨by decide, .inr (.inl ⟨rfl, rfl⟩), fun h => by cases h⟩, a1, a2, a3⟩)⟩
  | yes => exact pv_yes w B ad m c _ _ r _ _ hmp hs 116 rfl rfl ⟨fun W hW => (true_calls W B (some ad) m c _ _ r rfl (hsb W hW) hby (Nat.le_trans hB hW.size)).mono (by rintro e w' ⟨v1, v2, rfl, a1, a2, a3⟩; exact ⟨v1, v2, 3, rfl, ⟨by decide, .inr (.inr (.inr (.inl ⟨rfl, rfl⟩))), fun h => by cases h⟩, a1, a2, a3⟩)⟩
  | no => exact pv_no w B ad m c _ _ r _ _ hmp hs 102 rfl rfl ⟨fun W hW => (false_calls W B (some ad) m c _ _ r rfl (hsb W hW) hby (Nat.le_trans hB hW.size)).mono (by rintro e w' ⟨v1, v2, rfl, a1, a2, a3⟩; exact ⟨v1, v2, 2, rfl, ⟨by decide, .inr (.inr (.inl ⟨rfl, rfl⟩)), fun h => by cases h⟩, a1, a2, a3⟩)⟩
  | num h =>
    obtain ⟨p0, p1, p2, hn⟩ := num_at h (hnum rfl)
    have hs1 := hn.sign
    have hb : (t ++ r).getD 0 0 = 45 ∨ (t ++ r).getD 0 0 = 48 ∨ (t ++ r).getD 0 0 = 49 ∨ (t ++ r).getD 0 0 = 50 ∨ (t ++ r).getD 0 0 = 51 ∨ (t ++ r).getD 0 0 = 52 ∨ (t ++ r).getD 0 0 = 53 ∨ (t ++ r).getD 0 0 = 54 ∨ (t ++ r).getD 0 0 = 55 ∨ (t ++ r).getD 0 0 = 56 ∨ (t ++ r).getD 0 0 = 57 := by
      rcases hs1 with ⟨-, h⟩ | ⟨-, h⟩
      · unfold Digit at h
        generalize (t ++ r).getD 0 0 = x at *
        omega
      · exact .inl h
    exact pv_num w B ad m c _ _ r _ _ hmp hs _ rfl hb ⟨fun W hW => (pnum_calls W B (some ad) m c _ _ p0 p1 p2 _ hn (hsb W hW) (Nat.le_trans hB hW.size)).mono (by
      rintro e w' ⟨v1, v2, K, rfl, hk, a1, a2, a3⟩
      rw [List.take_left] at a1
      rw [List.drop_left] at a2
      refine ⟨v1, v2, K, rfl, ⟨?_, ?_, ?_⟩, a1, a2, a3⟩
      · omega
      · unfold Cls; omega
      · intro h; omega)⟩
  | @str l h => exact pv_str w B ad m c _ _ r _ _ hmp hs 34 rfl rfl ⟨fun W hW => str_parse W B _ _ r p q K0 hK0 hK1 (.str h) (hsb W hW) hby hl hq (htb W hW) (Nat.le_trans hB hW.size)⟩
theorem val_all {n : JN} (h : JOk n) : ValC n := by
  induction h with
  | leaf hp => exact val_leaf hp
  | @arr t items keys hx ih =>
    intro w B v r p q K0 hK0 hK1 hs hby hl hq hnum ht h3 hB
    have htx : (JN.mk 5 t items keys).txt = 91 :: (JN.itxt items keys false 0 ++ [93]) := by rw [JN.txt, if_neg (by omega), if_neg (by omega)]
    have hkd : (JN.mk 5 t items keys).kind = 5 := rfl
    have e : (91 :: (JN.itxt items keys false 0 ++ [93])) ++ r = 91 :: (JN.itxt items keys false 0 ++ 93 :: r) := by simp
    rw [htx, hkd]
    rw [htx, e] at hs hby hl hq
    obtain ⟨ad, m, c, rfl, hm, -⟩ := hs.first
    refine pv_arr w B ad m c _ _ r _ _ (by omega) hs 91 rfl rfl ⟨fun W hW => (arr_calls items keys hx ih W B ad m c r p q K0 hK0 hK1 (hs.below (hW.mono hB)) hby hl hq (ht.base h3 (hW.mono hB)) h3 (Nat.le_trans hB hW.size)).mono (fun e w' h => h.imp ?_)⟩
    rintro K rfl
    exact ⟨by decide, by unfold Cls; decide, fun h => by cases h⟩
  | @obj t items keys hne hl0 hks hx ih =>
    intro w B v r p q K0 hK0 hK1 hs hby hl hq hnum ht h3 hB
    have htx : (JN.mk 6 t items keys).txt = 123 :: (JN.itxt items keys true 0 ++ [125]) := by rw [JN.txt, if_neg (by omega), if_pos rfl]
    have hkd : (JN.mk 6 t items keys).kind = 6 := rfl
    have e : (123 :: (JN.itxt items keys true 0 ++ [125])) ++ r = 123 :: (JN.itxt items keys true 0 ++ 125 :: r) := by simp
    rw [htx, hkd]
    rw [htx, e] at hs hby hl hq
    obtain ⟨ad, m, c, rfl, hm, -⟩ := hs.first
    refine pv_obj w B ad m c _ _ r _ _ (by omega) hs 123 rfl rfl ⟨fun W hW => (obj_calls items keys hl0 hks hx ih W B ad m c r p q K0 hK0 hK1 (hs.below (hW.mono hB)) hby hl hq (ht.base h3 (hW.mono hB)) h3 (Nat.le_trans hB hW.size)).mono (fun e w' h => h.imp ?_)⟩
    rintro K rfl
    exact ⟨by decide, by unfold Cls; decide, fun h => by cases h⟩
end Go.Proofs.YtekmminmgjoabaaDoor.Js

