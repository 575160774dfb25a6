/- Written by val.py: parseValue over the text of any value. -/
import Derived.Test.YtekmminmgjoabaaDoorJsVobj
namespace Go.Proofs.YtekmminmgjoabaaDoor.Js
open Go.RowKit Go.Proofs.YtekmminmgjoabaaDoorW.PrintWords Go.Proofs.YtekmminmgjoabaaDoorW.PrintLast Go.Proofs.YtekmminmgjoabaaDoorW.PrintMore Go.Proofs.YtekmminmgjoabaaDoor.PFnJSTokens
set_option linter.unusedVariables false
set_option linter.unusedSimpArgs false
theorem ParsePost.imp {w : World} {B : Nat} {v r : List Int} {KS KS' : Int → Prop} {e : Ending} {w' : World} (h : ParsePost w B v r KS e w') (hk : ∀ K, KS K → KS' K) : ParsePost w B v r KS' e w' := by
  obtain ⟨v1, v2, K, h1, h2, h3⟩ := h
  exact ⟨v1, v2, K, h1, hk K h2, h3⟩
theorem val_leaf {k : Int} {t : List Int} {items : List JN} {keys : List (List Int)} (hp : Plain k t) : ValC (.mk k t items keys) := by
  intro w B v r p q K0 hK0 hK1 hs hby hl hq hnum ht h3 hB
  have hk5 := hp.kind
  have htx : (JN.mk k t items keys).txt = t := by rw [JN.txt, if_pos (by omega)]
  have hkd : (JN.mk k t items keys).kind = k := rfl
  rw [htx] at hs hby hl hq ⊢
  rw [hkd] at hnum ⊢
  obtain ⟨b, r0, e0, -⟩ := plain_first hp
  have hs0 := hs
  rw [e0] at hs0
  obtain ⟨ad, m, c, rfl, hm, -⟩ := hs0.first
  have hmp : 0 < m := by omega
  have hsb : ∀ W : World, Below w.heap.size w W → Sl W B (.slice (some ad) m c) (t ++ r) := fun W hW => hs.below (hW.mono hB)
  have htb : ∀ W : World, Below w.heap.size w W → Tab W := fun W hW => ht.base h3 (hW.mono hB)
  clear hs0 e0
  cases hp with
  | null => exact pv_null w B ad m c _ _ r _ _ hmp hs 110 rfl rfl ⟨fun W hW => (null_calls W B (some ad) m c _ _ r rfl (hsb W hW) hby (Nat.le_trans hB hW.size)).mono (by rintro e w' ⟨v1, v2, rfl, a1, a2, a3⟩; exact ⟨v1, v2, 1, rfl, ⟨by decide, .inr (.inl ⟨rfl, rfl⟩), fun h => by cases h⟩, a1, a2, a3⟩)⟩
  | yes => exact pv_yes w B ad m c _ _ r _ _ hmp hs 116 rfl rfl ⟨fun W hW => (true_calls W B (some ad) m c _ _ r rfl (hsb W hW) hby (Nat.le_trans hB hW.size)).mono (by rintro e w' ⟨v1, v2, rfl, a1, a2, a3⟩; exact ⟨v1, v2, 3, rfl, ⟨by decide, .inr (.inr (.inr (.inl ⟨rfl, rfl⟩))), fun h => by cases h⟩, a1, a2, a3⟩)⟩
  | no => exact pv_no w B ad m c _ _ r _ _ hmp hs 102 rfl rfl ⟨fun W hW => (false_calls W B (some ad) m c _ _ r rfl (hsb W hW) hby (Nat.le_trans hB hW.size)).mono (by rintro e w' ⟨v1, v2, rfl, a1, a2, a3⟩; exact ⟨v1, v2, 2, rfl, ⟨by decide, .inr (.inr (.inl ⟨rfl, rfl⟩)), fun h => by cases h⟩, a1, a2, a3⟩)⟩
  | num h =>
    obtain ⟨p0, p1, p2, hn⟩ := num_at h (hnum rfl)
    have hs1 := hn.sign
    have hb : (t ++ r).getD 0 0 = 45 ∨ (t ++ r).getD 0 0 = 48 ∨ (t ++ r).getD 0 0 = 49 ∨ (t ++ r).getD 0 0 = 50 ∨ (t ++ r).getD 0 0 = 51 ∨ (t ++ r).getD 0 0 = 52 ∨ (t ++ r).getD 0 0 = 53 ∨ (t ++ r).getD 0 0 = 54 ∨ (t ++ r).getD 0 0 = 55 ∨ (t ++ r).getD 0 0 = 56 ∨ (t ++ r).getD 0 0 = 57 := by
      rcases hs1 with ⟨-, h⟩ | ⟨-, h⟩
      · unfold Digit at h
        generalize (t ++ r).getD 0 0 = x at *
        omega
      · exact .inl h
    exact pv_num w B ad m c _ _ r _ _ hmp hs _ rfl hb ⟨fun W hW => (pnum_calls W B (some ad) m c _ _ p0 p1 p2 _ hn (hsb W hW) (Nat.le_trans hB hW.size)).mono (by
      rintro e w' ⟨v1, v2, K, rfl, hk, a1, a2, a3⟩
      rw [List.take_left] at a1
      rw [List.drop_left] at a2
      refine ⟨v1, v2, K, rfl, ⟨?_, ?_, ?_⟩, a1, a2, a3⟩
      · omega
      · unfold Cls; omega
      · intro h; omega)⟩
  | @str l h => exact pv_str w B ad m c _ _ r _ _ hmp hs 34 rfl rfl ⟨fun W hW => str_parse W B _ _ r p q K0 hK0 hK1 (.str h) (hsb W hW) hby hl hq (htb W hW) (Nat.le_trans hB hW.size)⟩
theorem val_all {n : JN} (h : JOk n) : ValC n := by
  induction h with
  | leaf hp => exact val_leaf hp
  | @arr t items keys hx ih =>
    intro w B v r p q K0 hK0 hK1 hs hby hl hq hnum ht h3 hB
    have htx : (JN.mk 5 t items keys).txt = 91 :: (JN.itxt items keys false 0 ++ [93]) := by rw [JN.txt, if_neg (by omega), if_neg (by omega)]
    have hkd : (JN.mk 5 t items keys).kind = 5 := rfl
    have e : (91 :: (JN.itxt items keys false 0 ++ [93])) ++ r = 91 :: (JN.itxt items keys false 0 ++ 93 :: r) := by simp
    rw [htx, hkd]
    rw [htx, e] at hs hby hl hq
    obtain ⟨ad, m, c, rfl, hm, -⟩ := hs.first
    refine pv_arr w B ad m c _ _ r _ _ (by omega) hs 91 rfl rfl ⟨fun W hW => (arr_calls items keys hx ih W B ad m c r p q K0 hK0 hK1 (hs.below (hW.mono hB)) hby hl hq (ht.base h3 (hW.mono hB)) h3 (Nat.le_trans hB hW.size)).mono (fun e w' h => h.imp ?_)⟩
    rintro K rfl
    exact ⟨by decide, by unfold Cls; decide, fun h => by cases h⟩
  | @obj t items keys hne hl0 hks hx ih =>
    intro w B v r p q K0 hK0 hK1 hs hby hl hq hnum ht h3 hB
    have htx : (JN.mk 6 t items keys).txt = 123 :: (JN.itxt items keys true 0 ++ [125]) := by rw [JN.txt, if_neg (by omega), if_pos rfl]
    have hkd : (JN.mk 6 t items keys).kind = 6 := rfl
    have e : (123 :: (JN.itxt items keys true 0 ++ [125])) ++ r = 123 :: (JN.itxt items keys true 0 ++ 125 :: r) := by simp
    rw [htx, hkd]
    rw [htx, e] at hs hby hl hq
    obtain ⟨ad, m, c, rfl, hm, -⟩ := hs.first
    refine pv_obj w B ad m c _ _ r _ _ (by omega) hs 123 rfl rfl ⟨fun W hW => (obj_calls items keys hl0 hks hx ih W B ad m c r p q K0 hK0 hK1 (hs.below (hW.mono hB)) hby hl hq (ht.base h3 (hW.mono hB)) h3 (Nat.le_trans hB hW.size)).mono (fun e w' h => h.imp ?_)⟩
    rintro K rfl
    exact ⟨by decide, by unfold Cls; decide, fun h => by cases h⟩
end Go.Proofs.YtekmminmgjoabaaDoor.Js
