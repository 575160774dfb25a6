/- Written by laws.py: the law on brackets that are closed by the other kind. -/
import Derived.Test.YtekmminmgjoabaaDoorJsLawD
import Derived.Test.YtekmminmgjoabaaDoorJsBad6
namespace Go.Proofs.YtekmminmgjoabaaDoor.Js
open Go.RowKit Go.Proofs.YtekmminmgjoabaaDoorW.PrintWords Go.Proofs.YtekmminmgjoabaaDoorW.PrintLast Go.Proofs.YtekmminmgjoabaaDoorW.PrintMore Go.Proofs.YtekmminmgjoabaaDoor.PFnJSTokens
set_option linter.unusedVariables false
set_option linter.unusedSimpArgs false
theorem arrN_ok {n : JN} (h : JOk n) : JOk (.mk 5 [] [n] []) := .arr (fun x hx => by simp at hx; subst hx; exact h)
theorem objN_ok {n : JN} (h : JOk n) : JOk (.mk 6 [] [n] [[34, 107, 34]]) := .obj (by simp) rfl (fun s hs => by simp at hs; subst hs; exact .str (l := [107]) (.raw (by decide) (by decide) (by decide) (by decide) .nil)) (fun x hx => by simp at hx; subst hx; exact h)
theorem arrN_toks (n : JN) : (JN.mk 5 [] [n] []).toks 0 0 = tkDelim 91 0 0 5 :: (n.toks 1 0 ++ [tkDelim 93 0 0 0]) := by
  rw [JN.toks, if_neg (by omega), if_neg (by omega)]
  simp [JN.itoks]
theorem objN_toks (n : JN) : (JN.mk 6 [] [n] [[34, 107, 34]]).toks 0 0 = tkDelim 123 0 0 6 :: ⟨0, [34, 107, 34], 1, 0, true, 4⟩ :: tkDelim 58 1 0 0 :: (n.toks 1 0 ++ [tkDelim 125 0 0 0]) := by
  rw [JN.toks, if_neg (by omega), if_pos rfl]
  simp [JN.itoks]
theorem sfx_cons0 (t : Tk) (ts : List Tk) (k : Nat) : sfx [] (t :: ts) k = t.val ++ sfx [] ts 0 := by
  rw [sfx_cons, blk_none, sfx_none, sfx_none, wtext_none ts (k + 1) 0]; rfl
theorem arrN_text {n : JN} (h : JOk n) : sfx [] ((JN.mk 5 [] [n] []).toks 0 0) 0 = 91 :: (sfx [] (n.toks 0 0) 0 ++ [93]) := by
  rw [arrN_toks, sfx_cons0, sfx_append, text_at h 1 0, sfx_cons0, sfx_none, sfx_none]
  simp [tkDelim, wtext]
theorem objN_text {n : JN} (h : JOk n) : sfx [] ((JN.mk 6 [] [n] [[34, 107, 34]]).toks 0 0) 0 = 123 :: 34 :: 107 :: 34 :: 58 :: (sfx [] (n.toks 0 0) 0 ++ [125]) := by
  rw [objN_toks, sfx_cons0, sfx_cons0, sfx_cons0, sfx_append, text_at h 1 0, sfx_cons0, sfx_none, sfx_none]
  simp [tkDelim, wtext]
theorem numEnd_one (c : Int) (h : c = 93 ∨ c = 125) : NumEnd [c] := by
  intro x t e
  obtain ⟨rfl, -⟩ : c = x ∧ _ := by simpa using e
  unfold Digit
  omega
set_option maxHeartbeats 4000000 in
set_option maxRecDepth 100000 in
theorem law_closed_false (w : World) (v1 : Value) (code : List Int) (h1 : Sl w w.heap.size v1 code) (hb1 : Bytes code) (ht : Tab w) :
    Calls Tryd.prog 3 #[v1, .bool false] w fun e w' => e = .returned (.bool true) ∧ Below w.heap.size w w' := by
  obtain ⟨A1, c1, rfl, -⟩ := h1.form
  obtain ⟨m1, hm1⟩ : ∃ m1, m1 = code.length := ⟨_, rfl⟩
  rw [← hm1] at h1 ⊢
  have hx1 : m1 ≤ 9223372036854775807 := by rw [hm1]; have := h1.cut.2.2.1.2.1; omega
  by_cases hs1 : 2147483647 < m1
  · clear h1 hb1 hm1 ht 
    go_enter Tryd.func3, Tryd.ntmps3
    go_wp2_with fail
    go_returns
    exact ⟨rfl, Below.refl _ _⟩
  have hn1 : ¬ (2147483647 : Int) < (m1 : Int) := by omega
  have HN := Aside0.mk (jsNode_calls w w.heap.size _ code (Nat.le_refl _) h1 hb1)
  have HC := Aside0.mk hb1
  have HT := Aside0.mk ht
  have HOK := Aside0.mk (made_ok hb1)
  obtain ⟨ys, hys⟩ : ∃ ys, ys = sfx [] ((jsN code).toks 0 0) 0 := ⟨_, rfl⟩
  have HY := Aside0.mk hys
  have HYB := Aside0.mk (show Bytes ys ∧ ys.length ≤ 9000000 by rw [hys]; exact ⟨sfx_bytes HOK.out.1 [], sfx_le hb1 []⟩)
  have HGOOD := Aside0.mk (show ∃ n, JOk n ∧ [91] ++ ys ++ [93] = sfx [] (n.toks 0 0) 0 ∧ (n.toks 0 0).length ≤ 2900010 by
    refine ⟨_, arrN_ok HOK.out.1, ?_, ?_⟩
    · rw [arrN_text HOK.out.1, hys]; simp
    · have h1 := congrArg List.length (vals_toks HOK.out.1 1 0 0 0)
      simp only [List.length_map] at h1
      rw [arrN_toks]; simp only [List.length_cons, List.length_append, List.length_nil]
      have := HOK.out.2.2; omega)
  have HBAD := Aside0.mk (show ∃ ls, TokRun ⟨[], false⟩ ([91] ++ ys ++ [125]) ls ⟨[(false, 1)], false⟩ [125] ∧ ls.length ≤ 2900010 by
    have h1 := congrArg List.length (vals_toks HOK.out.1 1 0 0 0)
    simp only [List.length_map] at h1
    have h2 := HOK.out.2.2
    have := run_inArr HOK.out.1 [125] (numEnd_one _ (.inr rfl))
    rw [text_at HOK.out.1 1 0, ← sfx_none _ 0, ← hys] at this
    refine ⟨_, (by simpa using this), ?_⟩
    rw [wrun_length]; simp only [List.length_cons]; omega)
  have HOE := Aside0.mk (show Bytes ([91] ++ ys ++ [93]) ∧ Bytes ([91] ++ ys ++ [125]) by
    have h1 : Bytes [91] := by intro x hx; simp at hx; omega
    have h2 : Bytes [93] := by intro x hx; simp at hx; omega
    have h3 : Bytes [125] := by intro x hx; simp at hx; omega
    exact ⟨bytes_append (bytes_append h1 HYB.out.1) h2, bytes_append (bytes_append h1 HYB.out.1) h3⟩)
  obtain ⟨z1, hz1⟩ : ∃ z1, z1 = [91] ++ ys ++ [93] := ⟨_, rfl⟩
  obtain ⟨z2, hz2⟩ : ∃ z2, z2 = [91] ++ ys ++ [125] := ⟨_, rfl⟩
  obtain ⟨z0, hz0⟩ : ∃ z0, z0 = [91] ++ ys := ⟨_, rfl⟩
  have q1 : ¬ (9223372036854775807 < 1 + (strOfNums ys).size) := by rw [strOf_size]; have := HYB.out.2; omega
  have q2 : ¬ (9223372036854775807 < 1 + (strOfNums ys).size + 1) := by rw [strOf_size]; have := HYB.out.2; omega
  have e1 : (⟨#[91]⟩ : ByteArray) ++ strOfNums ys ++ ⟨#[93]⟩ = strOfNums z1 := by rw [hz1, strOf_append, strOf_append]; rfl
  have e2 : (⟨#[91]⟩ : ByteArray) ++ strOfNums ys ++ ⟨#[125]⟩ = strOfNums z2 := by rw [hz2, strOf_append, strOf_append]; rfl
  have HE1 := Aside0.mk e1
  have HE2 := Aside0.mk e2
  rw [← hz1] at HGOOD HOE
  rw [← hz2] at HBAD HOE
  have HZL := Aside0.mk (show z1.length ≤ 9000010 ∧ z2.length ≤ 9000010 by have := HYB.out.2; rw [hz1, hz2]; simp only [List.length_append, List.length_cons, List.length_nil]; omega)
  have HGO := Aside0.mk (fun (W : World) (A : Option Addr) (m c : Nat) (hW : Below w.heap.size w W) (hs : Sl W W.heap.size (.slice A m c) z1) => (show Calls Tryd.prog 18 #[.slice A m c] W fun e w' => ∃ v, e = .returned (.tuple #[v, .bool true]) ∧ Below W.heap.size W w' by
    obtain ⟨n, h1, h2, h3⟩ := HGOOD.out
    have hlen : z1.length ≤ 2000000000 := by have := HZL.out; omega
    have hrun := run_node h1 []
    rw [← h2] at hrun
    refine (jsTok W A m c _ _ ⟨[], false⟩ _ true hs HOE.out.1 hlen hrun (by rw [btoks_length]; omega) (HT.out.below hW) (fun W' T p q hT hb hst _ => end_last W' W.heap.size T _ _ p q hT hst (fun c hc => blank_sp (blk_blank [] _ c hc)))).mono ?_
    rintro e w' ⟨v, h, -, hb⟩
    exact ⟨v, h, hb⟩))
  have HNO := Aside0.mk (fun (W : World) (A : Option Addr) (m c : Nat) (hW : Below w.heap.size w W) (hs : Sl W W.heap.size (.slice A m c) z2) => (show Calls Tryd.prog 18 #[.slice A m c] W fun e w' => ∃ v, e = .returned (.tuple #[v, .bool false]) ∧ Below W.heap.size W w' by
    obtain ⟨ls, h1, h2⟩ := HBAD.out
    have hlen : z2.length ≤ 2000000000 := by have := HZL.out; omega
    refine (doorBad W A m c _ _ ls _ hs HOE.out.2 hlen h1 (by omega) (HT.out.below hW) (fun W' T p q hT hst => ?_)).mono ?_
    · exact next_shut W' W.heap.size T ⟨[(false, 1)], false⟩ [125] [] [] 125 p q rfl (fun c hc => by simp at hc) (by simp) hT hst ⟨by decide, fun x hx => by simp at hx; subst hx; decide⟩
    · rintro e w' ⟨v, h, -, hb⟩
      exact ⟨v, h, hb⟩))
  clear h1 hb1 ht hm1 hs1 hys hz0 hz1 hz2 e1 e2 z0
  go_enter Tryd.func3, Tryd.ntmps3
  go_upto_region 7 with (first
    | (go_at_call 17; (with_reducible refine HN.out.mono ?_); rintro e w2 ⟨v, rfl, hnd, hb2⟩; have HND := Aside0.mk hnd; have HB2 := Aside0.mk hb2; have HW := Aside0.mk (jsWritten_calls w2 (jsN code) v (.slice none 0 0) [] HOK.out.1 (by have := HOK.out; unfold Room; omega) (hnd.lower (Nat.zero_le _)) (Sl.nil _ _) (fun x hx => by cases hx)); clear hnd hb2)
    | (go_at_call 16; (with_reducible refine HW.out.mono ?_); rintro e w4 ⟨tv, rfl, hr, hb4⟩; rw [← HY.out]; have HR := Aside0.mk hr; have HB4 := Aside0.mk (HB2.out.trans (hb4.mono HB2.out.size)); clear hr hb4))
  obtain ⟨cz, w5, hcv, hsl5, hb5⟩ := text_bytes w4 z1 HOE.out.1 (by have := HZL.out; omega)
  rw [← HE1.out] at hcv
  have HB5 := Aside0.mk (HB4.out.trans (hb5.mono HB4.out.size))
  have HD := Aside0.mk (HGO.out w5 _ _ _ HB5.out hsl5)
  clear hsl5 hb5
  go_upto_region 8 with (go_at_call 18; (with_reducible refine HD.out.mono ?_); rintro e w9 ⟨gv, rfl, hb9⟩; have HB9 := Aside0.mk (HB5.out.trans (hb9.mono HB5.out.size)); clear hb9)
  clear hcv
  obtain ⟨cz2, w10, hcv, hsl10, hb10⟩ := text_bytes w9 z2 HOE.out.2 (by have := HZL.out; omega)
  rw [← HE2.out] at hcv
  have HB10 := Aside0.mk (HB9.out.trans (hb10.mono HB9.out.size))
  have HD2 := Aside0.mk (HNO.out w10 _ _ _ HB10.out hsl10)
  clear hsl10 hb10
  go_wp2_with (first
    | (go_at_call 18; (with_reducible refine HD2.out.mono ?_); rintro e w11 ⟨gv2, rfl, hb11⟩; have HB11 := Aside0.mk (HB10.out.trans (hb11.mono HB10.out.size)); clear hb11)
    | (go_at_call 19; (with_reducible refine (awake_calls _ (HT.out.below HB11.out)).mono ?_); rintro e wz ⟨rfl, hbz⟩; have HBZ := Aside0.mk (HB11.out.trans (hbz.mono (HB11.out).size)); clear hbz))
  go_returns
  exact ⟨rfl, HBZ.out⟩
set_option maxHeartbeats 4000000 in
set_option maxRecDepth 100000 in
theorem law_closed_true (w : World) (v1 : Value) (code : List Int) (h1 : Sl w w.heap.size v1 code) (hb1 : Bytes code) (ht : Tab w) :
    Calls Tryd.prog 3 #[v1, .bool true] w fun e w' => e = .returned (.bool true) ∧ Below w.heap.size w w' := by
  obtain ⟨A1, c1, rfl, -⟩ := h1.form
  obtain ⟨m1, hm1⟩ : ∃ m1, m1 = code.length := ⟨_, rfl⟩
  rw [← hm1] at h1 ⊢
  have hx1 : m1 ≤ 9223372036854775807 := by rw [hm1]; have := h1.cut.2.2.1.2.1; omega
  by_cases hs1 : 2147483647 < m1
  · clear h1 hb1 hm1 ht 
    go_enter Tryd.func3, Tryd.ntmps3
    go_wp2_with fail
    go_returns
    exact ⟨rfl, Below.refl _ _⟩
  have hn1 : ¬ (2147483647 : Int) < (m1 : Int) := by omega
  have HN := Aside0.mk (jsNode_calls w w.heap.size _ code (Nat.le_refl _) h1 hb1)
  have HC := Aside0.mk hb1
  have HT := Aside0.mk ht
  have HOK := Aside0.mk (made_ok hb1)
  obtain ⟨ys, hys⟩ : ∃ ys, ys = sfx [] ((jsN code).toks 0 0) 0 := ⟨_, rfl⟩
  have HY := Aside0.mk hys
  have HYB := Aside0.mk (show Bytes ys ∧ ys.length ≤ 9000000 by rw [hys]; exact ⟨sfx_bytes HOK.out.1 [], sfx_le hb1 []⟩)
  have HGOOD := Aside0.mk (show ∃ n, JOk n ∧ [123, 34, 107, 34, 58] ++ ys ++ [125] = sfx [] (n.toks 0 0) 0 ∧ (n.toks 0 0).length ≤ 2900010 by
    refine ⟨_, objN_ok HOK.out.1, ?_, ?_⟩
    · rw [objN_text HOK.out.1, hys]; simp
    · have h1 := congrArg List.length (vals_toks HOK.out.1 1 0 0 0)
      simp only [List.length_map] at h1
      rw [objN_toks]; simp only [List.length_cons, List.length_append, List.length_nil]
      have := HOK.out.2.2; omega)
  have HBAD := Aside0.mk (show ∃ ls, TokRun ⟨[], false⟩ ([123, 34, 107, 34, 58] ++ ys ++ [93]) ls ⟨[(true, 1)], false⟩ [93] ∧ ls.length ≤ 2900010 by
    have h1 := congrArg List.length (vals_toks HOK.out.1 1 0 0 0)
    simp only [List.length_map] at h1
    have h2 := HOK.out.2.2
    have := run_inObj HOK.out.1 [93] (numEnd_one _ (.inl rfl))
    rw [text_at HOK.out.1 1 0, ← sfx_none _ 0, ← hys] at this
    refine ⟨_, (by simpa using this), ?_⟩
    rw [wrun_length]; simp only [List.length_cons]; omega)
  have HOE := Aside0.mk (show Bytes ([123, 34, 107, 34, 58] ++ ys ++ [125]) ∧ Bytes ([123, 34, 107, 34, 58] ++ ys ++ [93]) by
    have h1 : Bytes [123, 34, 107, 34, 58] := by intro x hx; simp at hx; omega
    have h2 : Bytes [125] := by intro x hx; simp at hx; omega
    have h3 : Bytes [93] := by intro x hx; simp at hx; omega
    exact ⟨bytes_append (bytes_append h1 HYB.out.1) h2, bytes_append (bytes_append h1 HYB.out.1) h3⟩)
  obtain ⟨z1, hz1⟩ : ∃ z1, z1 = [123, 34, 107, 34, 58] ++ ys ++ [125] := ⟨_, rfl⟩
  obtain ⟨z2, hz2⟩ : ∃ z2, z2 = [123, 34, 107, 34, 58] ++ ys ++ [93] := ⟨_, rfl⟩
  obtain ⟨z0, hz0⟩ : ∃ z0, z0 = [123, 34, 107, 34, 58] ++ ys := ⟨_, rfl⟩
  have q1 : ¬ (9223372036854775807 < 5 + (strOfNums ys).size) := by rw [strOf_size]; have := HYB.out.2; omega
  have q2 : ¬ (9223372036854775807 < 5 + (strOfNums ys).size + 1) := by rw [strOf_size]; have := HYB.out.2; omega
  have e1 : (⟨#[123, 34, 107, 34, 58]⟩ : ByteArray) ++ strOfNums ys ++ ⟨#[125]⟩ = strOfNums z1 := by rw [hz1, strOf_append, strOf_append]; rfl
  have e2 : (⟨#[123, 34, 107, 34, 58]⟩ : ByteArray) ++ strOfNums ys ++ ⟨#[93]⟩ = strOfNums z2 := by rw [hz2, strOf_append, strOf_append]; rfl
  have HE1 := Aside0.mk e1
  have HE2 := Aside0.mk e2
  rw [← hz1] at HGOOD HOE
  rw [← hz2] at HBAD HOE
  have HZL := Aside0.mk (show z1.length ≤ 9000010 ∧ z2.length ≤ 9000010 by have := HYB.out.2; rw [hz1, hz2]; simp only [List.length_append, List.length_cons, List.length_nil]; omega)
  have HGO := Aside0.mk (fun (W : World) (A : Option Addr) (m c : Nat) (hW : Below w.heap.size w W) (hs : Sl W W.heap.size (.slice A m c) z1) => (show Calls Tryd.prog 18 #[.slice A m c] W fun e w' => ∃ v, e = .returned (.tuple #[v, .bool true]) ∧ Below W.heap.size W w' by
    obtain ⟨n, h1, h2, h3⟩ := HGOOD.out
    have hlen : z1.length ≤ 2000000000 := by have := HZL.out; omega
    have hrun := run_node h1 []
    rw [← h2] at hrun
    refine (jsTok W A m c _ _ ⟨[], false⟩ _ true hs HOE.out.1 hlen hrun (by rw [btoks_length]; omega) (HT.out.below hW) (fun W' T p q hT hb hst _ => end_last W' W.heap.size T _ _ p q hT hst (fun c hc => blank_sp (blk_blank [] _ c hc)))).mono ?_
    rintro e w' ⟨v, h, -, hb⟩
    exact ⟨v, h, hb⟩))
  have HNO := Aside0.mk (fun (W : World) (A : Option Addr) (m c : Nat) (hW : Below w.heap.size w W) (hs : Sl W W.heap.size (.slice A m c) z2) => (show Calls Tryd.prog 18 #[.slice A m c] W fun e w' => ∃ v, e = .returned (.tuple #[v, .bool false]) ∧ Below W.heap.size W w' by
    obtain ⟨ls, h1, h2⟩ := HBAD.out
    have hlen : z2.length ≤ 2000000000 := by have := HZL.out; omega
    refine (doorBad W A m c _ _ ls _ hs HOE.out.2 hlen h1 (by omega) (HT.out.below hW) (fun W' T p q hT hst => ?_)).mono ?_
    · exact next_shut W' W.heap.size T ⟨[(true, 1)], false⟩ [93] [] [] 93 p q rfl (fun c hc => by simp at hc) (by simp) hT hst ⟨by decide, fun x hx => by simp at hx; subst hx; decide⟩
    · rintro e w' ⟨v, h, -, hb⟩
      exact ⟨v, h, hb⟩))
  clear h1 hb1 ht hm1 hs1 hys hz0 hz1 hz2 e1 e2 z0
  go_enter Tryd.func3, Tryd.ntmps3
  go_upto_region 7 with (first
    | (go_at_call 17; (with_reducible refine HN.out.mono ?_); rintro e w2 ⟨v, rfl, hnd, hb2⟩; have HND := Aside0.mk hnd; have HB2 := Aside0.mk hb2; have HW := Aside0.mk (jsWritten_calls w2 (jsN code) v (.slice none 0 0) [] HOK.out.1 (by have := HOK.out; unfold Room; omega) (hnd.lower (Nat.zero_le _)) (Sl.nil _ _) (fun x hx => by cases hx)); clear hnd hb2)
    | (go_at_call 16; (with_reducible refine HW.out.mono ?_); rintro e w4 ⟨tv, rfl, hr, hb4⟩; rw [← HY.out]; have HR := Aside0.mk hr; have HB4 := Aside0.mk (HB2.out.trans (hb4.mono HB2.out.size)); clear hr hb4))
  obtain ⟨cz, w5, hcv, hsl5, hb5⟩ := text_bytes w4 z1 HOE.out.1 (by have := HZL.out; omega)
  rw [← HE1.out] at hcv
  have HB5 := Aside0.mk (HB4.out.trans (hb5.mono HB4.out.size))
  have HD := Aside0.mk (HGO.out w5 _ _ _ HB5.out hsl5)
  clear hsl5 hb5
  go_upto_region 8 with (go_at_call 18; (with_reducible refine HD.out.mono ?_); rintro e w9 ⟨gv, rfl, hb9⟩; have HB9 := Aside0.mk (HB5.out.trans (hb9.mono HB5.out.size)); clear hb9)
  clear hcv
  obtain ⟨cz2, w10, hcv, hsl10, hb10⟩ := text_bytes w9 z2 HOE.out.2 (by have := HZL.out; omega)
  rw [← HE2.out] at hcv
  have HB10 := Aside0.mk (HB9.out.trans (hb10.mono HB9.out.size))
  have HD2 := Aside0.mk (HNO.out w10 _ _ _ HB10.out hsl10)
  clear hsl10 hb10
  go_wp2_with (first
    | (go_at_call 18; (with_reducible refine HD2.out.mono ?_); rintro e w11 ⟨gv2, rfl, hb11⟩; have HB11 := Aside0.mk (HB10.out.trans (hb11.mono HB10.out.size)); clear hb11)
    | (go_at_call 19; (with_reducible refine (awake_calls _ (HT.out.below HB11.out)).mono ?_); rintro e wz ⟨rfl, hbz⟩; have HBZ := Aside0.mk (HB11.out.trans (hbz.mono (HB11.out).size)); clear hbz))
  go_returns
  exact ⟨rfl, HBZ.out⟩
theorem law_closed (w : World) (v1 : Value) (code : List Int) (h1 : Sl w w.heap.size v1 code) (hb1 : Bytes code) (ht : Tab w) (ob : Bool) :
    Calls Tryd.prog 3 #[v1, .bool ob] w fun e w' => e = .returned (.bool true) ∧ Below w.heap.size w w' := by
  cases ob
  · exact law_closed_false w v1 code h1 hb1 ht
  · exact law_closed_true w v1 code h1 hb1 ht
end Go.Proofs.YtekmminmgjoabaaDoor.Js
