/- A text of tokens is written. -/
import Derived.Test.YtekmminmgjoabaaDoorYKi
import Derived.Test.YtekmminmgjoabaaDoorYKj
namespace Go.Proofs.YtekmminmgjoabaaDoor.Js
open Go.RowKit Go.Proofs.YtekmminmgjoabaaDoorW.PrintWords Go.Proofs.YtekmminmgjoabaaDoorW.PrintLast Go.Proofs.YtekmminmgjoabaaDoorW.PrintMore Go.Proofs.YtekmminmgjoabaaDoor.PFnJSTokens
set_option linter.unusedVariables false
set_option linter.unusedSimpArgs false
theorem node_w {n : JN} (h : JOk n) : NodeW n := by
  induction h with
  | leaf hp => exact leaf_w _ _ _ _ hp.kind.2 (by have := hp.kind; omega)
  | arr hx ih => exact arr_w _ _ _ ih
  | obj hne hl hks hx ih => exact obj_w _ _ _ hl ih
theorem wtoks_in (bl : List Int) : ∀ (ts : List Tk) (k : Nat) (n : Int) (p : Tk × Int), p ∈ wtoks bl ts k n → n ≤ p.2 ∧ p.2 ≤ n + (wtext bl ts k).length := by
  intro ts
  induction ts with
  | nil => intro k n p h; simp [wtoks] at h
  | cons t ts ih =>
    intro k n p h
    rw [wtoks, List.mem_cons] at h
    simp only [wtext, List.length_append]
    rcases h with rfl | h
    · simp only; omega
    · have := ih _ _ _ h
      omega
/-- Told as what stands behind. -/
def backF (S : Int) (p : Tk × Int) : S37 := toS (p.1, S - p.2)
def midL (S : Int) (l : List (Tk × Int)) (j : Nat) : List S37 := (l.take j).map (backF S) ++ (l.drop j).map toS
theorem midL_len (S : Int) (l : List (Tk × Int)) (j : Nat) : (midL S l j).length = l.length := by
  unfold midL; simp; omega
theorem midL_at (S : Int) (l : List (Tk × Int)) (j : Nat) (p : Tk × Int) (h : l[j]? = some p) : (midL S l j)[j]? = some (toS p) := by
  obtain ⟨hl, e⟩ := List.getElem?_eq_some_iff.1 h
  unfold midL
  rw [List.getElem?_append_right (by simp; omega)]
  simp [e, Nat.min_eq_left (Nat.le_of_lt hl), hl]
theorem midL_set (S : Int) (l : List (Tk × Int)) (j : Nat) (p : Tk × Int) (h : l[j]? = some p) : (midL S l j).set j (backF S p) = midL S l (j + 1) := by
  obtain ⟨hl, e⟩ := List.getElem?_eq_some_iff.1 h
  unfold midL
  rw [List.set_append_right _ _ (by simp; omega), List.drop_eq_getElem_cons hl, e, List.take_succ_eq_append_getElem hl, e]
  simp [Nat.min_eq_left (Nat.le_of_lt hl)]
theorem midL_end (bl : List Int) (ts : List Tk) (j : Nat) (hj : ts.length ≤ j) : midL ((sfx bl ts 0).length : Int) (wtoks bl ts 0 0) j = (btoks bl ts 0).map toS := by
  unfold midL
  rw [List.take_of_length_le (by rw [wtoks_length]; exact hj), List.drop_eq_nil_of_le (by rw [wtoks_length]; exact hj), ← wtoks_back bl ts 0 0 _ (by rw [Int.zero_add]), List.map_map, List.map_nil, List.append_nil]
  rfl
theorem midL_zero (S : Int) (l : List (Tk × Int)) : midL S l 0 = l.map toS := by unfold midL; simp
/-- The text, and the tokens. -/
def JsWrittenPost (w : World) (bl : List Int) (n : JN) (e : Ending) (w' : World) : Prop :=
  ∃ v, e = .returned (.tuple #[.string (strOfNums (sfx bl (n.toks 0 0) 0)), v]) ∧ k37.R 37 w' w.heap.size (fun _ => True) v ((btoks bl (n.toks 0 0) 0).map toS) ∧ Below w.heap.size w w'
set_option maxHeartbeats 4000000 in
set_option maxRecDepth 100000 in
theorem jsWritten_calls (w : World) (n : JN) (v bv : Value) (bl : List Int) (hn : JOk n) (hr : Room (n.toks 0 0)) (hv : Nd w 0 v n) (hs : Sl w w.heap.size bv bl) (hb : Bytes bl) :
    Calls Tryd.prog 16 #[v, bv] w (JsWrittenPost w bl n) := by
  obtain ⟨v2, v3, rfl, hm⟩ := hv
  have hfk : Kd.FK kJ w (fun k => k < w.heap.size) n [.int .i64 n.kind, .string (strOfNums n.text), v2, v3] := Kd.FK_mono (Kd.FK_bound (Kd.FK_of_M hm)) (fun k hk => hk.2)
  obtain ⟨A, C, rfl, hC⟩ := hs.form
  have HS := Aside0.mk hs
  have HF := Aside0.mk hfk
  clear hs hfk hm
  have hsz2 : ((w.alloc (.cells #[.int .i64 n.kind, .string (strOfNums n.text), v2, v3] 29)).alloc (.cells #[.string ⟨#[]⟩, .slice none 0 0, .slice A bl.length C, .int .i64 0] 75)).heap.size = w.heap.size + 2 := by simp
  have hb2 := below_alloc (below_alloc (Below.refl w.heap.size w) (.cells #[.int .i64 n.kind, .string (strOfNums n.text), v2, v3] 29)) (.cells #[.string ⟨#[]⟩, .slice none 0 0, .slice A bl.length C, .int .i64 0] 75)
  have hg2 := blk_new (w.alloc (.cells #[.int .i64 n.kind, .string (strOfNums n.text), v2, v3] 29)) (.cells #[.string ⟨#[]⟩, .slice none 0 0, .slice A bl.length C, .int .i64 0] 75)
  have hn2 := blk_below (blk_new w (.cells #[.int .i64 n.kind, .string (strOfNums n.text), v2, v3] 29)) (below_alloc (Below.refl _ (w.alloc (.cells #[.int .i64 n.kind, .string (strOfNums n.text), v2, v3] 29))) (.cells #[.string ⟨#[]⟩, .slice none 0 0, .slice A bl.length C, .int .i64 0] 75))
  obtain ⟨W2, hW2⟩ : ∃ W2, W2 = (w.alloc (.cells #[.int .i64 n.kind, .string (strOfNums n.text), v2, v3] 29)).alloc (.cells #[.string ⟨#[]⟩, .slice none 0 0, .slice A bl.length C, .int .i64 0] 75) := ⟨_, rfl⟩
  rw [← hW2] at hsz2 hb2 hg2 hn2
  have hgg : (w.alloc (.cells #[.int .i64 n.kind, .string (strOfNums n.text), v2, v3] 29)).heap.size = w.heap.size + 1 := by simp
  rw [hgg] at hg2
  have hws : WS W2 w.heap.size w.heap.size (w.heap.size + 1) bl [] := ⟨.slice none 0 0, .slice A bl.length C, by rw [show kAt bl ([] : List Tk).length = 0 by unfold kAt; split <;> rfl]; exact hg2, HS.out.below hb2, hb, Kd.R_nil _ _ _ _ _⟩
  have HN := Aside0.mk (show Calls Tryd.prog 42 #[.pointer (some ⟨w.heap.size + 1, 0, none⟩), .agg #[.int .i64 n.kind, .string (strOfNums n.text), v2, v3], .int .i64 0, .int .i64 0] W2 (WPost W2 w.heap.size w.heap.size (w.heap.size + 1) bl (n.toks 0 0)) from
    node_w hn W2 w.heap.size w.heap.size (w.heap.size + 1) bl [] 0 0 _ (Nat.le_refl _) (Nat.le_succ _) hr (Int.le_refl 0) (by unfold Room at hr; omega) (Kd.FK_step HF.out (fun k hk hl => hb2.block k hk)) hws)
  have HB2 := Aside0.mk hb2
  have HW2 := Aside0.mk hW2
  have n0 : W2.cell? ⟨w.heap.size, 0, none⟩ = some (.int .i64 n.kind) := (blk_cell hn2 0).trans rfl
  have n1 : W2.cell? ⟨w.heap.size, 1, none⟩ = some (.string (strOfNums n.text)) := (blk_cell hn2 1).trans rfl
  have n2 : W2.cell? ⟨w.heap.size, 2, none⟩ = some v2 := (blk_cell hn2 2).trans rfl
  have n3 : W2.cell? ⟨w.heap.size, 3, none⟩ = some v3 := (blk_cell hn2 3).trans rfl
  have HRM := Aside0.mk hr
  clear hsz2 hb2 hg2 hn2 hW2 hgg hws hn hb hC hr
  go_enter Tryd.func16, Tryd.ntmps16
  go_upto_region 2 with (fail)
  rw [← HW2.out]
  clear HW2
  go_upto_region 3 with (go_at_call 42; (with_reducible refine HN.out.mono ?_); rintro e w3 ⟨rfl, hw3, hb3, -⟩; have HW3 := Aside0.mk hw3; have HB3 := Aside0.mk (HB2.out.trans hb3); clear hw3 hb3)
  clear n0 n1 n2 n3 HN
  have HBK := Aside0.mk (blank_calls w3 w.heap.size w.heap.size (w.heap.size + 1) bl _ _ _ (Nat.le_succ _) (Nat.le_succ _) (by have := kAt_le bl (n.toks 0 0).length; have h := HRM.out; unfold Room at h; omega) (by have := wtext_len bl (n.toks 0 0) 0; have h := HRM.out; unfold Room at h; omega) HW3.out)
  go_upto_region 4 with (go_at_call 43; (with_reducible refine HBK.out.mono ?_); rintro e w4 ⟨rfl, hw4, hv4⟩; rw [kAt_blk] at hw4; have HW4 := Aside0.mk hw4; have HB4 := Aside0.mk (HB3.out.trans (hv4.below.mono (Nat.le_succ _))); clear hw4 hv4)
  obtain ⟨tv, bv, hh, -, -, hR⟩ := HW4.out
  obtain ⟨S, hS⟩ : ∃ S, S = sfx bl (n.toks 0 0) 0 := ⟨_, rfl⟩
  have e1 : wtext bl (n.toks 0 0) 0 ++ blk bl (n.toks 0 0).length = S := by rw [hS, sfx, Nat.zero_add]
  rw [e1] at hh
  obtain ⟨tA, tC, htv⟩ := Kd.R_slice hR
  subst htv
  obtain ⟨wt, hwt⟩ : ∃ wt, wt = wtoks bl (n.toks 0 0) 0 0 := ⟨_, rfl⟩
  rw [← hwt, ← midL_zero (S.length : Int)] at hR
  rw [← hwt, List.length_map] at hh
  obtain ⟨K, hK⟩ : ∃ K, K = nextK bl (kAt bl (n.toks 0 0).length) := ⟨_, rfl⟩
  rw [← hK] at hh
  have hwin : ∀ p ∈ wt, 0 ≤ p.2 ∧ p.2 ≤ S.length := by
    intro p hp
    rw [hwt] at hp
    have h := wtoks_in bl _ 0 0 p hp
    rw [← e1, List.length_append]
    omega
  have hSl : S.length < 500000000 := by
    have h := sfx_len bl (n.toks 0 0) 0
    have h2 := HRM.out
    unfold Room at h2
    rw [hS]; omega
  have hwl : wt.length < 500000000 := by
    have h2 := HRM.out
    unfold Room at h2
    rw [hwt, wtoks_length]; omega
  have q1 : w4.cell? ⟨w.heap.size + 1, 1, none⟩ = some (.slice tA wt.length tC) := (blk_cell hh 1).trans rfl
  obtain ⟨ST, hST⟩ : ∃ ST, ST = strOfNums S := ⟨_, rfl⟩
  have hSZ : (ST.size : Int) = (S.length : Int) := by rw [hST, strOf_size]
  rw [← hST] at hh
  rw [midL_len] at hR
  have HH := Aside0.mk hh
  have HRR := Aside0.mk hR
  have HSZ := Aside0.mk hSZ
  have HST := Aside0.mk (And.intro hST (And.intro hS hwt))
  have HWIN := Aside0.mk hwin
  have HSL := Aside0.mk (And.intro hSl hwl)
  clear hh hR hSZ hST hS hwt hwin hSl HW4 HW3 HBK HB3 HB2 e1 hK
  go_upto_region 5 with (fail)
  clear q1
  go_loopg [21] wt.length (fun m v21 w' => ∃ (j : Nat), v21 = .int .i64 (j : Int) ∧ Aside0 (j + m = wt.length) ∧ Aside0 (w'.heap[w.heap.size + 1]? = some (.cells #[.string ST, .slice tA wt.length tC, bv, .int .i64 (K : Int)] 75 (0, 0))) ∧ Aside0 (k37.R 37 w' w.heap.size (fun _ => True) (.slice tA wt.length tC) (midL (S.length : Int) wt j)) ∧ Aside0 (Below w.heap.size w w'))
  case atStart => exact ⟨0, rfl, ⟨by omega⟩, HH, HRR, HB4⟩
  case round =>
    obtain ⟨j, rfl, HJ, HHr, HRr, HBr⟩ := hrel
    clear HH HRR HB4
    cases gk with
    | zero =>
      have d0 : decide (j < wt.length) = false := by have := HJ.out; simp; omega
      have s0 : wr.drew.cell? ⟨w.heap.size + 1, 0, none⟩ = some (.string ST) := (blk_cell HHr.out 0).trans rfl
      have s1 : wr.drew.cell? ⟨w.heap.size + 1, 1, none⟩ = some (.slice tA wt.length tC) := (blk_cell HHr.out 1).trans rfl
      go_wp2_with fail
      go_region_with (fail)
      all_goals
        go_wp2_with fail
        go_returns
        refine ⟨.slice tA wt.length tC, (show _ = Ending.returned (.tuple #[.string ST, .slice tA wt.length tC]) from rfl).trans (by rw [HST.out.1, HST.out.2.1]), ?_, below_drew HBr.out⟩
        have h := Kd.R_drew HRr.out
        rw [HST.out.2.1, HST.out.2.2, midL_end bl _ j (by have h1 := HJ.out; rw [HST.out.2.2, wtoks_length] at h1; omega)] at h
        rw [HST.out.2.2]
        exact h
    | succ k1 =>
      have d0 : decide (j < wt.length) = true := by have := HJ.out; simp; omega
      have hjl : j < wt.length := by have := HJ.out; omega
      obtain ⟨p, hp⟩ : ∃ p, wt[j]? = some p := ⟨_, List.getElem?_eq_getElem hjl⟩
      obtain ⟨ad, htA⟩ : ∃ ad, tA = some ad := by
        cases tA with
        | none =>
          have h := HRr.out.2
          obtain ⟨inner, ho, -⟩ := h
          rcases ho.2 with ⟨hv, h0⟩ | ⟨g, cap', cur, hv, _⟩
          · have := midL_len (S.length : Int) wt j; injection hv with _ hv _; omega
          · cases hv
        | some ad => exact ⟨ad, rfl⟩
      subst htA
      obtain ⟨rb, rfl⟩ := Kd.R_head HRr.out
      obtain ⟨cs, hcl, hM, hcc, hff⟩ := Kd.R_elem HRr.out (toS p) (j : Int) (by omega) (by omega)
      have hget : (midL (S.length : Int) wt j).getD ((j : Int)).toNat (toS p) = toS p := by
        rw [Int.toNat_natCast, List.getD_eq_getElem?_getD, midL_at _ _ _ _ hp]; rfl
      rw [hget] at hM
      obtain rfl := k37_open (Kd.K_of_M _ hM)
      have r5 : wr.drew.cell? ⟨rb, j * 7 + 5, none⟩ = some (.int .i64 p.2) := by have h : wr.cell? ⟨rb, ((j : Int)).toNat * 7 + 5, none⟩ = some (.int .i64 p.2) := hcc 5 _ rfl; rw [Int.toNat_natCast] at h; exact h
      have f5 : wr.drew.frozen? ⟨rb, j * 7 + 5, none⟩ = false := by have h : wr.frozen? ⟨rb, ((j : Int)).toNat * 7 + 5, none⟩ = false := hff 5; rw [Int.toNat_natCast] at h; exact h
      have s0 : wr.drew.cell? ⟨w.heap.size + 1, 0, none⟩ = some (.string ST) := (blk_cell HHr.out 0).trans rfl
      have s1 : wr.drew.cell? ⟨w.heap.size + 1, 1, none⟩ = some (.slice (some ⟨rb, 0, none⟩) wt.length tC) := (blk_cell HHr.out 1).trans rfl
      have hpb := HWIN.out p (List.mem_of_getElem? hp)
      have sw : IntKind.i64.wrap ((ST.size : Int) - p.2) = (S.length : Int) - p.2 := by
        rw [HSZ.out, IntKind.wrap_i64]; have := HSL.out; omega
      have HP := Aside0.mk hp
      have HCC := Aside0.mk hcc
      obtain ⟨ct, htt⟩ := Kd.R_typed HRr.out rb (by simp [Value.ownBlock])
      have hrb : rb ≠ w.heap.size + 1 := by
        rintro rfl
        rw [HHr.out] at htt
        injection htt with htt
        injection htt with _ htt
        cases htt
      have HRB := Aside0.mk (And.intro hrb (show w.heap.size ≤ rb from Kd.R_base HRr.out rb (by simp [Value.ownBlock])))
      clear hcl hM hcc hff hget hp hpb htt hrb
      go_upto_region 7 with (fail)
      go_region_with (fail)
      all_goals
        go_wp2_with fail
        go_roundg k1
        case measure => omega
        case rel =>
          obtain ⟨hrow, -⟩ := Kd.R_seg (Kd.R_drew HRr.out) (j : Int) (by omega) (by omega) (c := [.int .u8 (toS p).f0, .string (toS p).f1, .int .i64 (toS p).f2, .int .i64 (toS p).f3, .bool (toS p).f4, .int .i64 (toS p).f5, .int .i64 (toS p).f6]) (seg := [.int .i64 ((S.length : Int) - p.2)]) (j := 5) rfl HCC.out (show 5 + 1 ≤ 7 by decide) (x' := backF (S.length : Int) p) (okp := fun k => k ≠ rb) (k37_mkM _ _ _ (backF (S.length : Int) p)) (fun k hk => ⟨trivial, hk⟩)
          rw [Int.toNat_natCast, midL_set _ _ _ _ HP.out] at hrow
          refine ⟨j + 1, by go_num, ⟨by have := HJ.out; omega⟩, ⟨blk_far HHr.out (p := ⟨rb, j * 7 + 5, none⟩) (fun h => HRB.out.1 h.symm) _⟩, ⟨hrow⟩, ⟨(below_drew HBr.out).setCell HRB.out.2 _⟩⟩
end Go.Proofs.YtekmminmgjoabaaDoor.Js

