/- The first token of a text that is one string. Tokenizer.String on a string's token; RawValue.AppendUnquote, RawValue.Unquote. RawValue.AppendUnquote, RawValue.Unquote. impl.JSText, impl.JSUnquote, impl.JSAppend on a string's text. -/
import Derived.Test.YtekmminmgjoabaaDoorZJsUnquote
import Derived.Test.YtekmminmgjoabaaDoorZSa
import Derived.Deep.QuietTactic
import Derived.BigQuiet
import Derived.Test.YtekmminmgjoabaaDoorZSi
import Derived.Deep.RegionHeld3
namespace Go.Proofs.YtekmminmgjoabaaDoor.Js
open Go.RowKit Go.Proofs.YtekmminmgjoabaaDoorW.PrintWords Go.Proofs.YtekmminmgjoabaaDoorW.PrintLast Go.Proofs.YtekmminmgjoabaaDoorW.PrintMore Go.Proofs.YtekmminmgjoabaaDoor.PFnJSTokens
set_option linter.unusedVariables false
set_option linter.unusedSimpArgs false
/-- The kinds that a string's token may have: unescaped, where it is so; else a string. -/
def KTxt (p : Bool) (l : List Int) (K : Int) : Prop := (0 ≤ K ∧ K < 64) ∧ ((K = 9 ∧ 92 ∉ l ∧ (p = false → ∀ c ∈ l, prn c = true)) ∨ K = 8)
theorem next_text (w : World) (B T : Nat) (st : St) (d0 dp0 ix0 : Int) (ik : Bool) (vv0 js sp : Value) (p q : Bool) (K0 : Int) (hK0 : 0 ≤ K0) (hK1 : K0 < 64) (zs bs l r : List Int) (h : Str l) (hz : zs = bs ++ ((34 :: (l ++ [34])) ++ r)) (hbs : ∀ c ∈ bs, isSp c = true)
    (hB : B ≤ T) (h3 : 3 < B) (hT : w.heap[T]? = some (.cells (tzr d0 vv0 .nilIface dp0 ix0 ik st.isKey js sp (flK p q K0)) 118 (0, 0))) (hJ : Sl w B js zs) (hS : Stk w B sp st.stack) (hL : StOk st.stack zs.length) (ht : Tab w) (hby : Bytes zs) (hq : q = true → 92 ∉ zs) :
    Calls Tryd.prog 54 #[.pointer (some ⟨T, 0, none⟩)] w (NextPosts w B T st st 0 (34 :: (l ++ [34])) r p q (KTxt p l)) := by
  have hp := Plain.str h
  have hlen : zs.length = bs.length + ((34 :: (l ++ [34])).length + r.length) := by rw [hz]; simp; omega
  have hvp : 0 < (34 :: (l ++ [34])).length := List.length_pos_iff.2 hp.ne
  have hl9 : zs.length < 9000000000000000000 := by have := hL.1; omega
  have hHK : ∀ K, KTxt p l K → 0 ≤ K ∧ K < 64 := fun K h => h.1
  have hLr : StOk st.stack r.length := hL.mono (by omega)
  have hby2 : Bytes ((34 :: (l ++ [34])) ++ r) := hby.sub (fun c hc => by rw [hz]; exact List.mem_append_right _ hc)
  have hq2 : q = true → 92 ∉ (34 :: (l ++ [34])) ++ r := fun h hc => hq h (by rw [hz]; exact List.mem_append_right _ hc)
  refine nx_front w B T d0 dp0 ix0 ik st.isKey vv0 sp (flK p q K0) zs bs.length st.stack _ js (by omega) (fun i hi => ?_) ?_ hB hT hJ hS ⟨fun W ad m c => ?_⟩
  · refine hbs _ ?_
    rw [hz, getD_left _ _ _ hi, List.getD_eq_getElem?_getD, List.getElem?_eq_getElem hi]
    exact List.getElem_mem hi
  · rw [hz, show bs.length = bs.length + 0 from rfl, getD_right]
    exact hp.first
  intros
  rename_i hTW hJW hSW hKW
  rw [hz, drop_front] at hJW
  have hm : 0 < m := by have := hJW.len.1; rw [this]; simp
  have hTab := ht.base h3 hKW.below
  have hJc : ∀ W' : World, Below B W W' → Sl W' B (.slice (some ad) m c) ((34 :: (l ++ [34])) ++ r) := fun W' hW => hJW.below hW
  have e1 : (34 :: (l ++ [34])) ++ r = 34 :: (l ++ 34 :: r) := by simp
  have hsa := strAt_init (r := r) h
  rw [e1] at hJW hJc hby2 hq2
  have hll : (34 :: (l ++ 34 :: r)).length ≤ zs.length := by rw [hlen]; simp; omega
  exact nx7_str w W B T st d0 dp0 ix0 ik vv0 sp ad m c p q K0 hK0 hK1 _ _ (34 :: (l ++ [34])) r hm (by simp) ⟨hHK⟩ ⟨hB⟩ ⟨hTW⟩ ⟨hJW⟩ ⟨hSW⟩ ⟨hKW⟩ ⟨hLr⟩ ⟨fun W' h1 h2 => (pstr_strong W' B (some ad) m c _ _ l (l.length + 1) p q (by omega) hby2 (hJc W' h1) h2 rfl hsa (flK_fl p q K0 hK0 hK1) hq2 (hTab.base h3 h1)).mono (by
    rintro e w' ⟨v1, v2, K, rfl, hk, a1, a2, a3⟩
    have t1 : (34 :: (l ++ 34 :: r)).take (l.length + 1 + 1) = 34 :: (l ++ [34]) := by
      rw [List.take_succ_cons, show l ++ 34 :: r = (l ++ [34]) ++ r by simp, List.take_left' (by simp)]
    have t2 : (34 :: (l ++ 34 :: r)).drop (l.length + 1 + 1) = r := by
      rw [List.drop_succ_cons, show l ++ 34 :: r = (l ++ [34]) ++ r by simp, List.drop_left' (by simp)]
    rw [t1] at a1
    rw [t2] at a2
    refine ⟨v1, v2, K, rfl, ⟨?_, ?_⟩, a1, a2, a3⟩
    · rcases hk with ⟨h, -⟩ | ⟨h, -⟩ <;> omega
    · rcases hk with ⟨h1, h2, h3⟩ | ⟨h1, -⟩
      · exact .inl ⟨h1, h2, h3⟩
      · exact .inr h1)⟩ rfl
/-- The tokenizer at T stands on a string's text. -/
def OnText (w : World) (B T : Nat) (l : List Int) : Prop := ∃ vv js sp K p q dp ix ik nk, w.heap[T]? = some (.cells (tzr 0 vv .nilIface dp ix ik nk js sp (flK p q K)) 118 (0, 0)) ∧ Sl w B vv (34 :: (l ++ [34])) ∧ KTxt p l K ∧ FlagsOk (34 :: (l ++ [34])) p q
set_option maxHeartbeats 4000000 in
set_option maxRecDepth 100000 in
theorem first_text (w : World) (B : Nat) (h3 : 3 < B) (hB : B ≤ w.heap.size) (A : Option Addr) (n c : Nat) (l : List Int) (h : Str l) (hs : Sl w B (.slice A n c) (34 :: (l ++ [34]))) (hl : l.length ≤ 1000000000) (ht : Tab w) :
    Calls Tryd.prog 56 #[.slice A n c] w fun e w' => ∃ T, e = .returned (.tuple #[.pointer (some ⟨T, 0, none⟩), .bool true]) ∧ B ≤ T ∧ OnText w' B T l ∧ TK TokT B w w' := by
  have hby : Bytes (34 :: (l ++ [34])) := (Plain.str h).bytes
  have HN := Aside0.mk (tnew w B A n c _ hs hby hB (by simp; omega))
  have HX := Aside0.mk (fun (W : World) (T : Nat) (p q : Bool) (hT : B ≤ T) (hW : Below B w W) (h1 : W.heap[T]? = some (.cells (tzr 0 (.slice none 0 0) .nilIface 0 0 false false (.slice A n c) (.pointer none) (flK p q 0)) 118 (0, 0))) (hf : FlagsOk (34 :: (l ++ [34])) p q) => next_text W B T ⟨[], false⟩ 0 0 0 false (.slice none 0 0) (.slice A n c) (.pointer none) p q 0 (by decide) (by decide) (34 :: (l ++ [34])) [] l [] h (by simp) (fun c hc => by cases hc) hT h3 h1 (hs.below hW) (.inl ⟨rfl, rfl⟩) ⟨by simp; omega, fun x hx => by simp at hx⟩ (ht.base h3 hW) hby hf.2)
  have HB := Aside0.mk hB
  clear h hs hby hl ht h3 hB
  go_enter Tryd.func56, Tryd.ntmps56
  go_wp2_with (first
    | (go_at_call 45; (with_reducible refine HN.out.mono ?_); rintro e W1 ⟨T, p, q, rfl, hT, ht1, hf, hb1⟩; have HTT := Aside0.mk (Nat.le_trans HB.out hT); have HB1 := Aside0.mk (hb1.mono HB.out); have HK1 := Aside0.mk (show TK TokT B w W1 from TK.of hb1 HB.out); have HX1 := Aside0.mk (HX.out W1 T p q HTT.out HB1.out ht1 hf); have HF := Aside0.mk hf; clear hT ht1 hf hb1)
    | (go_at_call 54; (with_reducible refine HX1.out.mono ?_); rintro e W2 ⟨K, hK, rfl, ⟨vv, js, sp, ht2, hv2, hj2, hs2⟩, hk2⟩; have HO := Aside0.mk (show OnText W2 B T l from ⟨_, _, _, _, _, _, _, _, _, _, ht2, hv2, hK, HF.out⟩); have HB2 := Aside0.mk (HK1.out.trans hk2); clear hK ht2 hv2 hj2 hs2 hk2))
  go_returns
  exact ⟨T, rfl, HTT.out, HO.out, HB2.out⟩
end Go.Proofs.YtekmminmgjoabaaDoor.Js

namespace Go.Proofs.YtekmminmgjoabaaDoor.Js
open Go.RowKit Go.Proofs.YtekmminmgjoabaaDoorW.PrintWords Go.Proofs.YtekmminmgjoabaaDoorW.PrintLast Go.Proofs.YtekmminmgjoabaaDoorW.PrintMore Go.Proofs.YtekmminmgjoabaaDoor.PFnJSTokens
set_option linter.unusedVariables false
set_option linter.unusedSimpArgs false
theorem OnText.drew {W : World} {B T : Nat} {l : List Int} (h : OnText W B T l) : OnText W.drew B T l := by
  obtain ⟨vv, js, sp, K, p, q, dp, ix, ik, nk, hT, hs, hk⟩ := h
  exact ⟨vv, js, sp, K, p, q, dp, ix, ik, nk, hT, hs.same rfl, hk⟩
theorem Str.low {l : List Int} (h : Str l) : ∀ c ∈ l, 32 ≤ c := by
  have hx : ∀ x, Hex x → 32 ≤ x := fun x h => by unfold Hex at h; omega
  induction h with
  | nil => intro c hc; simp at hc
  | raw h1 _ _ _ _ ih =>
    intro c hc
    rcases List.mem_cons.1 hc with rfl | hc
    · exact h1
    · exact ih c hc
  | esc h1 _ ih =>
    intro c hc
    rcases List.mem_cons.1 hc with rfl | hc
    · decide
    rcases List.mem_cons.1 hc with rfl | hc
    · omega
    · exact ih c hc
  | uni ha hb hc' hd _ ih =>
    intro c hc
    rcases List.mem_cons.1 hc with rfl | hc
    · decide
    rcases List.mem_cons.1 hc with rfl | hc
    · decide
    rcases List.mem_cons.1 hc with rfl | hc
    · exact hx _ ha
    rcases List.mem_cons.1 hc with rfl | hc
    · exact hx _ hb
    rcases List.mem_cons.1 hc with rfl | hc
    · exact hx _ hc'
    rcases List.mem_cons.1 hc with rfl | hc
    · exact hx _ hd
    · exact ih c hc
theorem Str.prn_of {l : List Int} (h : Str l) {c : Int} (hc : c ∈ l) (hs : isSp c = true ∨ prn c = true) : prn c = true := by
  rcases hs with hs | hs
  · have := h.low c hc
    unfold isSp at hs
    simp only [Bool.or_eq_true, beq_iff_eq] at hs
    obtain rfl : c = 32 := by omega
    rfl
  · exact hs
set_option maxHeartbeats 4000000 in
set_option maxRecDepth 100000 in
theorem string_calls (w : World) (B T : Nat) (l m : List Int) (hB : B ≤ T) (hstr : Str l) (hu : Unq l m) (hl : l.length ≤ 500000000) (ht : Tab w) (h : OnText w B T l) :
    Calls Tryd.prog 58 #[.pointer (some ⟨T, 0, none⟩)] w fun e w' => ∃ v, e = .returned v ∧ Sl w' w'.heap.size v m ∧ Below w.heap.size w w' := by
  obtain ⟨vv, js, sp, K, p, q, dp, ix, ik, nk, hT, hs, ⟨hk0, hk⟩, hf⟩ := h
  obtain ⟨A, n, c, rfl, hn⟩ := hs.formv
  obtain ⟨L, hL⟩ : ∃ L, L = l.length := ⟨_, rfl⟩
  obtain rfl : n = L + 2 := by rw [hn, hL]; simp
  have hBT : B ≤ w.heap.size := Nat.le_trans hB (Nat.le_of_lt (blk_lt hT))
  have g1 := (tzr_cell hT 1).trans (show _ = some (Value.slice A (L + 2) c) from rfl)
  have g9 := (tzr_cell hT 9).trans (show _ = some (Value.int .u32 (flK p q K)) from rfl)
  have hkf : json_ParseFlags_kind.f (flK p q K) = some K := by
    have := (flK_all p q ⟨K.toNat, by omega⟩ ⟨0, by decide⟩).2.1
    simp only [Int.toNat_of_nonneg hk0.1] at this
    exact congrArg some this
  have HK := Aside0.mk (fun (W : World) => json_ParseFlags_kind.calls _ _ W hkf)
  have hprn : p = true → ∀ c ∈ l, prn c = true := fun hp c hc => hstr.prn_of hc (hf.1 hp c (List.mem_cons_of_mem _ (List.mem_append_left _ hc)))
  have HUN := Aside0.mk (fun (W : World) (hW : Below w.heap.size w W) => unq_calls W B A (L + 2) c (flK p q K) l m p q (Nat.le_trans hBT hW.size) (hs.below (hW.mono hBT)) (Plain.str hstr).bytes hstr hu (flK_fl p q K hk0.1 hk0.2) hprn hf.2 hl (ht.below hW))
  have HMM := Aside0.mk (show (p = false → ∀ c ∈ l, prn c = true) → 92 ∉ l → m = l from fun h1 h2 => hu.plain h2 hstr.bytes (by cases p <;> first | exact h1 rfl | exact hprn rfl))
  obtain ⟨fl, hfl⟩ : ∃ fl, fl = flK p q K := ⟨_, rfl⟩
  rw [← hfl] at g9 HK HUN
  obtain ⟨A3, hcutM, hdM⟩ := hs.mid 82 1 (L + 1) 1 ((L : Int) + 1) .i64 .i64 (by kernel_rfl) rfl (by omega) (by omega) (by omega)
  have hS3 : Sl w B (.slice A3 L (c - 1)) l := by
    rw [hL, inside_eq] at hdM
    rw [hL]
    exact hdM
  have hcutM2 : ∀ W : World, (Instr.slice 82 (.slice A (L + 2) c) (some (.int .i64 1)) (some (.int .i64 ((L : Int) + 1))) none).run Tryd.prog W = .ok (.slice A3 L (c - 1)) W := hcutM
  have hs21 : ((L : Int) + 2 - 1) = (L : Int) + 1 := by omega
  have hLb : (L : Int) ≤ 500000000 := by omega
  have HS3 := Aside0.mk hS3
  have HBT := Aside0.mk hBT
  rcases hk with ⟨rfl, h92, hpr⟩ | rfl
  · have HM := Aside0.mk (HMM.out hpr h92)
    clear h92 hpr HMM hcutM hdM hS3 hs hstr hu hl ht hf hprn hfl hT hL hn hkf hk0 HUN hB hBT
    go_enter Tryd.func58, Tryd.ntmps58
    go_upto_region 2 with (go_at_call 92; (with_reducible refine (HK.out _).mono ?_); rintro en w2 ⟨rfl, hd⟩; obtain ⟨kd, hkd⟩ := hd.out; subst hkd)
    go_quiet (fail)
    go_wp2_with fail
    go_returns
    exact ⟨_, rfl, by rw [HM.out]; exact (HS3.out.below (pw_below_drewN (pw_below_drewN (Below.refl _ _) _) _)).grow HBT.out, pw_below_drewN (pw_below_drewN (Below.refl _ _) _) _⟩
  · clear HMM hcutM hdM hS3 hs hstr hu hl ht hf hprn hfl hT hL hn hkf hk0 hB hBT HS3
    go_enter Tryd.func58, Tryd.ntmps58
    go_upto_region 3 with (go_at_call 92; (with_reducible refine (HK.out _).mono ?_); rintro en w2 ⟨rfl, hd⟩; obtain ⟨kd, hkd⟩ := hd.out; subst hkd)
    go_region_with (go_at_call 93; (with_reducible refine (HUN.out _ ?_).mono ?_); (first | exact pw_below_drewN (Below.refl _ _) _ | exact below_drew (pw_below_drewN (Below.refl _ _) _)); rintro en w3 ⟨v1, A2, c2, b, rfl, hv, hb⟩; have HV := Aside0.mk hv; have HB3 := Aside0.mk (show Below w.heap.size w w3 from (below_drew (pw_below_drewN (Below.refl _ _) _)).trans hb); clear hv hb)
    all_goals (try (go_wp2_with fail))
    all_goals
      go_returns
      exact ⟨_, rfl, HV.out, HB3.out⟩
end Go.Proofs.YtekmminmgjoabaaDoor.Js

namespace Go.Proofs.YtekmminmgjoabaaDoor.Js
open Go.RowKit Go.Proofs.YtekmminmgjoabaaDoorW.PrintWords Go.Proofs.YtekmminmgjoabaaDoorW.PrintLast Go.Proofs.YtekmminmgjoabaaDoorW.PrintMore Go.Proofs.YtekmminmgjoabaaDoor.PFnJSTokens
set_option linter.unusedVariables false
set_option linter.unusedSimpArgs false
set_option maxHeartbeats 16000000 in
set_option maxRecDepth 100000 in
theorem unq_keep (w : World) (B : Nat) (A : Option Addr) (n c : Nat) (fl : Int) (l : List Int) (p q : Bool) (rv : Value) (hB : B ≤ w.heap.size) (h : Sl w B (.slice A n c) (34 :: (l ++ [34]))) (hby : Bytes (34 :: (l ++ [34]))) (hstr : Str l) (h92 : 92 ∉ l) (hf : Fl fl p q) (hp : ∀ c ∈ l, prn c = true) (hq : q = true → 92 ∉ 34 :: (l ++ [34])) (hl : l.length ≤ 500000000) (ht : Tab w) :
    Calls Tryd.prog 93 #[.agg #[.int .u32 fl], .slice A n c, rv] w (UnqPost w l) := by
  have hal := below_alloc (Below.refl w.heap.size w) (.cells #[.int .u32 fl] 116)
  have HBX := Aside0.mk (blk_new w (.cells #[.int .u32 fl] 116))
  have hby2 := hstr.bytes
  have HAL := Aside0.mk hal
  have HBB := Aside0.mk hB
  have HP := Aside0.mk (pstr_strong (w.alloc (.cells #[.int .u32 fl] 116)) B A n c fl (34 :: (l ++ [34])) l (l.length + 1) p q (by simp; omega) hby (h.below (hal.mono hB)) (Nat.le_trans hB hal.size) rfl (strAt_init (r := []) hstr) hf hq (ht.below hal))
  have HNO := Aside0.mk (And.intro h92 hp)
  have HBY := Aside0.mk hby2
  have k6 := blk116 HBX.out (Below.refl _ _)
  obtain ⟨L, hL⟩ : ∃ L, L = l.length := ⟨_, rfl⟩
  rw [← hL] at hl HP
  have HLL := Aside0.mk hL
  have HL := Aside0.mk hl
  clear hal h hby hstr hf hp hq ht hby2 h92 hL hl hB
  go_enter Tryd.func93, Tryd.ntmps93
  go_upto_region 2 with (go_at_call 80; (with_reducible refine HP.out.mono ?_); rintro e w2 ⟨v1, v2, k, rfl, hk, hs1, hs2, hb⟩; obtain ⟨A1, n1, c1, rfl, hn1⟩ := hs1.formv; obtain ⟨A2, n2, c2, rfl, hn2⟩ := hs2.formv; have HK := Aside0.mk hk; have HS1 := Aside0.mk hs1; have HN1 := Aside0.mk (show n1 = L + 2 by rw [hn1, HLL.out]; simp); have HN2 := Aside0.mk (show n2 = 0 by rw [hn2, HLL.out]; simp); have HB2 := Aside0.mk (HAL.out.trans (hb.mono HAL.out.size)); have HBX2 := Aside0.mk (blk_below HBX.out hb); clear hk hs1 hs2 hb hn1 hn2)
  clear k6 HP HBX
  obtain rfl : n2 = 0 := HN2.out
  obtain rfl : n1 = L + 2 := HN1.out
  have hLb : (L : Int) ≤ 500000000 := by have := HL.out; omega
  obtain ⟨A3, hcutM, hdM⟩ := HS1.out.mid 22 1 (L + 1) 1 ((L : Int) + 1) .i64 .i64 Tryd.underlying22 rfl (by omega) (by omega) (by omega)
  have hS3 : Sl w2 B (.slice A3 L (c1 - 1)) l := by
    have e : ((34 :: (l ++ [34])).take (L + 1 + 1)).take (L + 1) = (34 :: (l ++ [34])).take (l.length + 1) := by
      rw [List.take_take, HLL.out, Nat.min_eq_left (by omega)]
    rw [e, inside_eq] at hdM
    exact hdM
  have hcutM2 : ∀ W : World, (Instr.slice 22 (.slice A1 (L + 2) c1) (some (.int .i64 1)) (some (.int .i64 ((L : Int) + 1))) none).run Tryd.prog W = .ok (.slice A3 L (c1 - 1)) W := hcutM
  have hs21 : ((L : Int) + 2 - 1) = (L : Int) + 1 := by omega
  have HS3 := Aside0.mk hS3
  clear hcutM hdM hS3
  rcases HK.out with ⟨hk9, -⟩ | ⟨hk8, hno⟩
  · obtain rfl : k = 9 := hk9
    clear HK
    go_wp2_with fail
    go_returns
    exact ⟨_, A2, c2, false, rfl, HS3.out.grow (Nat.le_trans HBB.out HB2.out.size), HB2.out⟩
  · exact absurd HNO.out hno
theorem Fl_zero : Fl 0 false false := ⟨by decide, by decide⟩
set_option maxHeartbeats 16000000 in
set_option maxRecDepth 100000 in
theorem appu_calls (w : World) (base B : Nat) (A : Option Addr) (n c : Nat) (bv : Value) (bs l m : List Int) (hB : B ≤ base) (hbase : base ≤ w.heap.size) (h : Sl w B (.slice A n c) (34 :: (l ++ [34]))) (hstr : Str l) (hu : Unq l m) (hbv : Ow w base bv bs) (hc : (bs = [] ∧ bv = .slice none 0 0) ∨ (92 ∉ l ∧ ∀ c ∈ l, prn c = true)) (hl : l.length ≤ 500000000) (hbl : bs.length ≤ 1000000) (ht : Tab w) :
    Calls Tryd.prog 65 #[.slice A n c, bv] w fun e w' => ∃ v', e = .returned v' ∧ Ow w' base v' (bs ++ m) ∧ Below base w w' := by
  have hby := (Plain.str hstr).bytes
  have hml := hu.len
  have HU := Aside0.mk (fun (W : World) (hW : Below w.heap.size w W) => (show Calls Tryd.prog 93 #[.agg #[.int .u32 0], .slice A n c, bv] W (UnqPost W m) by
    have hBW : B ≤ W.heap.size := Nat.le_trans hB (Nat.le_trans hbase hW.size)
    have hsW := h.below (hW.mono (Nat.le_trans hB hbase))
    rcases hc with ⟨-, rfl⟩ | ⟨h92, hp⟩
    · exact unq_calls W B A n c 0 l m false false hBW hsW hby hstr hu Fl_zero (fun h => by cases h) (fun h => by cases h) hl (ht.below hW)
    · rw [hu.plain h92 hstr.bytes hp]
      exact unq_keep W B A n c 0 l false false bv hBW hsW hby hstr h92 Fl_zero hp (fun h => by cases h) hl (ht.below hW)))
  have hal := below_alloc (Below.refl w.heap.size w) (.cells #[.int .u32 0] 116)
  have HAL := Aside0.mk hal
  have HBV := Aside0.mk (fun (W : World) (hW : Below w.heap.size w W) => hbv.below hW)
  have HBS := Aside0.mk hbase
  have HL := Aside0.mk (show bs.length + m.length ≤ 3000000000 by omega)
  obtain ⟨Ab, nb, cb, rfl⟩ : ∃ Ab nb cb, bv = .slice Ab nb cb := by
    obtain ⟨A', c', e, -⟩ := hbv.cells
    exact ⟨_, _, _, e⟩
  clear hby hml hB hbase h hstr hu hbv hc hl hbl ht hal
  go_enter Tryd.func65, Tryd.ntmps65
  go_wp2_with (first
    | (go_at_call 93; (with_reducible refine (HU.out _ HAL.out).mono ?_); rintro en w3 ⟨v1, A2, c2, b, rfl, hv, hb⟩; obtain ⟨A1, n1, c1, rfl, hn1⟩ := hv.formv; have HB3 := Aside0.mk (HAL.out.trans (hb.mono HAL.out.size)); obtain ⟨v4, w4, hq, ho, hg, -⟩ := (HBV.out w3 HB3.out).append_sl hv (Nat.le_trans HBS.out HB3.out.size) (by have := HL.out; omega) 22; have HQ := Aside0.mk hq; have HO := Aside0.mk ho; have HB4 := Aside0.mk (pw_below_grown (HB3.out.mono HBS.out) _ (Nat.le_trans HBS.out HB3.out.size) hg (fun k hk => (HBV.out w3 HB3.out).base k hk)); clear hv hb hn1 hq ho hg)
    | (at_builtin; refine wpList_append_own_run rfl _ _ 22 rfl _ _ _ _ rfl rfl HQ.out ?_))
  go_returns
  exact ⟨_, rfl, HO.out, HB4.out⟩
set_option maxHeartbeats 16000000 in
set_option maxRecDepth 100000 in
theorem unquote_calls (w : World) (B : Nat) (A : Option Addr) (n c : Nat) (l m : List Int) (hB : B ≤ w.heap.size) (h : Sl w B (.slice A n c) (34 :: (l ++ [34]))) (hstr : Str l) (hu : Unq l m) (hl : l.length ≤ 500000000) (ht : Tab w) :
    Calls Tryd.prog 59 #[.slice A n c] w fun e w' => ∃ v', e = .returned v' ∧ Ow w' w.heap.size v' m ∧ Below w.heap.size w w' := by
  have HU := Aside0.mk (appu_calls w w.heap.size B A n c (.slice none 0 0) [] l m hB (Nat.le_refl _) h hstr hu (Ow.nil _ _) (.inl ⟨rfl, rfl⟩) hl (by simp) ht)
  rw [List.nil_append] at HU
  clear hB h hstr hu hl ht
  go_enter Tryd.func59, Tryd.ntmps59
  go_wp2_with (go_at_call 65; (with_reducible refine HU.out.mono ?_); rintro en w3 ⟨v', rfl, ho, hb⟩; have HO := Aside0.mk ho; have HB := Aside0.mk hb; clear ho hb)
  go_returns
  exact ⟨_, rfl, HO.out, HB.out⟩
end Go.Proofs.YtekmminmgjoabaaDoor.Js

namespace Go.Proofs.YtekmminmgjoabaaDoor.Js
open Go.RowKit Go.Proofs.YtekmminmgjoabaaDoorW.PrintWords Go.Proofs.YtekmminmgjoabaaDoorW.PrintLast Go.Proofs.YtekmminmgjoabaaDoorW.PrintMore Go.Proofs.YtekmminmgjoabaaDoor.PFnJSTokens
set_option linter.unusedVariables false
set_option linter.unusedSimpArgs false
theorem OnText.keep {W W' : World} {B T g : Nat} {l : List Int} {b : Value} (h : OnText W B T l) (hg : W.heap[g]? = some (.cells #[b] 4 (0, 0))) (hk : KeepBut W W' g none) (hb : Below B W W') : OnText W' B T l := by
  obtain ⟨vv, js, sp, K, p, q, dp, ix, ik, nk, hT, hs, hkk⟩ := h
  have hne : T ≠ g := by
    rintro rfl
    rw [hT] at hg
    injection hg with hg
    injection hg with h1 h2
    exact absurd h2 (by decide)
  exact ⟨vv, js, sp, K, p, q, dp, ix, ik, nk, (hk.2 T (blk_lt hT) hne (by simp)).trans hT, hs.below hb, hkk⟩
theorem Ow.setBool {w W : World} {base : Nat} {v : Value} {xs : List Int} (h : Ow W base v xs) (hb : w.heap.size < base) (u : Value) : Ow (W.setCell ⟨w.heap.size, 0, none⟩ u) base v xs :=
  h.move fun k hk => Below.heap_setCell W ⟨w.heap.size, 0, none⟩ u k (by
    have := h.base k hk
    show k ≠ w.heap.size
    omega)
set_option maxHeartbeats 4000000 in
set_option maxRecDepth 100000 in
theorem clone_nil (w : World) (B : Nat) (v : Value) (zs : List Int) (h : Sl w B v zs) (hl : zs.length ≤ 4000000000) : Calls Tryd.prog 57 #[v] w fun e w' => ∃ v', e = .returned v' ∧ Ow w' w.heap.size v' zs ∧ (zs = [] → v' = .slice none 0 0) ∧ Below w.heap.size w w' := by
  by_cases h0 : zs = []
  · subst h0
    obtain ⟨A, m, c, rfl, hm⟩ := h.formv
    obtain rfl : m = 0 := hm
    obtain ⟨i0, hi, hzz⟩ := Option.map_eq_some_iff.1 info5
    simp only [Prod.mk.injEq] at hzz
    have HQ := Aside0.mk (fun W : World => append_none (P := Tryd.prog) 22 22 5 i0 (.int .u8 0) Tryd.underlying22 hi hzz.1 A c W)
    clear h hl hi hzz
    go_enter Tryd.func57, Tryd.ntmps57
    go_wp2_with (at_builtin; refine wpList_append_own_run rfl _ _ 22 rfl _ _ _ _ rfl rfl (HQ.out _) ?_)
    go_returns
    exact ⟨_, rfl, Ow.nil _ _, fun _ => rfl, Below.refl _ _⟩
  · exact (clone_ow w B v zs h hl).mono fun e w' ⟨v', h1, h2, h3⟩ => ⟨v', h1, h2, fun h => absurd h h0, h3⟩
set_option maxHeartbeats 4000000 in
set_option maxRecDepth 100000 in
theorem jsText_calls (w : World) (A : Option Addr) (n c : Nat) (l m : List Int) (hstr : Str l) (hu : Unq l m) (hs : Sl w w.heap.size (.slice A n c) (34 :: (l ++ [34]))) (hl : l.length ≤ 500000000) (ht : Tab w) :
    Calls Tryd.prog 28 #[.slice A n c] w fun e w' => ∃ v, e = .returned (.tuple #[v, .bool true]) ∧ Sl w' w'.heap.size v m ∧ Below w.heap.size w w' := by
  have h3 := tab_lt ht
  have hml := hu.len
  have hal := below_alloc (Below.refl w.heap.size w) (.cells #[.bool false] 4)
  have HOK := Aside0.mk (blk_new w (.cells #[.bool false] 4))
  have HAL := Aside0.mk hal
  have HN := Aside0.mk (first_text (w.alloc (.cells #[.bool false] 4)) w.heap.size h3 (by simp) A n c l hstr (hs.below hal) (by omega) (ht.base h3 hal))
  have HU := Aside0.mk (fun (W : World) (T : Nat) (hT : w.heap.size ≤ T) (hW : Below w.heap.size w W) (h : OnText W w.heap.size T l) => string_calls W w.heap.size T l m hT hstr hu hl (ht.below hW) h)
  have HML := Aside0.mk (show m.length ≤ 4000000000 by omega)
  clear hal hs hl ht h3 hstr hu hml
  go_enter_defers Tryd.func28, Tryd.ntmps28
  go_upto_region 3 with (first
    | (go_at_call 56; (with_reducible refine HN.out.mono ?_); rintro e W1 ⟨T, rfl, hT, ho, hb1⟩; have HOT := Aside0.mk ho; have HTT := Aside0.mk hT; have HOK1 := Aside0.mk (hb1.keep _ _ _ HOK.out (by rintro (h | h | h) <;> cases h)); have HB1 := Aside0.mk (HAL.out.trans hb1.below); clear ho hT hb1)
    | ((with_reducible refine gate_st rfl ?_); refine store_any _ _ _ rfl rfl rfl HOK1.out rfl (by simp) rfl rfl rfl (by kernel_rfl) ?_; intro W2 hb2 hk2 hg2; have HS2 := Aside0.mk (show Held3 w W2 from ⟨hb2, HB1.out.trans hg2⟩); have HOT2 := Aside0.mk (HOT.out.keep HOK1.out hk2 hg2); clear hb2 hk2 hg2))
  have HU2 := Aside0.mk (HU.out _ T HTT.out HS2.out.drew.2 HOT2.out.drew)
  have HSD := Aside0.mk HS2.out.drew
  have HSZ := Aside0.mk (show w.heap.size < W2.drew.heap.size from blk_lt HS2.out.drew.1)
  clear HU HN HOK HAL HOT HOK1 HB1 HOT2 HS2
  refine wp_region_held_drew (S := Held3 w) (by kernel_rfl) HSD.out (fun hHeld => ?_)
  (try simp only [Act.put, List.setIfInBounds_toArray, List.set_cons_zero, List.set_cons_succ])
  refine wpAnyH_ready (rs := [0, 3]) (by kernel_rfl) (by simp) ?_
  refine AllReadyH.cons (o := ⟨_, _, _, _, _, _⟩) rfl (fun K hK => ?_) (AllReadyH.cons (o := ⟨_, _, _, _, _, _⟩) rfl (fun K hK => ?_) AllReadyH.nil)
  · go_simp
    refine hK.out _ _ HSD.out (fun hHeld => ?_)
    clear hK K
    (try simp only [Act.put, List.setIfInBounds_toArray, List.set_cons_zero, List.set_cons_succ])
    refine wpAnyH_ready (rs := [1, 3]) (by kernel_rfl) (by simp) ?_
    refine AllReadyH.cons (o := ⟨_, _, _, _, _, _⟩) rfl (fun K hK => ?_) (AllReadyH.cons (o := ⟨_, _, _, _, _, _⟩) rfl (fun K hK => ?_) AllReadyH.nil)
    · go_simp
      go_at_call 58
      (with_reducible refine HU2.out.mono ?_)
      rintro e w9 ⟨v9, rfl, hv, hb⟩
      have HS9 := Aside0.mk (HSD.out.below hb)
      have HZ9 := Aside0.mk hb.size
      have HV9 := Aside0.mk hv
      clear hb hv
      refine hK.out _ _ HS9.out (fun hHeld => ?_)
      clear hK K
      (try simp only [Act.put, List.setIfInBounds_toArray, List.set_cons_zero, List.set_cons_succ])
      refine wpAnyH_ready (rs := [2, 3]) (by kernel_rfl) (by simp) ?_
      refine AllReadyH.cons (o := ⟨_, _, _, _, _, _⟩) rfl (fun K hK => ?_) (AllReadyH.cons (o := ⟨_, _, _, _, _, _⟩) rfl (fun K hK => ?_) AllReadyH.nil)
      · go_simp
        go_at_call 57
        (with_reducible refine (clone_ow _ _ _ _ HV9.out HML.out).mono ?_)
        rintro e w10 ⟨v10, rfl, ho, hb⟩
        have HS10 := Aside0.mk (HS9.out.below hb)
        have HO10 := Aside0.mk ho
        clear hb ho
        refine hK.out _ _ HS10.out (fun hHeld => ?_)
        clear hK K
        (try simp only [Act.put, List.setIfInBounds_toArray, List.set_cons_zero, List.set_cons_succ])
        refine wpAnyH_ready (rs := [3, 4]) (by kernel_rfl) (by simp) ?_
        refine AllReadyH.cons (o := ⟨_, _, _, _, _, _⟩) rfl (fun K hK => ?_) (AllReadyH.cons (o := ⟨_, _, _, _, _, _⟩) rfl (fun K hK => ?_) AllReadyH.nil)
        · have c2 := HS10.out.cell
          go_simp
          refine hK.out _ _ HS10.out (fun hHeld => ?_)
          clear hK K
          clear c2
          (try simp only [Act.put, List.setIfInBounds_toArray, List.set_cons_zero, List.set_cons_succ])
          refine wpAnyH_ready (rs := [4]) (by kernel_rfl) (by simp) ?_
          refine AllReadyH.cons (o := ⟨_, _, _, _, _, _⟩) rfl (fun K hK => ?_) AllReadyH.nil
          go_simp
          refine hK.out _ _ HS10.out (fun hHeld => ?_)
          clear hK K
          (try simp only [Act.put, List.setIfInBounds_toArray, List.set_cons_zero, List.set_cons_succ])
          refine wpAnyH_ready (rs := [5]) (by kernel_rfl) (by simp) ?_
          refine AllReadyH.cons (o := ⟨_, _, _, _, _, _⟩) rfl (fun K hK => ?_) AllReadyH.nil
          have c9 := HS10.out.cell
          have f9 := HS10.out.free
          go_simp
          refine hK.out _ _ HS10.out.set (fun hHeld => ?_)
          clear hK K
          refine wpAnyH_done (by kernel_rfl) ?_ _
          have HS11 := Aside0.mk HS10.out.set
          have HO11 := Aside0.mk (HO10.out.setBool (w := w) (Nat.lt_of_lt_of_le HSZ.out HZ9.out) (.bool true))
          obtain ⟨W11, hW11⟩ : ∃ W11, W11 = w10.setCell ⟨w.heap.size, 0, none⟩ (.bool true) := ⟨_, rfl⟩
          rw [← hW11] at HS11 HO11 ⊢
          clear hW11 HS10 HO10 c9 f9 HSD
          go_wp2_with fail
          refine leaves_cons (f := 53) (args := #[.pointer (some ⟨w.heap.size, 0, none⟩)]) (by simp) (by simp [go_sem]) ?_
          refine (caught_idle _ _).mono ?_
          rintro e u' w'' ⟨rfl, rfl, rfl⟩
          have hcc := HS11.out.cell
          refine ⟨.tuple #[v10, .bool true], ?_, ?_⟩
          · simp [results, Tryd.results28, go_sem, hcc]
          · exact ⟨v10, rfl, HO11.out.sl HML.out, HS11.out.2⟩
        · go_simp
          refine hK.out _ _ HS10.out (fun hHeld => ?_)
          clear hK K
          (try simp only [Act.put, List.setIfInBounds_toArray, List.set_cons_zero, List.set_cons_succ])
          refine wpAnyH_ready (rs := [3]) (by kernel_rfl) (by simp) ?_
          refine AllReadyH.cons (o := ⟨_, _, _, _, _, _⟩) rfl (fun K hK => ?_) AllReadyH.nil
          have c2 := HS10.out.cell
          go_simp
          refine hK.out _ _ HS10.out (fun hHeld => ?_)
          clear hK K
          clear c2
          (try simp only [Act.put, List.setIfInBounds_toArray, List.set_cons_zero, List.set_cons_succ])
          refine wpAnyH_ready (rs := [5]) (by kernel_rfl) (by simp) ?_
          refine AllReadyH.cons (o := ⟨_, _, _, _, _, _⟩) rfl (fun K hK => ?_) AllReadyH.nil
          have c9 := HS10.out.cell
          have f9 := HS10.out.free
          go_simp
          refine hK.out _ _ HS10.out.set (fun hHeld => ?_)
          clear hK K
          refine wpAnyH_done (by kernel_rfl) ?_ _
          have HS11 := Aside0.mk HS10.out.set
          have HO11 := Aside0.mk (HO10.out.setBool (w := w) (Nat.lt_of_lt_of_le HSZ.out HZ9.out) (.bool true))
          obtain ⟨W11, hW11⟩ : ∃ W11, W11 = w10.setCell ⟨w.heap.size, 0, none⟩ (.bool true) := ⟨_, rfl⟩
          rw [← hW11] at HS11 HO11 ⊢
          clear hW11 HS10 HO10 c9 f9 HSD
          go_wp2_with fail
          refine leaves_cons (f := 53) (args := #[.pointer (some ⟨w.heap.size, 0, none⟩)]) (by simp) (by simp [go_sem]) ?_
          refine (caught_idle _ _).mono ?_
          rintro e u' w'' ⟨rfl, rfl, rfl⟩
          have hcc := HS11.out.cell
          refine ⟨.tuple #[v10, .bool true], ?_, ?_⟩
          · simp [results, Tryd.results28, go_sem, hcc]
          · exact ⟨v10, rfl, HO11.out.sl HML.out, HS11.out.2⟩
      · have c2 := HS9.out.cell
        go_simp
        refine hK.out _ _ HS9.out (fun hHeld => ?_)
        clear hK K
        clear c2
        (try simp only [Act.put, List.setIfInBounds_toArray, List.set_cons_zero, List.set_cons_succ])
        refine wpAnyH_ready (rs := [2]) (by kernel_rfl) (by simp) ?_
        refine AllReadyH.cons (o := ⟨_, _, _, _, _, _⟩) rfl (fun K hK => ?_) AllReadyH.nil
        go_simp
        go_at_call 57
        (with_reducible refine (clone_ow _ _ _ _ HV9.out HML.out).mono ?_)
        rintro e w10 ⟨v10, rfl, ho, hb⟩
        have HS10 := Aside0.mk (HS9.out.below hb)
        have HO10 := Aside0.mk ho
        clear hb ho
        refine hK.out _ _ HS10.out (fun hHeld => ?_)
        clear hK K
        (try simp only [Act.put, List.setIfInBounds_toArray, List.set_cons_zero, List.set_cons_succ])
        refine wpAnyH_ready (rs := [4]) (by kernel_rfl) (by simp) ?_
        refine AllReadyH.cons (o := ⟨_, _, _, _, _, _⟩) rfl (fun K hK => ?_) AllReadyH.nil
        go_simp
        refine hK.out _ _ HS10.out (fun hHeld => ?_)
        clear hK K
        (try simp only [Act.put, List.setIfInBounds_toArray, List.set_cons_zero, List.set_cons_succ])
        refine wpAnyH_ready (rs := [5]) (by kernel_rfl) (by simp) ?_
        refine AllReadyH.cons (o := ⟨_, _, _, _, _, _⟩) rfl (fun K hK => ?_) AllReadyH.nil
        have c9 := HS10.out.cell
        have f9 := HS10.out.free
        go_simp
        refine hK.out _ _ HS10.out.set (fun hHeld => ?_)
        clear hK K
        refine wpAnyH_done (by kernel_rfl) ?_ _
        have HS11 := Aside0.mk HS10.out.set
        have HO11 := Aside0.mk (HO10.out.setBool (w := w) (Nat.lt_of_lt_of_le HSZ.out HZ9.out) (.bool true))
        obtain ⟨W11, hW11⟩ : ∃ W11, W11 = w10.setCell ⟨w.heap.size, 0, none⟩ (.bool true) := ⟨_, rfl⟩
        rw [← hW11] at HS11 HO11 ⊢
        clear hW11 HS10 HO10 c9 f9 HSD
        go_wp2_with fail
        refine leaves_cons (f := 53) (args := #[.pointer (some ⟨w.heap.size, 0, none⟩)]) (by simp) (by simp [go_sem]) ?_
        refine (caught_idle _ _).mono ?_
        rintro e u' w'' ⟨rfl, rfl, rfl⟩
        have hcc := HS11.out.cell
        refine ⟨.tuple #[v10, .bool true], ?_, ?_⟩
        · simp [results, Tryd.results28, go_sem, hcc]
        · exact ⟨v10, rfl, HO11.out.sl HML.out, HS11.out.2⟩
    · have c2 := HSD.out.cell
      go_simp
      refine hK.out _ _ HSD.out (fun hHeld => ?_)
      clear hK K
      clear c2
      (try simp only [Act.put, List.setIfInBounds_toArray, List.set_cons_zero, List.set_cons_succ])
      refine wpAnyH_ready (rs := [1]) (by kernel_rfl) (by simp) ?_
      refine AllReadyH.cons (o := ⟨_, _, _, _, _, _⟩) rfl (fun K hK => ?_) AllReadyH.nil
      go_simp
      go_at_call 58
      (with_reducible refine HU2.out.mono ?_)
      rintro e w9 ⟨v9, rfl, hv, hb⟩
      have HS9 := Aside0.mk (HSD.out.below hb)
      have HZ9 := Aside0.mk hb.size
      have HV9 := Aside0.mk hv
      clear hb hv
      refine hK.out _ _ HS9.out (fun hHeld => ?_)
      clear hK K
      (try simp only [Act.put, List.setIfInBounds_toArray, List.set_cons_zero, List.set_cons_succ])
      refine wpAnyH_ready (rs := [2]) (by kernel_rfl) (by simp) ?_
      refine AllReadyH.cons (o := ⟨_, _, _, _, _, _⟩) rfl (fun K hK => ?_) AllReadyH.nil
      go_simp
      go_at_call 57
      (with_reducible refine (clone_ow _ _ _ _ HV9.out HML.out).mono ?_)
      rintro e w10 ⟨v10, rfl, ho, hb⟩
      have HS10 := Aside0.mk (HS9.out.below hb)
      have HO10 := Aside0.mk ho
      clear hb ho
      refine hK.out _ _ HS10.out (fun hHeld => ?_)
      clear hK K
      (try simp only [Act.put, List.setIfInBounds_toArray, List.set_cons_zero, List.set_cons_succ])
      refine wpAnyH_ready (rs := [4]) (by kernel_rfl) (by simp) ?_
      refine AllReadyH.cons (o := ⟨_, _, _, _, _, _⟩) rfl (fun K hK => ?_) AllReadyH.nil
      go_simp
      refine hK.out _ _ HS10.out (fun hHeld => ?_)
      clear hK K
      (try simp only [Act.put, List.setIfInBounds_toArray, List.set_cons_zero, List.set_cons_succ])
      refine wpAnyH_ready (rs := [5]) (by kernel_rfl) (by simp) ?_
      refine AllReadyH.cons (o := ⟨_, _, _, _, _, _⟩) rfl (fun K hK => ?_) AllReadyH.nil
      have c9 := HS10.out.cell
      have f9 := HS10.out.free
      go_simp
      refine hK.out _ _ HS10.out.set (fun hHeld => ?_)
      clear hK K
      refine wpAnyH_done (by kernel_rfl) ?_ _
      have HS11 := Aside0.mk HS10.out.set
      have HO11 := Aside0.mk (HO10.out.setBool (w := w) (Nat.lt_of_lt_of_le HSZ.out HZ9.out) (.bool true))
      obtain ⟨W11, hW11⟩ : ∃ W11, W11 = w10.setCell ⟨w.heap.size, 0, none⟩ (.bool true) := ⟨_, rfl⟩
      rw [← hW11] at HS11 HO11 ⊢
      clear hW11 HS10 HO10 c9 f9 HSD
      go_wp2_with fail
      refine leaves_cons (f := 53) (args := #[.pointer (some ⟨w.heap.size, 0, none⟩)]) (by simp) (by simp [go_sem]) ?_
      refine (caught_idle _ _).mono ?_
      rintro e u' w'' ⟨rfl, rfl, rfl⟩
      have hcc := HS11.out.cell
      refine ⟨.tuple #[v10, .bool true], ?_, ?_⟩
      · simp [results, Tryd.results28, go_sem, hcc]
      · exact ⟨v10, rfl, HO11.out.sl HML.out, HS11.out.2⟩
  · have c2 := HSD.out.cell
    go_simp
    refine hK.out _ _ HSD.out (fun hHeld => ?_)
    clear hK K
    clear c2
    (try simp only [Act.put, List.setIfInBounds_toArray, List.set_cons_zero, List.set_cons_succ])
    refine wpAnyH_ready (rs := [0]) (by kernel_rfl) (by simp) ?_
    refine AllReadyH.cons (o := ⟨_, _, _, _, _, _⟩) rfl (fun K hK => ?_) AllReadyH.nil
    go_simp
    refine hK.out _ _ HSD.out (fun hHeld => ?_)
    clear hK K
    (try simp only [Act.put, List.setIfInBounds_toArray, List.set_cons_zero, List.set_cons_succ])
    refine wpAnyH_ready (rs := [1]) (by kernel_rfl) (by simp) ?_
    refine AllReadyH.cons (o := ⟨_, _, _, _, _, _⟩) rfl (fun K hK => ?_) AllReadyH.nil
    go_simp
    go_at_call 58
    (with_reducible refine HU2.out.mono ?_)
    rintro e w9 ⟨v9, rfl, hv, hb⟩
    have HS9 := Aside0.mk (HSD.out.below hb)
    have HZ9 := Aside0.mk hb.size
    have HV9 := Aside0.mk hv
    clear hb hv
    refine hK.out _ _ HS9.out (fun hHeld => ?_)
    clear hK K
    (try simp only [Act.put, List.setIfInBounds_toArray, List.set_cons_zero, List.set_cons_succ])
    refine wpAnyH_ready (rs := [2]) (by kernel_rfl) (by simp) ?_
    refine AllReadyH.cons (o := ⟨_, _, _, _, _, _⟩) rfl (fun K hK => ?_) AllReadyH.nil
    go_simp
    go_at_call 57
    (with_reducible refine (clone_ow _ _ _ _ HV9.out HML.out).mono ?_)
    rintro e w10 ⟨v10, rfl, ho, hb⟩
    have HS10 := Aside0.mk (HS9.out.below hb)
    have HO10 := Aside0.mk ho
    clear hb ho
    refine hK.out _ _ HS10.out (fun hHeld => ?_)
    clear hK K
    (try simp only [Act.put, List.setIfInBounds_toArray, List.set_cons_zero, List.set_cons_succ])
    refine wpAnyH_ready (rs := [4]) (by kernel_rfl) (by simp) ?_
    refine AllReadyH.cons (o := ⟨_, _, _, _, _, _⟩) rfl (fun K hK => ?_) AllReadyH.nil
    go_simp
    refine hK.out _ _ HS10.out (fun hHeld => ?_)
    clear hK K
    (try simp only [Act.put, List.setIfInBounds_toArray, List.set_cons_zero, List.set_cons_succ])
    refine wpAnyH_ready (rs := [5]) (by kernel_rfl) (by simp) ?_
    refine AllReadyH.cons (o := ⟨_, _, _, _, _, _⟩) rfl (fun K hK => ?_) AllReadyH.nil
    have c9 := HS10.out.cell
    have f9 := HS10.out.free
    go_simp
    refine hK.out _ _ HS10.out.set (fun hHeld => ?_)
    clear hK K
    refine wpAnyH_done (by kernel_rfl) ?_ _
    have HS11 := Aside0.mk HS10.out.set
    have HO11 := Aside0.mk (HO10.out.setBool (w := w) (Nat.lt_of_lt_of_le HSZ.out HZ9.out) (.bool true))
    obtain ⟨W11, hW11⟩ : ∃ W11, W11 = w10.setCell ⟨w.heap.size, 0, none⟩ (.bool true) := ⟨_, rfl⟩
    rw [← hW11] at HS11 HO11 ⊢
    clear hW11 HS10 HO10 c9 f9 HSD
    go_wp2_with fail
    refine leaves_cons (f := 53) (args := #[.pointer (some ⟨w.heap.size, 0, none⟩)]) (by simp) (by simp [go_sem]) ?_
    refine (caught_idle _ _).mono ?_
    rintro e u' w'' ⟨rfl, rfl, rfl⟩
    have hcc := HS11.out.cell
    refine ⟨.tuple #[v10, .bool true], ?_, ?_⟩
    · simp [results, Tryd.results28, go_sem, hcc]
    · exact ⟨v10, rfl, HO11.out.sl HML.out, HS11.out.2⟩
set_option maxHeartbeats 4000000 in
set_option maxRecDepth 100000 in
theorem jsUnquote_calls (w : World) (A : Option Addr) (n c : Nat) (l m : List Int) (hstr : Str l) (hu : Unq l m) (hs : Sl w w.heap.size (.slice A n c) (34 :: (l ++ [34]))) (hl : l.length ≤ 500000000) (ht : Tab w) :
    Calls Tryd.prog 29 #[.slice A n c] w fun e w' => ∃ v, e = .returned (.tuple #[v, .bool true]) ∧ Sl w' w'.heap.size v m ∧ Below w.heap.size w w' := by
  have hml := hu.len
  have hal := below_alloc (Below.refl w.heap.size w) (.cells #[.bool false] 4)
  have HOK := Aside0.mk (blk_new w (.cells #[.bool false] 4))
  have HAL := Aside0.mk hal
  have HU := Aside0.mk (unquote_calls (w.alloc (.cells #[.bool false] 4)) w.heap.size A n c l m hal.size (hs.below hal) hstr hu hl (ht.below hal))
  have HML := Aside0.mk (show m.length ≤ 4000000000 by omega)
  have HSZ := Aside0.mk (blk_lt (blk_new w (.cells #[.bool false] 4)))
  clear hal hs hl ht hstr hu hml
  go_enter_defers Tryd.func29, Tryd.ntmps29
  go_wp2_with (first
    | (go_at_call 59; (with_reducible refine HU.out.mono ?_); rintro e W1 ⟨v1, rfl, ho, hb1⟩; have HO1 := Aside0.mk ho; have HOK1 := Aside0.mk (blk_below HOK.out hb1); have HB1 := Aside0.mk (HAL.out.trans (hb1.mono HAL.out.size)); clear ho hb1)
    | ((with_reducible refine gate_st rfl ?_); refine store_any _ _ _ rfl rfl rfl HOK1.out rfl (by simp) rfl rfl rfl (by kernel_rfl) ?_; intro W2 hb2 hk2 hg2; have HS2 := Aside0.mk (show Held3 w W2 from ⟨hb2, HB1.out.trans hg2⟩); have HO2 := Aside0.mk (HO1.out.move (w1 := W2) fun k hk => hk2.2 k (HO1.out.lt k hk) (by have := HO1.out.base k hk; have := HSZ.out; omega) (by simp)); clear hb2 hk2 hg2))
  refine leaves_cons (f := 53) (args := #[.pointer (some ⟨w.heap.size, 0, none⟩)]) (by simp) (by simp [go_sem]) ?_
  refine (caught_idle _ _).mono ?_
  rintro e u' w'' ⟨rfl, rfl, rfl⟩
  have hcc := HS2.out.cell
  refine ⟨.tuple #[v1, .bool true], ?_, ?_⟩
  · simp [results, Tryd.results29, go_sem, hcc]
  · exact ⟨v1, rfl, HO2.out.sl HML.out, HS2.out.2⟩
set_option maxHeartbeats 4000000 in
set_option maxRecDepth 100000 in
theorem jsAppend_calls (w : World) (bv : Value) (bs : List Int) (A : Option Addr) (n c : Nat) (l m : List Int) (hstr : Str l) (hu : Unq l m) (hb : Sl w w.heap.size bv bs) (hs : Sl w w.heap.size (.slice A n c) (34 :: (l ++ [34]))) (hc : bs = [] ∨ (92 ∉ l ∧ ∀ c ∈ l, prn c = true)) (hl : l.length ≤ 500000000) (hbl : bs.length ≤ 1000000) (ht : Tab w) :
    Calls Tryd.prog 35 #[bv, .slice A n c] w fun e w' => ∃ v, e = .returned (.tuple #[v, .bool true]) ∧ Sl w' w'.heap.size v (bs ++ m) ∧ Below w.heap.size w w' := by
  have hml := hu.len
  have hal := below_alloc (Below.refl w.heap.size w) (.cells #[.bool false] 4)
  have HOK := Aside0.mk (blk_new w (.cells #[.bool false] 4))
  have HAL := Aside0.mk hal
  have HSZ := Aside0.mk (blk_lt (blk_new w (.cells #[.bool false] 4)))
  have HCL := Aside0.mk (clone_nil (w.alloc (.cells #[.bool false] 4)) w.heap.size bv bs (hb.below hal) (by omega))
  have HU := Aside0.mk (fun (W : World) (v : Value) (hW : Below (w.alloc (.cells #[.bool false] 4)).heap.size (w.alloc (.cells #[.bool false] 4)) W) (ho : Ow W (w.alloc (.cells #[.bool false] 4)).heap.size v bs) (hn : bs = [] → v = .slice none 0 0) => appu_calls W (w.alloc (.cells #[.bool false] 4)).heap.size w.heap.size A n c v bs l m hal.size hW.size (hs.below (hal.trans (hW.mono hal.size))) hstr hu ho (hc.imp (fun h => ⟨h, hn h⟩) id) hl hbl (ht.below (hal.trans (hW.mono hal.size))))
  have HML := Aside0.mk (show (bs ++ m).length ≤ 4000000000 by rw [List.length_append]; omega)
  clear hal hs hl ht hstr hu hml hb hc hbl
  go_enter_defers Tryd.func35, Tryd.ntmps35
  go_wp2_with (first
    | (go_at_call 57; (with_reducible refine HCL.out.mono ?_); rintro e W0 ⟨v0, rfl, ho, hn, hb0⟩; have HU0 := Aside0.mk (HU.out W0 v0 hb0 ho hn); have HB0 := Aside0.mk hb0; clear ho hn hb0)
    | (go_at_call 65; (with_reducible refine HU0.out.mono ?_); rintro e W1 ⟨v1, rfl, ho, hb1⟩; have HO1 := Aside0.mk ho; have HOK1 := Aside0.mk (blk_below HOK.out (HB0.out.trans hb1)); have HB1 := Aside0.mk (HAL.out.trans ((HB0.out.trans hb1).mono HAL.out.size)); clear ho hb1)
    | ((with_reducible refine gate_st rfl ?_); refine store_any _ _ _ rfl rfl rfl HOK1.out rfl (by simp) rfl rfl rfl (by kernel_rfl) ?_; intro W2 hb2 hk2 hg2; have HS2 := Aside0.mk (show Held3 w W2 from ⟨hb2, HB1.out.trans hg2⟩); have HO2 := Aside0.mk (HO1.out.move (w1 := W2) fun k hk => hk2.2 k (HO1.out.lt k hk) (by have := HO1.out.base k hk; have := HSZ.out; omega) (by simp)); clear hb2 hk2 hg2))
  refine leaves_cons (f := 53) (args := #[.pointer (some ⟨w.heap.size, 0, none⟩)]) (by simp) (by simp [go_sem]) ?_
  refine (caught_idle _ _).mono ?_
  rintro e u' w'' ⟨rfl, rfl, rfl⟩
  have hcc := HS2.out.cell
  refine ⟨.tuple #[v1, .bool true], ?_, ?_⟩
  · simp [results, Tryd.results35, go_sem, hcc]
  · exact ⟨v1, rfl, HO2.out.sl HML.out, HS2.out.2⟩
end Go.Proofs.YtekmminmgjoabaaDoor.Js

