/- Written by laws.py: the law on raw values. -/
import Derived.Test.YtekmminmgjoabaaDoorJsRaw
import Derived.Test.YtekmminmgjoabaaDoorJsLawB
import Derived.Test.YtekmminmgjoabaaDoorRw
import Derived.Lib.Bytes
namespace Go.Proofs.YtekmminmgjoabaaDoor.Js
open Go.RowKit Go.Proofs.YtekmminmgjoabaaDoorW.PrintWords Go.Proofs.YtekmminmgjoabaaDoorW.PrintLast Go.Proofs.YtekmminmgjoabaaDoorW.PrintMore Go.Proofs.YtekmminmgjoabaaDoor.PFnJSTokens
set_option linter.unusedVariables false
set_option linter.unusedSimpArgs false
theorem leaf_plain (k : Int) (code : List Int) (h : Bytes code) : Plain (leafF k code (0 - 1)).1.kind (leafF k code (0 - 1)).1.text := by
  have h1 := (leaf_ok (k := k) (left := 0 - 1) h).1
  have h2 : (leafF k code (0 - 1)).1.kind < 5 := by
    unfold leafF
    split
    · exact (by decide : (1 : Int) < 5)
    split
    · exact (by decide : (2 : Int) < 5)
    split
    · exact (by decide : (3 : Int) < 5)
    · exact (by decide : (4 : Int) < 5)
  generalize (leafF k code (0 - 1)).1 = n at h1 h2
  cases h1 with
  | leaf hp => exact hp
  | arr => exact absurd (show (5 : Int) < 5 from h2) (by decide)
  | obj => exact absurd (show (6 : Int) < 5 from h2) (by decide)
theorem leaf_short (k : Int) (code : List Int) (h : Bytes code) : (leafF k code (0 - 1)).1.text.length ≤ 80 := by
  have h1 := (leaf_ok (k := k) (left := 0 - 1) h).2.1
  have h2 : (leafF k code (0 - 1)).1.kind < 5 := by
    unfold leafF
    split
    · exact (by decide : (1 : Int) < 5)
    split
    · exact (by decide : (2 : Int) < 5)
    split
    · exact (by decide : (3 : Int) < 5)
    · exact (by decide : (4 : Int) < 5)
  generalize (leafF k code (0 - 1)).1 = n at h1 h2
  obtain ⟨k, t, items, keys⟩ := n
  rw [JN.len, if_pos (show k < 5 from h2)] at h1
  exact h1
theorem str_ne {v : List Int} {b0 : Int} {r : List Int} (hv : v = b0 :: r) (hb : b0 = 34 ∨ b0 = 45 ∨ b0 = 48 ∨ b0 = 49 ∨ b0 = 50 ∨ b0 = 51 ∨ b0 = 52 ∨ b0 = 53 ∨ b0 = 54 ∨ b0 = 55 ∨ b0 = 56 ∨ b0 = 57) : ¬ (strOfNums v).toList = [116, 114, 117, 101] ∧ ¬ (strOfNums v).toList = [102, 97, 108, 115, 101] := by
  subst hv
  rw [Lib.strOfNums_toList]
  constructor
  all_goals
    intro e
    have e := congrArg List.head? e
    simp only [Lib.bytesOf, List.map_cons, List.head?_cons] at e
    rcases hb with rfl | rfl | rfl | rfl | rfl | rfl | rfl | rfl | rfl | rfl | rfl | rfl <;> revert e <;> decide
set_option maxHeartbeats 4000000 in
set_option maxRecDepth 100000 in
theorem law_raws (w : World) (v1 : Value) (code : List Int) (h1 : Sl w w.heap.size v1 code) (hb1 : Bytes code) (ht : Tab w) :
    Calls Tryd.prog 9 #[v1] w fun e w' => e = .returned (.bool true) ∧ Below w.heap.size w w' := by
  obtain ⟨A1, c1, rfl, -⟩ := h1.form
  obtain ⟨m1, hm1⟩ : ∃ m1, m1 = code.length := ⟨_, rfl⟩
  rw [← hm1] at h1 ⊢
  have hx1 : m1 ≤ 9223372036854775807 := by rw [hm1]; have := h1.cut.2.2.1.2.1; omega
  by_cases hs1 : 2147483647 < m1
  · clear h1 hb1 hm1 ht 
    go_enter Tryd.func9, Tryd.ntmps9
    go_wp2_with fail
    go_returns
    exact ⟨rfl, Below.refl _ _⟩
  have hn1 : ¬ (2147483647 : Int) < (m1 : Int) := by omega
  have HT := Aside0.mk ht
  have hal := below_alloc (Below.refl w.heap.size w) (.cells #[.slice A1 m1 c1, .int .i64 0] 45)
  have HN := Aside0.mk (node_all 0 (w.alloc (.cells #[.slice A1 m1 c1, .int .i64 0] 45)) w.heap.size w.heap.size code 0 9 (Nat.le_refl _) (by decide) (by decide) (by decide) (by decide) (by decide) ⟨_, blk_new w _, h1.below hal, hb1⟩)
  obtain ⟨nd, hnd⟩ : ∃ nd, nd = (nodeF 0 code 0).1 := ⟨_, rfl⟩
  have hb2 := (byteF_in hb1).2.2
  have HP := Aside0.mk (show Plain nd.kind nd.text ∧ Bytes nd.text ∧ nd.text.length ≤ 80 by
    have e : nd = (leafF ((byteF code).1 % 10 % 5) (byteF code).2 (0 - 1)).1 := by rw [hnd]; rfl
    have h3 := leaf_plain ((byteF code).1 % 10 % 5) (byteF code).2 hb2
    rw [← e] at h3
    refine ⟨h3, h3.bytes, ?_⟩
    rw [e]
    exact leaf_short _ _ hb2)
  have HND := Aside0.mk hnd
  have HAL := Aside0.mk hal
  clear h1 hb1 ht hm1 hs1 hnd hal hb2
  go_enter Tryd.func9, Tryd.ntmps9
  go_upto_region 5 with (first
    | (go_at_call 24; (with_reducible refine HN.out.mono ?_); rintro e w2 ⟨v2, v3, rfl, hm2, -, hv⟩; rw [← HND.out] at hm2; rw [← HND.out]; have HONE := Aside0.mk (kJ.K_one (kJ.K_of_M hm2)); have HB2 := Aside0.mk (HAL.out.trans hv.below); have HR2 := Aside0.mk (blk_new w2 (.cells #[.int .i64 0, .string ⟨#[]⟩, .slice none 0 0, .slice none 0 0] 29)); clear hm2 hv)
    | ((with_reducible refine gate_st (p := .tmp 4) rfl ?_); refine store_agg _ _ _ rfl rfl rfl [.int .i64 nd.kind, .string (strOfNums nd.text), v2, v3] HR2.out rfl (by simp) rfl (by kernel_rfl) HONE.out ?_; intro W4 hb4 hk4 hg4; have HR4 := Aside0.mk hb4; have HB24 := Aside0.mk ((below_alloc (Below.refl w2.heap.size w2) (.cells #[.int .i64 0, .string ⟨#[]⟩, .slice none 0 0, .slice none 0 0] 29)).trans hg4); clear hb4 hk4 hg4))
  have HP2 := HP.out.1
  obtain ⟨kd, hkd⟩ : ∃ kd, kd = nd.kind := ⟨_, rfl⟩
  obtain ⟨v, hv⟩ : ∃ v, v = nd.text := ⟨_, rfl⟩
  rw [← hkd, ← hv] at HP2 HR4
  rw [← hkd, ← hv]
  have HVB := Aside0.mk (show Bytes v ∧ v.length ≤ 80 by rw [hv]; exact HP.out.2)
  clear hkd hv
  have r1 : W4.cell? ⟨w2.heap.size, 1, none⟩ = some (.string (strOfNums v)) := (blk_cell HR4.out 1).trans rfl
  obtain ⟨cz, w5, hcv, hsl5, hb5⟩ := text_bytes W4 v HVB.out.1 (by have := HVB.out.2; omega)
  have HB4 := Aside0.mk (HB2.out.trans (HB24.out.mono HB2.out.size))
  have HB5 := Aside0.mk (HB4.out.trans (hb5.mono HB4.out.size))
  have HR5 := Aside0.mk (blk_below HR4.out hb5)
  obtain ⟨b0, r, hvr, hb0, x1, x2, x3, x4, x5⟩ := plain_first HP2
  have hsl6 : Sl w5 w5.heap.size (.slice (some ⟨W4.heap.size, 0, none⟩) v.length cz) (b0 :: r) := by
    have h := hsl5
    rw [hvr] at h ⊢
    exact h
  have HRW := Aside0.mk (raw25 w5 w5.heap.size _ _ _ b0 r hb0 hsl6)
  rw [x1, x2, x3, x4, x5] at HRW
  have HX4 := Aside0.mk (And.intro x4 x5)
  have HVR := Aside0.mk hvr
  have HB0 := Aside0.mk hb0
  clear hsl5 hsl6 hb5 x1 x2 x3 x4 x5 hvr hb0
  go_upto_region 6 with (go_at_call 25; (with_reducible refine HRW.out.mono ?_); rintro e w6 ⟨rfl, rfl⟩)
  clear hcv r1
  obtain ⟨w6, hw6⟩ : ∃ w6, w6 = w5 := ⟨_, rfl⟩
  have q0 := (blk_cell HR5.out 0).trans (show _ = some (Value.int .i64 kd) from rfl)
  have q1 := (blk_cell HR5.out 1).trans (show _ = some (Value.string (strOfNums v)) from rfl)
  clear hw6
  cases HP2 with
  | null =>
    rw [show strOfNums [110, 117, 108, 108] = (⟨#[110, 117, 108, 108]⟩ : ByteArray) from rfl] at q1
    go_wp2_with (go_at_call 19; (with_reducible refine (awake_calls _ (HT.out.below HB5.out)).mono ?_); rintro e wz ⟨rfl, hbz⟩; have HBZ := Aside0.mk (HB5.out.trans (hbz.mono (HB5.out).size)); clear hbz)
    go_returns
    exact ⟨rfl, HBZ.out⟩
  | yes =>
    rw [show strOfNums [116, 114, 117, 101] = (⟨#[116, 114, 117, 101]⟩ : ByteArray) from rfl] at q1
    go_wp2_with (go_at_call 19; (with_reducible refine (awake_calls _ (HT.out.below HB5.out)).mono ?_); rintro e wz ⟨rfl, hbz⟩; have HBZ := Aside0.mk (HB5.out.trans (hbz.mono (HB5.out).size)); clear hbz)
    go_returns
    exact ⟨rfl, HBZ.out⟩
  | no =>
    rw [show strOfNums [102, 97, 108, 115, 101] = (⟨#[102, 97, 108, 115, 101]⟩ : ByteArray) from rfl] at q1
    go_wp2_with (go_at_call 19; (with_reducible refine (awake_calls _ (HT.out.below HB5.out)).mono ?_); rintro e wz ⟨rfl, hbz⟩; have HBZ := Aside0.mk (HB5.out.trans (hbz.mono (HB5.out).size)); clear hbz)
    go_returns
    exact ⟨rfl, HBZ.out⟩
  | num h =>
    have hbb : b0 = 34 ∨ b0 = 45 ∨ b0 = 48 ∨ b0 = 49 ∨ b0 = 50 ∨ b0 = 51 ∨ b0 = 52 ∨ b0 = 53 ∨ b0 = 54 ∨ b0 = 55 ∨ b0 = 56 ∨ b0 = 57 := by
      have h1 := HB0.out
      have h2 := HX4.out
      have h3 : b0 ≠ 110 ∧ b0 ≠ 116 ∧ b0 ≠ 102 := by
        refine ⟨?_, ?_, ?_⟩ <;> (rintro rfl; revert h2; decide)
      omega
    have hne := str_ne HVR.out hbb
    have n1 := hne.1
    have n2 := hne.2
    have d1 : decide (v = [116, 114, 117, 101]) = false := decide_eq_false (fun e => n1 (by rw [e, Lib.strOfNums_toList]; decide))
    have d2 : decide (v = [102, 97, 108, 115, 101]) = false := decide_eq_false (fun e => n2 (by rw [e, Lib.strOfNums_toList]; decide))
    rw [d1, d2]
    have z1 : ((strOfNums v).toList == [116, 114, 117, 101]) = false := by simpa using n1
    have z2 : ((strOfNums v).toList == [102, 97, 108, 115, 101]) = false := by simpa using n2
    clear d1 d2 hbb hne
    go_wp2_with (go_at_call 19; (with_reducible refine (awake_calls _ (HT.out.below HB5.out)).mono ?_); rintro e wz ⟨rfl, hbz⟩; have HBZ := Aside0.mk (HB5.out.trans (hbz.mono (HB5.out).size)); clear hbz)
    go_returns
    exact ⟨rfl, HBZ.out⟩
  | @str l h =>
    have hbb : b0 = 34 ∨ b0 = 45 ∨ b0 = 48 ∨ b0 = 49 ∨ b0 = 50 ∨ b0 = 51 ∨ b0 = 52 ∨ b0 = 53 ∨ b0 = 54 ∨ b0 = 55 ∨ b0 = 56 ∨ b0 = 57 := by
      have h1 := HB0.out
      have h2 := HX4.out
      have h3 : b0 ≠ 110 ∧ b0 ≠ 116 ∧ b0 ≠ 102 := by
        refine ⟨?_, ?_, ?_⟩ <;> (rintro rfl; revert h2; decide)
      omega
    have hne := str_ne HVR.out hbb
    have n1 := hne.1
    have n2 := hne.2
    have d1 : decide (34 :: (l ++ [34]) = [116, 114, 117, 101]) = false := decide_eq_false (fun e => n1 (by rw [e, Lib.strOfNums_toList]; decide))
    have d2 : decide (34 :: (l ++ [34]) = [102, 97, 108, 115, 101]) = false := decide_eq_false (fun e => n2 (by rw [e, Lib.strOfNums_toList]; decide))
    rw [d1, d2]
    have z1 : ((strOfNums (34 :: (l ++ [34]))).toList == [116, 114, 117, 101]) = false := by simpa using n1
    have z2 : ((strOfNums (34 :: (l ++ [34]))).toList == [102, 97, 108, 115, 101]) = false := by simpa using n2
    clear d1 d2 hbb hne
    go_wp2_with (go_at_call 19; (with_reducible refine (awake_calls _ (HT.out.below HB5.out)).mono ?_); rintro e wz ⟨rfl, hbz⟩; have HBZ := Aside0.mk (HB5.out.trans (hbz.mono (HB5.out).size)); clear hbz)
    go_returns
    exact ⟨rfl, HBZ.out⟩
end Go.Proofs.YtekmminmgjoabaaDoor.Js
