/- The law on a text that is cut. Printed by lawls.py. -/
import Derived.Test.YtekmminmgjoabaaDoorYSy
import Derived.Test.YtekmminmgjoabaaDoorYSa
namespace Go.Proofs.YtekmminmgjoabaaDoor.Js
open Go.RowKit Go.Proofs.YtekmminmgjoabaaDoorW.PrintWords Go.Proofs.YtekmminmgjoabaaDoorW.PrintLast Go.Proofs.YtekmminmgjoabaaDoorW.PrintMore Go.Proofs.YtekmminmgjoabaaDoor.PFnJSTokens
set_option linter.unusedVariables false
set_option linter.unusedSimpArgs false
theorem str_takeL (zs : List Int) (e : Nat) : (strOfNums zs).extract 0 e = strOfNums (zs.take e) := by
  rw [ByteArray.ext_iff, ByteArray.data_extract]
  simp [strOfNums, List.map_take]
theorem txt_madeL {code : List Int} (h : Bytes code) : sfx [] ((jsN code).toks 0 0) 0 = (jsN code).txt := by
  rw [sfx_none, txt_toks (made_ok h).1]
/-- An array of one item. -/
def wrapN (n : JN) : JN := .mk 5 [] [n] []
theorem wrap_ok {n : JN} (h : JOk n) : JOk (wrapN n) := .arr (fun x hx => by simp at hx; rw [hx]; exact h)
theorem wrap_txt (n : JN) : (wrapN n).txt = 91 :: (n.txt ++ [93]) := by
  rw [wrapN, JN.txt, if_neg (by omega), if_neg (by omega), JN.itxt, JN.itxt]
  simp
theorem wrap_room {n : JN} (hk : n.kind < 5) (h1 : vlen (n.toks 0 0) ≤ 2900000) (h2 : (n.toks 0 0).length ≤ 2900000) : Room ((wrapN n).toks 0 0) := by
  obtain ⟨k, t, items, keys⟩ := n
  have hk' : k < 5 := hk
  rw [JN.toks, if_pos hk'] at h1 h2
  unfold Room
  rw [wrapN, JN.toks, if_neg (by omega), if_neg (by omega), JN.itoks, JN.itoks, JN.toks, if_pos hk']
  simp [vlen, tkDelim] at h1 ⊢
  omega
/-- What the law asks of a value's text. -/
structure LsOk (n : JN) (y : List Int) : Prop where
  ok : JOk n
  txt : n.txt = y
  kind : n.kind ≠ 3
  bytes : Bytes y
  pos : 0 < y.length
  long : y.length ≤ 9000002
theorem beg_take {y : List Int} {k : Nat} (h : k < y.length) : Beg (y.take k) y := ⟨y.drop k, (List.take_append_drop k y).symm, by
  intro e
  have := congrArg List.length e
  rw [List.length_drop] at this
  simp at this
  omega⟩
set_option maxHeartbeats 4000000 in
set_option maxRecDepth 100000 in
theorem law_less (w : World) (v1 : Value) (code : List Int) (h1 : Sl w w.heap.size v1 code) (hb1 : Bytes code) (ht : Tab w) (a : Int) (ha : 0 ≤ a ∧ a ≤ 65535) :
    Calls Tryd.prog 12 #[v1, .int .u16 a] w fun e w' => e = .returned (.bool true) ∧ Below w.heap.size w w' := by
  obtain ⟨A1, c1, rfl, -⟩ := h1.form
  obtain ⟨m1, hm1⟩ : ∃ m1, m1 = code.length := ⟨_, rfl⟩
  rw [← hm1] at h1 ⊢
  have hx1 : m1 ≤ 9223372036854775807 := by rw [hm1]; have := h1.cut.2.2.1.2.1; omega
  by_cases hs1 : 2147483647 < m1
  · clear h1 hb1 hm1 ht
    go_enter Tryd.func12, Tryd.ntmps12
    go_wp2_with fail
    go_returns
    exact ⟨rfl, Below.refl _ _⟩
  have hn1 : ¬ (2147483647 : Int) < (m1 : Int) := by omega
  have HN := Aside0.mk (jsNode_calls w w.heap.size _ code (Nat.le_refl _) h1 hb1)
  have HT := Aside0.mk ht
  have HOK := Aside0.mk (made_ok hb1)
  obtain ⟨y1, hy1⟩ : ∃ y, y = (jsN code).txt := ⟨_, rfl⟩
  have HY1 := Aside0.mk (show sfx [] ((jsN code).toks 0 0) 0 = y1 by rw [hy1]; exact txt_madeL hb1)
  have HL1 := Aside0.mk (show Bytes y1 ∧ y1.length ≤ 9000000 by rw [← HY1.out]; exact ⟨sfx_bytes HOK.out.1 [], sfx_le hb1 []⟩)
  have HYP := Aside0.mk (show 0 < y1.length by obtain ⟨b, l, e, -⟩ := txt_begins HOK.out.1; rw [hy1, e]; simp)
  have HYE := Aside0.mk hy1.symm
  clear h1 hb1 ht hm1 hs1 hy1
  go_enter Tryd.func12, Tryd.ntmps12
  go_upto_region 4 with (first
    | (go_at_call 17; (with_reducible refine HN.out.mono ?_); rintro e w2 ⟨v, rfl, hnd, hb2⟩; obtain ⟨v2, v3, rfl, hm2⟩ := hnd; have HONE := Aside0.mk (kJ.K_one (kJ.K_of_M hm2)); have HM2 := Aside0.mk hm2; have HB2 := Aside0.mk hb2; have HR2 := Aside0.mk (blk_new w2 (.cells #[.int .i64 0, .string ⟨#[]⟩, .slice none 0 0, .slice none 0 0] 29)); clear hb2 hm2)
    | ((with_reducible refine gate_st (p := .tmp 5) rfl ?_); refine store_agg _ _ _ rfl rfl rfl [.int .i64 (jsN code).kind, .string (strOfNums (jsN code).text), v2, v3] HR2.out rfl (by simp) rfl (by kernel_rfl) HONE.out ?_; intro W4 hb4 hk4 hg4; have r0 : W4.cell? ⟨w2.heap.size, 0, none⟩ = some (.int .i64 (jsN code).kind) := (blk_cell hb4 0).trans rfl; have r1 : W4.cell? ⟨w2.heap.size, 1, none⟩ = some (.string (strOfNums (jsN code).text)) := (blk_cell hb4 1).trans rfl; have r2 : W4.cell? ⟨w2.heap.size, 2, none⟩ = some v2 := (blk_cell hb4 2).trans rfl; have r3 : W4.cell? ⟨w2.heap.size, 3, none⟩ = some v3 := (blk_cell hb4 3).trans rfl; have HR4 := Aside0.mk hb4; have HB24 := Aside0.mk ((below_alloc (Below.refl w2.heap.size w2) (.cells #[.int .i64 0, .string ⟨#[]⟩, .slice none 0 0, .slice none 0 0] 29)).trans hg4); have HB4 := Aside0.mk (HB2.out.trans (HB24.out.mono HB2.out.size)); clear hb4 hk4 hg4))
  by_cases hk4 : (jsN code).kind < 4
  · have dk4 : decide ((jsN code).kind < 4) = true := by simpa using hk4
    -- the value is put into an array
    have hba : Below W4.heap.size W4 (W4.alloc (.cells #[.int .i64 (jsN code).kind, .string (strOfNums (jsN code).text), v2, v3] 29)) := below_alloc (Below.refl _ _) _
    have HRa := Aside0.mk (blk_below HR4.out hba)
    have HG := Aside0.mk (show w2.heap.size < W4.heap.size from blk_lt HR4.out)
    have HBa := Aside0.mk (HB24.out.trans (hba.mono HB24.out.size))
    have HMa := Aside0.mk (show kJ.R 29 (W4.alloc (.cells #[.int .i64 (jsN code).kind, .string (strOfNums (jsN code).text), v2, v3] 29)) w.heap.size (fun k => k ≠ w2.heap.size) (.slice (some ⟨W4.heap.size, 0, none⟩) 1 1) [jsN code] by
      refine ⟨fun k hk => ?_, ?_⟩
      · have : W4.heap.size = k := by simpa [Value.ownBlock] using hk
        have := HG.out
        omega
      · have hm := HM2.out
        refine OwnRow.lit W4 w.heap.size (ps := [jsN code]) (inner := [.int .i64 (jsN code).kind, .string (strOfNums (jsN code).text), v2, v3]) ?_ HB4.out.size (by simp)
        have h := kJ.M_mono (ok' := fun k => k ≠ w2.heap.size ∧ some k ≠ (Value.slice (some ⟨W4.heap.size, 0, none⟩) 1 1).ownBlock) (fun k hk => ?_) (Kd.M_below (kJ.M_bound hm) (HB24.out.trans (hba.mono HB24.out.size)))
        · exact (Reps.none (kJ.M (W4.alloc (.cells #[.int .i64 (jsN code).kind, .string (strOfNums (jsN code).text), v2, v3] 29)) w.heap.size (fun k => k ≠ w2.heap.size ∧ some k ≠ (Value.slice (some ⟨W4.heap.size, 0, none⟩) 1 1).ownBlock)) 4).snoc h rfl
        · have h1 := hk.2.2.1
          have h2 := HG.out
          refine ⟨by omega, fun e => ?_⟩
          simp [Value.ownBlock] at e
          omega)
    have HONE2 := Aside0.mk (show ∀ q ∈ [Value.int .i64 5, .string ⟨#[]⟩, .slice (some ⟨W4.heap.size, 0, none⟩) 1 1, .slice none 0 0], q.oneCell' = true by
      intro q hq
      simp only [List.mem_cons, List.not_mem_nil, or_false] at hq
      rcases hq with rfl | rfl | rfl | rfl <;> rfl)
    obtain ⟨y2, hy2⟩ : ∃ y, y = 91 :: (y1 ++ [93]) := ⟨_, rfl⟩
    have hyt : (wrapN (jsN code)).txt = y2 := by rw [wrap_txt, HYE.out, hy2]
    have HYT := Aside0.mk (show sfx [] ((wrapN (jsN code)).toks 0 0) 0 = y2 by rw [sfx_none, txt_toks (wrap_ok HOK.out.1), hyt])
    have HLS := Aside0.mk (show LsOk (wrapN (jsN code)) y2 from ⟨wrap_ok HOK.out.1, hyt, by show (5 : Int) ≠ 3; decide, by
      rw [hy2]
      exact bytes_append (a := [91]) (by intro x hx; simp at hx; omega) (bytes_append HL1.out.1 (by intro x hx; simp at hx; omega)), by rw [hy2]; simp, by have := HL1.out.2; rw [hy2]; simp; omega⟩)
    have HRM := Aside0.mk (show Room ((wrapN (jsN code)).toks 0 0) from wrap_room (by omega) HOK.out.2.1 HOK.out.2.2)
    clear hba hy2 hyt
    go_upto_region 5 with (fail)
    clear dk4 hk4
    go_upto_region 6 with ((with_reducible refine gate_st (p := .tmp 5) rfl ?_); refine store_agg _ _ _ rfl rfl rfl [.int .i64 5, .string ⟨#[]⟩, .slice (some ⟨W4.heap.size, 0, none⟩) 1 1, .slice none 0 0] HRa.out rfl (by simp) rfl (by kernel_rfl) HONE2.out ?_; intro W5 hb5 hk5 hg5; clear r0 r1 r2 r3; have r0 : W5.cell? ⟨w2.heap.size, 0, none⟩ = some (.int .i64 5) := (blk_cell hb5 0).trans rfl; have r1 : W5.cell? ⟨w2.heap.size, 1, none⟩ = some (.string ⟨#[]⟩) := (blk_cell hb5 1).trans rfl; have r2 : W5.cell? ⟨w2.heap.size, 2, none⟩ = some (.slice (some ⟨W4.heap.size, 0, none⟩) 1 1) := (blk_cell hb5 2).trans rfl; have r3 : W5.cell? ⟨w2.heap.size, 3, none⟩ = some (.slice none 0 0) := (blk_cell hb5 3).trans rfl; have HBW := Aside0.mk (show Below w.heap.size w W5 from HB2.out.trans ((HBa.out.trans hg5).mono HB2.out.size)); have HMw := Aside0.mk (show kJ.M W5 w.heap.size (fun _ => True) (wrapN (jsN code)) [.int .i64 5, .string ⟨#[]⟩, .slice (some ⟨W4.heap.size, 0, none⟩) 1 1, .slice none 0 0] from kJ.M_mono (fun _ _ => trivial) (kJ_make (k := 5) (t := []) (keys := []) (Kd.R_keep HMa.out hk5 (fun k h => h)) (Kd.R_nil _ _ _ _ _))); clear hb5 hk5 hg5)
    have HWW := Aside0.mk (jsWritten_calls W5 (wrapN (jsN code)) (.agg #[.int .i64 5, .string ⟨#[]⟩, .slice (some ⟨W4.heap.size, 0, none⟩) 1 1, .slice none 0 0]) (.slice none 0 0) [] HLS.out.ok HRM.out ((show Nd W5 w.heap.size _ (wrapN (jsN code)) from ⟨_, _, rfl, HMw.out⟩).lower (Nat.zero_le _)) (Sl.nil _ _) (fun x hx => by cases hx))
    have HLSW := Aside0.mk HLS.out
    have HYL := Aside0.mk (And.intro HLSW.out.pos HLSW.out.long)
    obtain ⟨L, hL⟩ : ∃ L, L = y2.length := ⟨_, rfl⟩
    obtain ⟨k, hk⟩ : ∃ k, k = a.toNat % L := ⟨_, rfl⟩
    have hL0 : 0 < L := by rw [hL]; exact HYL.out.1
    have hL1 : L ≤ 9000002 := by rw [hL]; exact HYL.out.2
    have hkL : k < L := by rw [hk]; exact Nat.mod_lt _ hL0
    have hrem : a.tmod (L : Int) = (k : Int) := by rw [hk, Int.tmod_eq_emod_of_nonneg ha.1]; simp [Int.toNat_of_nonneg ha.1]
    have hLn : ¬ (L : Int) = 0 := by omega
    have hLz : ((L : Int) == 0) = false := by rw [beq_eq_false_iff_ne]; exact hLn
    have hw64 : IntKind.i64.wrap a = a := IntWalk.i64_in _ (by omega)
    have hsz : (strOfNums y2).size = L := by rw [strOf_size, hL]
    obtain ⟨zc, hzc⟩ : ∃ zc, zc = y2.take k := ⟨_, rfl⟩
    have q6 : ∀ W : World, (Instr.slice 9 (.string (strOfNums y2)) none (some (.int .i64 (k : Int))) none).run Tryd.prog W = .ok (.string (strOfNums zc)) W := fun W => by
      have h1 := run_slice_string_h (P := Tryd.prog) W 9 (strOfNums y2) Tryd.underlying9 .i64 (k : Int) (by omega) (by rw [hsz]; omega)
      rw [h1, Int.toNat_natCast, str_takeL, hzc]
    have HBG := Aside0.mk (show Beg zc (wrapN (jsN code)).txt by rw [HLSW.out.txt, hzc]; exact beg_take (by rw [← hL]; exact hkL))
    have HBT := Aside0.mk (show Bytes zc ∧ zc.length ≤ 9000002 by rw [hzc]; exact ⟨HLSW.out.bytes.sub (fun c hc => List.mem_of_mem_take hc), by rw [List.length_take]; omega⟩)
    go_upto_region 7 with (go_at_call 16; (with_reducible refine HWW.out.mono ?_); rintro e w5 ⟨tv, rfl, -, hb5⟩; rw [HYT.out]; have HB5 := Aside0.mk (HBW.out.trans (hb5.mono HBW.out.size)); clear hb5)
    clear r0 r1 r2 r3
    obtain ⟨cz, w6, hcv, hsl6, hb6⟩ := text_bytes w5 zc HBT.out.1 (by have := HBT.out.2; omega)
    have HB6 := Aside0.mk (HB5.out.trans (hb6.mono HB5.out.size))
    have HD := Aside0.mk (cut30 HLSW.out.ok HLSW.out.kind w6 _ _ HBG.out hsl6 HBT.out.1 (by have := HBT.out.2; omega) (HT.out.below HB6.out))
    clear hsl6 hb6 hL hk hzc
    go_upto_region 8 with (go_at_call 30; (with_reducible refine HD.out.mono ?_); rintro e w7 ⟨rfl, hb7⟩; have HB7 := Aside0.mk (HB6.out.trans (hb7.mono HB6.out.size)); clear hb7)
    clear hcv q6
    obtain ⟨cz2, w8, hcv, hsl8, hb8⟩ := text_bytes w7 y2 HLSW.out.bytes (by have := HLSW.out.long; omega)
    have HB8 := Aside0.mk (HB7.out.trans (hb8.mono HB7.out.size))
    have HQ0 := Aside0.mk (fun (W : World) (v : Value) (hW : Below w.heap.size w W) (hs : Sl W W.heap.size v y2) => (show Calls Tryd.prog 30 #[v] W fun e w' => ∃ u1 u2, e = .returned (.tuple #[u1, u2, .int .i64 (wrapN (jsN code)).kind, .bool true]) ∧ Sl w' w'.heap.size u1 y2 ∧ Sl w' w'.heap.size u2 [] ∧ Below W.heap.size W w' by
      have hb := HLSW.out.bytes
      have hl := HLSW.out.long
      have e : y2 = [] ++ ((wrapN (jsN code)).txt ++ []) := by rw [HLSW.out.txt]; simp
      have e2 := HLSW.out.txt
      rw [e] at hs hb hl
      rw [← e2]
      exact jsParsed_calls HLSW.out.ok W v [] [] (fun c hc => by cases hc) hs hb (by omega) (fun _ c t h => by cases h) (HT.out.below hW)))
    have HQ := Aside0.mk (HQ0.out w8 _ HB8.out hsl8)
    clear hsl8 hb8
    go_wp2_with (first
      | (go_at_call 30; (with_reducible refine HQ.out.mono ?_); rintro e w9 ⟨u1, u2, rfl, -, -, hb9⟩; have HB9 := Aside0.mk (HB8.out.trans (hb9.mono HB8.out.size)); clear hb9)
      | (go_at_call 19; (with_reducible refine (awake_calls _ (HT.out.below HB9.out)).mono ?_); rintro e wz ⟨rfl, hbz⟩; have HBZ := Aside0.mk (HB9.out.trans (hbz.mono (HB9.out).size)); clear hbz))
    go_returns
    exact ⟨rfl, HBZ.out⟩
  · have dk4 : decide ((jsN code).kind < 4) = false := by simpa using hk4
    have HLS := Aside0.mk (show LsOk (jsN code) y1 from ⟨HOK.out.1, HYE.out, by omega, HL1.out.1, HYP.out, by have := HL1.out.2; omega⟩)
    have HYT := HY1
    have HWW := Aside0.mk (jsWritten_calls W4 (jsN code) (.agg #[.int .i64 (jsN code).kind, .string (strOfNums (jsN code).text), v2, v3]) (.slice none 0 0) [] HOK.out.1 (by have := HOK.out; unfold Room; omega) ((show Nd w2 w.heap.size _ (jsN code) from ⟨_, _, rfl, HM2.out⟩).below HB24.out |>.lower (Nat.zero_le _)) (Sl.nil _ _) (fun x hx => by cases hx))
    have HLSW := Aside0.mk HLS.out
    have HYL := Aside0.mk (And.intro HLSW.out.pos HLSW.out.long)
    obtain ⟨L, hL⟩ : ∃ L, L = y1.length := ⟨_, rfl⟩
    obtain ⟨k, hk⟩ : ∃ k, k = a.toNat % L := ⟨_, rfl⟩
    have hL0 : 0 < L := by rw [hL]; exact HYL.out.1
    have hL1 : L ≤ 9000002 := by rw [hL]; exact HYL.out.2
    have hkL : k < L := by rw [hk]; exact Nat.mod_lt _ hL0
    have hrem : a.tmod (L : Int) = (k : Int) := by rw [hk, Int.tmod_eq_emod_of_nonneg ha.1]; simp [Int.toNat_of_nonneg ha.1]
    have hLn : ¬ (L : Int) = 0 := by omega
    have hLz : ((L : Int) == 0) = false := by rw [beq_eq_false_iff_ne]; exact hLn
    have hw64 : IntKind.i64.wrap a = a := IntWalk.i64_in _ (by omega)
    have hsz : (strOfNums y1).size = L := by rw [strOf_size, hL]
    obtain ⟨zc, hzc⟩ : ∃ zc, zc = y1.take k := ⟨_, rfl⟩
    have q6 : ∀ W : World, (Instr.slice 9 (.string (strOfNums y1)) none (some (.int .i64 (k : Int))) none).run Tryd.prog W = .ok (.string (strOfNums zc)) W := fun W => by
      have h1 := run_slice_string_h (P := Tryd.prog) W 9 (strOfNums y1) Tryd.underlying9 .i64 (k : Int) (by omega) (by rw [hsz]; omega)
      rw [h1, Int.toNat_natCast, str_takeL, hzc]
    have HBG := Aside0.mk (show Beg zc (jsN code).txt by rw [HLSW.out.txt, hzc]; exact beg_take (by rw [← hL]; exact hkL))
    have HBT := Aside0.mk (show Bytes zc ∧ zc.length ≤ 9000002 by rw [hzc]; exact ⟨HLSW.out.bytes.sub (fun c hc => List.mem_of_mem_take hc), by rw [List.length_take]; omega⟩)
    go_upto_region 7 with (go_at_call 16; (with_reducible refine HWW.out.mono ?_); rintro e w5 ⟨tv, rfl, -, hb5⟩; rw [HYT.out]; have HB5 := Aside0.mk (HB4.out.trans (hb5.mono HB4.out.size)); clear hb5)
    clear r0 r1 r2 r3
    obtain ⟨cz, w6, hcv, hsl6, hb6⟩ := text_bytes w5 zc HBT.out.1 (by have := HBT.out.2; omega)
    have HB6 := Aside0.mk (HB5.out.trans (hb6.mono HB5.out.size))
    have HD := Aside0.mk (cut30 HLSW.out.ok HLSW.out.kind w6 _ _ HBG.out hsl6 HBT.out.1 (by have := HBT.out.2; omega) (HT.out.below HB6.out))
    clear hsl6 hb6 hL hk hzc
    go_upto_region 8 with (go_at_call 30; (with_reducible refine HD.out.mono ?_); rintro e w7 ⟨rfl, hb7⟩; have HB7 := Aside0.mk (HB6.out.trans (hb7.mono HB6.out.size)); clear hb7)
    clear hcv q6
    obtain ⟨cz2, w8, hcv, hsl8, hb8⟩ := text_bytes w7 y1 HLSW.out.bytes (by have := HLSW.out.long; omega)
    have HB8 := Aside0.mk (HB7.out.trans (hb8.mono HB7.out.size))
    have HQ0 := Aside0.mk (fun (W : World) (v : Value) (hW : Below w.heap.size w W) (hs : Sl W W.heap.size v y1) => (show Calls Tryd.prog 30 #[v] W fun e w' => ∃ u1 u2, e = .returned (.tuple #[u1, u2, .int .i64 (jsN code).kind, .bool true]) ∧ Sl w' w'.heap.size u1 y1 ∧ Sl w' w'.heap.size u2 [] ∧ Below W.heap.size W w' by
      have hb := HLSW.out.bytes
      have hl := HLSW.out.long
      have e : y1 = [] ++ ((jsN code).txt ++ []) := by rw [HLSW.out.txt]; simp
      have e2 := HLSW.out.txt
      rw [e] at hs hb hl
      rw [← e2]
      exact jsParsed_calls HLSW.out.ok W v [] [] (fun c hc => by cases hc) hs hb (by omega) (fun _ c t h => by cases h) (HT.out.below hW)))
    have HQ := Aside0.mk (HQ0.out w8 _ HB8.out hsl8)
    clear hsl8 hb8
    go_wp2_with (first
      | (go_at_call 30; (with_reducible refine HQ.out.mono ?_); rintro e w9 ⟨u1, u2, rfl, -, -, hb9⟩; have HB9 := Aside0.mk (HB8.out.trans (hb9.mono HB8.out.size)); clear hb9)
      | (go_at_call 19; (with_reducible refine (awake_calls _ (HT.out.below HB9.out)).mono ?_); rintro e wz ⟨rfl, hbz⟩; have HBZ := Aside0.mk (HB9.out.trans (hbz.mono (HB9.out).size)); clear hbz))
    go_returns
    exact ⟨rfl, HBZ.out⟩
end Go.Proofs.YtekmminmgjoabaaDoor.Js

