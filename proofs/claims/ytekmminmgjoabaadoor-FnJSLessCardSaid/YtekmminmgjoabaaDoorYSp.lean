/- The first value of a text, and what stands behind it. json.Parsed over blanks, a value's text and whatever stands behind. bytes.Repeat of one blank, at most four times. The law on the first value of a text. -/
import Derived.Test.YtekmminmgjoabaaDoorYSv
import Derived.Deep.RegionHeld3
import Derived.Laws.CopyRow
import Derived.Lib.MakeNoZero
namespace Go.Proofs.YtekmminmgjoabaaDoor.Js
open Go.RowKit Go.Proofs.YtekmminmgjoabaaDoorW.PrintWords Go.Proofs.YtekmminmgjoabaaDoorW.PrintLast Go.Proofs.YtekmminmgjoabaaDoorW.PrintMore Go.Proofs.YtekmminmgjoabaaDoor.PFnJSTokens
set_option linter.unusedVariables false
set_option linter.unusedSimpArgs false
theorem append_none {P : Program} (t ty e : TypeId) (i : TypeInfo) (z : Value) (ht : P.underlying t = some (.slice e)) (hi : P.info? e = some i) (hz : i.zero = some z) (A : Option Addr) (c : Nat) (w : World) : (Builtin.append_ #[t, t] ty #[.slice none 0 0, .slice A 0 c]).run P w = .ok (.slice none 0 0) w := by
  cases A with
  | none => simp [Builtin.append_, run_underlying ht, sizeOf, typeInfo, zeroValue, hi, hz, Builtin.lenOf, run_firstCells_none]
  | some a =>
    have hf := run_firstCells_some (P := P) w i.size 0 a 0 c [] (by simp) (by simp)
    simp [Builtin.append_, run_underlying ht, sizeOf, typeInfo, zeroValue, hi, hz, Builtin.lenOf, hf]
theorem wpList_append_run {P : Program} {ops : Array Oper} {rest : List Oper} {o : Oper} {a : Act} {w : World} {Q : Exit → Act → World → Prop} (hgd : o.guard = none) (s x : Operand) (t : TypeId) (ho : o.op = .call { callee := .builtin .append, args := #[s, x], argTypes := #[t, t] }) (v y r : Value) (w1 : World) (hs : a.eval s = v) (hx : a.eval x = y) (hr : (Builtin.append_ #[t, t] o.type #[v, y]).run P w = .ok r w1) (h : wpList P ops Q rest (a.put o.dst r) w1) : wpList P ops Q (o :: rest) a w := by
  refine wpList_plain hgd fun K hK => ?_
  unfold Oper.wp execOp
  simp only [ho, resolve, invoke, builtin, Sem.run_bind, Sem.run_pure, Result.andThen_ok, List.map_toArray, List.map_cons, List.map_nil, hs, hx, hr]
  exact hK _ _ h
/-- A slice that lies at or above L, in a block of its own. -/
def Cl (L : Nat) (w : World) (v : Value) (zs : List Int) : Prop := (zs = [] ∧ v = .slice none 0 0) ∨ ∃ g cap cs, L ≤ g ∧ v = .slice (some ⟨g, 0, none⟩) zs.length cap ∧ zs.length ≤ cap ∧ w.heap[g]? = some (.cells ((zs.map fun x => Value.int .u8 x).toArray ++ cs) 5)
theorem Cl.below {L : Nat} {w w' : World} {v : Value} {zs : List Int} (h : Cl L w v zs) (hb : Below w.heap.size w w') : Cl L w' v zs := by
  rcases h with h | ⟨g, cap, cs, h1, h2, h3, h4⟩
  · exact .inl h
  · exact .inr ⟨g, cap, cs, h1, h2, h3, blk_below h4 hb⟩
theorem Cl.keep {L : Nat} {w w' : World} {v : Value} {zs : List Int} {T : Nat} (h : Cl L w v zs) (hk : KeepBut w w' T none) (hT : T < L) : Cl L w' v zs := by
  rcases h with h | ⟨g, cap, cs, h1, h2, h3, h4⟩
  · exact .inl h
  · exact .inr ⟨g, cap, cs, h1, h2, h3, (hk.2 g (blk_lt h4) (by omega) (by simp)).trans h4⟩
theorem Cl.sl {L : Nat} {w : World} {v : Value} {zs : List Int} (h : Cl L w v zs) (hl : zs.length ≤ 4000000000) : Sl w w.heap.size v zs := by
  rcases h with ⟨rfl, rfl⟩ | ⟨g, cap, cs, h1, rfl, h3, h4⟩
  · exact Sl.nil _ _
  · refine ⟨_, cap, rfl, h3, fun hne ad he => ?_, Kd.C_of_reads (enc := Value.int .u8) (d := (0 : Int)) (h1 := fun _ => rfl) ⟨rfl, by omega, fun hn => ⟨⟨g, 0, none⟩, rfl, fun j hj => ?_⟩⟩⟩
    · injection he with he
      subst he
      exact blk_lt h4
    · have e1 := blk_cell h4 j
      have e2 : ((zs.map fun x => Value.int .u8 x).toArray ++ cs)[j]? = some (.int .u8 (zs.getD j 0)) := by
        rw [Array.getElem?_append_left (by simp; omega)]
        simp [List.getD_eq_getElem?_getD, List.getElem?_eq_getElem hj]
      have e3 : (⟨g, 0, none⟩ : Addr).add j = ⟨g, j, none⟩ := by
        simp only [Addr.add]
        split
        · rename_i h4
          rw [h4]
        · rw [Nat.zero_add]
      rw [e3]
      exact e1.trans e2
set_option maxHeartbeats 4000000 in
set_option maxRecDepth 100000 in
theorem cloned_calls (w : World) (B : Nat) (v : Value) (zs : List Int) (h : Sl w B v zs) (hl : zs.length ≤ 4000000000) : Calls Tryd.prog 57 #[v] w fun e w' => ∃ v', e = .returned v' ∧ Cl w.heap.size w' v' zs ∧ Below w.heap.size w w' := by
  obtain ⟨i0, hi, hzz⟩ := Option.map_eq_some_iff.1 info5
  simp only [Prod.mk.injEq] at hzz
  obtain ⟨hz0, hz1, hz2⟩ := hzz
  obtain ⟨A, m, c, rfl, hm⟩ := h.formv
  rcases Nat.eq_zero_or_pos m with h0 | h0
  · subst h0
    have hq : ∀ W : World, (Builtin.append_ #[22, 22] 22 #[.slice none 0 0, .slice A 0 c]).run Tryd.prog W = .ok (.slice none 0 0) W := fun W => append_none 22 22 5 i0 (.int .u8 0) Tryd.underlying22 hi hz0 A c W
    obtain rfl : zs = [] := List.length_eq_zero_iff.1 hm.symm
    clear h hl hm hi hz0 hz1 hz2
    have HQ := Aside0.mk hq
    clear hq
    go_enter Tryd.func57, Tryd.ntmps57
    go_wp2_with (at_builtin; refine wpList_append_run rfl _ _ 22 rfl _ _ _ _ rfl rfl (HQ.out _) ?_)
    go_returns
    exact ⟨_, rfl, .inl ⟨rfl, rfl⟩, Below.refl _ _⟩
  · obtain ⟨a, rfl, -, -⟩ := h.at_ 0 h0
    have hnews : ∀ (j : Nat) (u : Value), (zs.map fun x => Value.int .u8 x)[j]? = some u → w.cell? (a.add j) = some u := by
      intro j u hu
      obtain ⟨hj, he⟩ := List.getElem?_eq_some_iff.1 hu
      rw [List.length_map] at hj
      obtain ⟨ad, e1, e2, -⟩ := h.at_ j (by omega)
      injection e1 with e1
      subst e1
      rw [e2, ← he, List.getElem_map, List.getD_eq_getElem?_getD, List.getElem?_eq_getElem hj]
      rfl
    have hq := run_append_nil (P := Tryd.prog) w 22 22 5 i0 (.int .u8 0) Tryd.underlying22 hi hz0 a m c (zs.map fun x => Value.int .u8 x) (by rw [List.length_map, hz1, hm, Nat.mul_one]) hnews h0 (by omega) (by rw [hz2]; omega)
    have hge := grownCap_ge w m 0 5
    obtain ⟨cap, hcap⟩ : ∃ cap, cap = grownCap w m 0 5 := ⟨_, rfl⟩
    rw [← hcap] at hq hge
    obtain ⟨W1, hW1⟩ : ∃ W1, W1 = w.drew.alloc (.cells ((zs.map fun x => Value.int .u8 x).toArray ++ Builtin.zeroCells (Value.int .u8 0).cells (cap - m)) 5) := ⟨_, rfl⟩
    rw [← hW1] at hq
    have hb1 : Below w.heap.size w W1 := by rw [hW1]; exact below_alloc (below_drew (Below.refl _ _)) _
    have hblk := heap_alloc_new w.drew (.cells ((zs.map fun x => Value.int .u8 x).toArray ++ Builtin.zeroCells (Value.int .u8 0).cells (cap - m)) 5)
    rw [← hW1] at hblk
    have hsl : Cl w.heap.size W1 (.slice (some ⟨w.heap.size, 0, none⟩) m cap) zs := .inr ⟨w.heap.size, cap, _, Nat.le_refl _, by rw [hm], by omega, hblk⟩
    have HSL := Aside0.mk hsl
    have HB1 := Aside0.mk hb1
    clear h hl hm hi hz0 hz1 hz2 hnews hW1 hblk hsl hb1 hcap hge
    have HQ := Aside0.mk hq
    clear hq
    go_enter Tryd.func57, Tryd.ntmps57
    go_wp2_with (at_builtin; refine wpList_append_run rfl _ _ 22 rfl _ _ _ _ rfl rfl HQ.out ?_)
    go_returns
    exact ⟨_, rfl, HSL.out, HB1.out⟩
end Go.Proofs.YtekmminmgjoabaaDoor.Js

namespace Go.Proofs.YtekmminmgjoabaaDoor.Js
open Go.RowKit Go.Proofs.YtekmminmgjoabaaDoorW.PrintWords Go.Proofs.YtekmminmgjoabaaDoorW.PrintLast Go.Proofs.YtekmminmgjoabaaDoorW.PrintMore Go.Proofs.YtekmminmgjoabaaDoor.PFnJSTokens
set_option linter.unusedVariables false
set_option linter.unusedSimpArgs false
theorem skip_sp : ∀ (sp : List Int), (∀ c ∈ sp, isSp c = true) → ∀ zs : List Int, skipF zs = zs → skipF (sp ++ zs) = zs := by
  intro sp
  induction sp with
  | nil => intro _ zs h; exact h
  | cons c sp ih =>
    intro h zs hz
    have h1 := h c List.mem_cons_self
    have h2 := ih (fun x hx => h x (List.mem_cons_of_mem _ hx)) zs hz
    unfold skipF at h2 ⊢
    rw [List.cons_append, List.dropWhile_cons, h1]
    exact h2
set_option maxHeartbeats 4000000 in
set_option maxRecDepth 100000 in
theorem parsed_calls {n : JN} (hok : JOk n) (w : World) (B : Nat) (h3 : 3 < B) (hB : B ≤ w.heap.size) (v : Value) (sp r : List Int) (hsp : ∀ c ∈ sp, isSp c = true) (hs : Sl w B v (sp ++ (n.txt ++ r))) (hby : Bytes (sp ++ (n.txt ++ r))) (hl : (sp ++ (n.txt ++ r)).length < 4000000000) (hnum : n.kind = 3 → NumEnd r) (ht : Tab w) :
    Calls Tryd.prog 60 #[v] w fun e w' => ∃ v1 v2 K, e = .returned (.tuple #[v1, v2, .int .u64 K, .bool true]) ∧ KSet n.kind n.txt K ∧ Sl w' B v1 n.txt ∧ Sl w' B v2 r ∧ Below w.heap.size w w' := by
  obtain ⟨A, m, c, rfl, hm⟩ := hs.formv
  obtain ⟨zs, hzs⟩ : ∃ zs, zs = sp ++ (n.txt ++ r) := ⟨_, rfl⟩
  have hsk : skipF zs = n.txt ++ r := by
    obtain ⟨b0, l0, hbl, hbeg⟩ := txt_begins hok
    rw [hzs]
    refine skip_sp sp hsp _ ?_
    rw [hbl, List.cons_append]
    exact skip_none hbeg.sp
  have hbr : Bytes (n.txt ++ r) := by rw [hzs] at *; exact hby.sub (fun c hc => List.mem_append_right _ hc)
  have hlr : (n.txt ++ r).length < 4000000000 := by rw [List.length_append] at hl; omega
  rw [← hzs] at hs hby hl hm
  have HF := Aside0.mk (flags_calls w B A m c zs hs hby hB (by omega))
  have HS := Aside0.mk (fun (W : World) (hW : Below w.heap.size w W) => (show Calls Tryd.prog 95 #[.slice A m c] W fun e w' => ∃ v, e = .returned v ∧ Sl w' B v (n.txt ++ r) ∧ Below W.heap.size W w' by
    have h := skip_calls W B A m c zs (hs.below (hW.mono hB)) hby (Nat.le_trans hB hW.size)
    rw [hsk] at h
    exact h))
  have HV := Aside0.mk (fun (W : World) (v : Value) (p q : Bool) (hW : Below w.heap.size w W) (hv : Sl W B v (n.txt ++ r)) (hf : FlagsOk zs p q) => val_all hok W B v r p q 0 (by decide) (by decide) hv hbr hlr (fun h hm => hf.2 h (by rw [hzs]; exact List.mem_append_right _ hm)) hnum (ht.base h3 (hW.mono hB)) h3 (Nat.le_trans hB hW.size))
  clear hs hby hl hm hbr hlr hsk hzs hnum h3 hsp ht hok
  go_enter Tryd.func60, Tryd.ntmps60
  go_upto_region 2 with (go_at_call 79; (with_reducible refine HF.out.mono ?_); rintro e W1 ⟨p, q, he, hf, hb1⟩; rw [flK_zero] at he; obtain ⟨fl, hfl⟩ : ∃ fl, fl = flK p q 0 := ⟨_, rfl⟩; rw [← hfl] at he; subst he; have HF1 := Aside0.mk hf; have HFL := Aside0.mk hfl; have HB1 := Aside0.mk hb1; clear hf hb1 hfl)
  obtain ⟨W2, hW2⟩ : ∃ W2, W2 = W1.alloc (.cells #[.int .u32 fl] 116) := ⟨_, rfl⟩
  have HBX := Aside0.mk (show W2.heap[W1.heap.size]? = some (.cells #[.int .u32 fl] 116 (0, 0)) by rw [hW2]; exact blk_new W1 _)
  have HB2 := Aside0.mk (show Below w.heap.size w W2 by rw [hW2]; exact below_alloc HB1.out _)
  rw [← hW2]
  clear hW2
  have k6 := blk116 HBX.out (Below.refl _ _)
  go_region_with (first
    | (go_at_call 95; (with_reducible refine (HS.out _ ?_).mono ?_); (first | exact HB2.out | exact below_drew HB2.out); rintro e W3 ⟨v3, rfl, hs3, hb3⟩; have HS3 := Aside0.mk hs3; have HB23 := Aside0.mk (show Below W2.heap.size W2 W3 from (below_drew (Below.refl _ _)).trans hb3); have k7 := blk116 HBX.out HB23.out; clear hs3 hb3)
    | (go_at_call 94; rw [HFL.out]; (with_reducible refine (HV.out _ _ _ _ (HB2.out.trans (HB23.out.mono HB2.out.size)) HS3.out HF1.out).mono ?_); rintro e W4 ⟨v1, v2, K, rfl, hk, hv1, hv2, hb4⟩; have HK := Aside0.mk hk; have HV1 := Aside0.mk hv1; have HV2 := Aside0.mk hv2; have HB4 := Aside0.mk (show Below w.heap.size w W4 from (HB2.out.trans (HB23.out.mono HB2.out.size)).trans (hb4.mono (HB2.out.trans (HB23.out.mono HB2.out.size)).size)); clear hk hv1 hv2 hb4))
  all_goals
    go_upto_region 3 with (fail)
    go_region
    all_goals
      go_wp2_with fail
      go_returns
      refine ⟨v1, v2, K, rfl, HK.out, ?_, ?_, ?_⟩
      · first | exact HV1.out | exact HV1.out.same rfl
      · first | exact HV2.out | exact HV2.out.same rfl
      · first | exact HB4.out | exact below_drew HB4.out
set_option maxHeartbeats 4000000 in
set_option maxRecDepth 100000 in
theorem jsParsed_calls {n : JN} (hok : JOk n) (w : World) (v : Value) (sp r : List Int) (hsp : ∀ c ∈ sp, isSp c = true) (hs : Sl w w.heap.size v (sp ++ (n.txt ++ r))) (hby : Bytes (sp ++ (n.txt ++ r))) (hl : (sp ++ (n.txt ++ r)).length < 4000000000) (hnum : n.kind = 3 → NumEnd r) (ht : Tab w) :
    Calls Tryd.prog 30 #[v] w fun e w' => ∃ v1 v2, e = .returned (.tuple #[v1, v2, .int .i64 n.kind, .bool true]) ∧ Sl w' w'.heap.size v1 n.txt ∧ Sl w' w'.heap.size v2 r ∧ Below w.heap.size w w' := by
  have h3 := tab_lt ht
  have hal := below_alloc (Below.refl w.heap.size w) (.cells #[.bool false] 4)
  have HOK := Aside0.mk (blk_new w (.cells #[.bool false] 4))
  have HAL := Aside0.mk hal
  have HLN := Aside0.mk (show n.txt.length ≤ 4000000000 ∧ r.length ≤ 4000000000 by simp only [List.length_append] at hl; omega)
  have HN := Aside0.mk (parsed_calls hok (w.alloc (.cells #[.bool false] 4)) w.heap.size h3 (by simp) v sp r hsp (hs.below hal) hby hl hnum (ht.base h3 hal))
  clear hal hs hby hl hnum ht h3 hsp hok
  go_enter_defers Tryd.func30, Tryd.ntmps30
  go_upto_region 3 with (first
    | (go_at_call 60; (with_reducible refine HN.out.mono ?_); rintro e W1 ⟨v1, v2, K, rfl, hk, hv1, hv2, hb1⟩; have HK := Aside0.mk hk; have HV1 := Aside0.mk hv1; have HV2 := Aside0.mk hv2; have HB1 := Aside0.mk (HAL.out.trans (hb1.mono HAL.out.size)); have HOK1 := Aside0.mk (blk_below HOK.out hb1); clear hk hv1 hv2 hb1)
    | ((with_reducible refine gate_st rfl ?_); refine store_any _ _ _ rfl rfl rfl HOK1.out rfl (by simp) rfl rfl rfl (by kernel_rfl) ?_; intro W2 hb1 hk1 hg1; have HS2 := Aside0.mk (show W2.heap[w.heap.size]? = some (.cells #[.bool true] 4 (0, 0)) from hb1); have HB2 := Aside0.mk (HB1.out.trans hg1); have HV12 := Aside0.mk (HV1.out.below hg1); have HV22 := Aside0.mk (HV2.out.below hg1); clear hb1 hk1 hg1))
  have hcc : W2.cell? ⟨w.heap.size, 0, none⟩ = some (.bool true) := (blk_cell HS2.out 0).trans rfl
  have HT2 := Aside0.mk (blk_lt HS2.out)
  have HC1 := Aside0.mk (cloned_calls W2 w.heap.size v1 n.txt HV12.out HLN.out.1)
  have HC2 := Aside0.mk (fun (W : World) (hW : Below w.heap.size W2 W) => cloned_calls W w.heap.size v2 r (HV22.out.below hW) HLN.out.2)
  have HCL := Aside0.mk (fun (W : World) => class_calls K n.kind W HK.out.2.1)
  go_upto_region 5 with (fail)
  clear hcc
  go_wp2_with (first
    | (go_at_call 57; (with_reducible refine HC1.out.mono ?_); rintro e W3 ⟨u1, rfl, hc, hb⟩; have HU1 := Aside0.mk hc; have HB23 := Aside0.mk hb; have HS3 := Aside0.mk (blk_below HS2.out hb); clear hc hb)
    | (go_at_call 57; (with_reducible refine (HC2.out _ (HB23.out.mono (Nat.le_of_lt HT2.out))).mono ?_); rintro e W4 ⟨u2, rfl, hc, hb⟩; have HU2 := Aside0.mk hc; have HU14 := Aside0.mk (HU1.out.below hb); have HB34 := Aside0.mk hb; have HS4 := Aside0.mk (blk_below HS3.out hb); clear hc hb)
    | (go_at_call 61; (with_reducible refine (HCL.out _).mono ?_); rintro e W5 ⟨rfl, rfl⟩)
    | ((with_reducible refine gate_st rfl ?_); refine store_any _ _ _ rfl rfl rfl HS4.out rfl (by simp) rfl rfl rfl (by kernel_rfl) ?_; intro W6 hb1 hk1 hg1; have HS6 := Aside0.mk (show W6.heap[w.heap.size]? = some (.cells #[.bool true] 4 (0, 0)) from hb1); have HK6 := Aside0.mk hk1; have HG6 := Aside0.mk hg1; clear hb1 hk1 hg1))
  refine leaves_cons (f := 53) (args := #[.pointer (some ⟨w.heap.size, 0, none⟩)]) (by simp) (by simp [go_sem]) ?_
  refine (caught_idle _ _).mono ?_
  rintro e u' w'' ⟨rfl, rfl, rfl⟩
  have hcc : w''.cell? ⟨w.heap.size, 0, none⟩ = some (.bool true) := (blk_cell HS6.out 0).trans rfl
  have hb24 : Below w.heap.size W2 W4 := (HB23.out.trans (HB34.out.mono HB23.out.size)).mono (Nat.le_of_lt HT2.out)
  refine ⟨.tuple #[u1, u2, .int .i64 n.kind, .bool true], ?_, ?_⟩
  · simp [results, Tryd.results30, go_sem, hcc]
  · exact ⟨u1, u2, rfl, (HU14.out.keep HK6.out HT2.out).sl HLN.out.1, (HU2.out.keep HK6.out (Nat.lt_of_lt_of_le HT2.out HB23.out.size)).sl HLN.out.2, HB2.out.trans (hb24.trans HG6.out)⟩
end Go.Proofs.YtekmminmgjoabaaDoor.Js

namespace Go.Proofs.YtekmminmgjoabaaDoor.Js
open Go.RowKit Go.Proofs.YtekmminmgjoabaaDoorW.PrintWords Go.Proofs.YtekmminmgjoabaaDoorW.PrintLast Go.Proofs.YtekmminmgjoabaaDoorW.PrintMore Go.Proofs.YtekmminmgjoabaaDoor.PFnJSTokens
set_option linter.unusedVariables false
set_option linter.unusedSimpArgs false
/-- A row of bytes of which the first j are blanks. -/
def Rpt (w W : World) (j n : Nat) : Prop := ∃ cur : Array Value, W.heap[w.heap.size]? = some (.cells cur 5) ∧ n ≤ cur.size ∧ (∀ i, i < j → cur[i]? = some (.int .u8 32)) ∧ Below w.heap.size w W
theorem Rpt.sl {w W : World} {n : Nat} (h : Rpt w W n n) (hn : n ≤ 4) : Sl W W.heap.size (.slice (some ⟨w.heap.size, 0, none⟩) n n) (List.replicate n 32) := by
  obtain ⟨cur, h1, h2, h3, h4⟩ := h
  refine ⟨_, n, by rw [List.length_replicate], by rw [List.length_replicate]; exact Nat.le_refl _, fun hne ad he => ?_, Kd.C_of_reads (enc := Value.int .u8) (d := (0 : Int)) (h1 := fun _ => rfl) ⟨rfl, by rw [List.length_replicate]; omega, fun hn => ⟨⟨w.heap.size, 0, none⟩, rfl, fun j hj => ?_⟩⟩⟩
  · injection he with he
    subst he
    exact blk_lt h1
  · rw [List.length_replicate] at hj
    have e1 := blk_cell h1 j
    have e3 : (⟨w.heap.size, 0, none⟩ : Addr).add j = ⟨w.heap.size, j, none⟩ := by
      simp only [Addr.add]
      split
      · rename_i h4
        rw [h4]
      · rw [Nat.zero_add]
    rw [e3, e1, h3 j hj]
    simp [List.getD_eq_getElem?_getD, List.getElem?_replicate, hj]
end Go.Proofs.YtekmminmgjoabaaDoor.Js

namespace Go.Proofs.YtekmminmgjoabaaDoor.Js
open Go.RowKit Go.Proofs.YtekmminmgjoabaaDoorW.PrintWords Go.Proofs.YtekmminmgjoabaaDoorW.PrintLast Go.Proofs.YtekmminmgjoabaaDoorW.PrintMore Go.Proofs.YtekmminmgjoabaaDoor.PFnJSTokens
set_option linter.unusedVariables false
set_option linter.unusedSimpArgs false
end Go.Proofs.YtekmminmgjoabaaDoor.Js

