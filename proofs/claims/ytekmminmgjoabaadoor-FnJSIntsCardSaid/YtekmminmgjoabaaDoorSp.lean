/- The first value of a text, and what stands behind it. json.Parsed over blanks, a value's text and whatever stands behind. bytes.Repeat of one blank, at most four times. The law on the first value of a text. -/
import Derived.Test.YtekmminmgjoabaaDoorSv
import Derived.Deep.RegionHeld3
import Derived.Laws.CopyRow
import Derived.Lib.MakeNoZero
namespace Go.Proofs.YtekmminmgjoabaaDoor.Js
open Go.RowKit Go.Proofs.YtekmminmgjoabaaDoorW.PrintWords Go.Proofs.YtekmminmgjoabaaDoorW.PrintLast Go.Proofs.YtekmminmgjoabaaDoorW.PrintMore Go.Proofs.YtekmminmgjoabaaDoor.PFnJSTokens
set_option linter.unusedVariables false
set_option linter.unusedSimpArgs false
theorem append_none {P : Program} (t ty e : TypeId) (i : TypeInfo) (z : Value) (ht : P.underlying t = some (.slice e)) (hi : P.info? e = some i) (hz : i.zero = some z) (A : Option Addr) (c : Nat) (w : World) : (Builtin.append_ #[t, t] ty #[.slice none 0 0, .slice A 0 c]).run P w = .ok (.slice none 0 0) w := by
  cases A with
  | none => simp [Builtin.append_, run_underlying ht, sizeOf, typeInfo, zeroValue, hi, hz, Builtin.lenOf, run_firstCells_none]
  | some a =>
    have hf := run_firstCells_some (P := P) w i.size 0 a 0 c [] (by simp) (by simp)
    simp [Builtin.append_, run_underlying ht, sizeOf, typeInfo, zeroValue, hi, hz, Builtin.lenOf, hf]
theorem wpList_append_run {P : Program} {ops : Array Oper} {rest : List Oper} {o : Oper} {a : Act} {w : World} {Q : Exit → Act → World → Prop} (hgd : o.guard = none) (s x : Operand) (t : TypeId) (ho : o.op = .call { callee := .builtin .append, args := #[s, x], argTypes := #[t, t] }) (v y r : Value) (w1 : World) (hs : a.eval s = v) (hx : a.eval x = y) (hr : (Builtin.append_ #[t, t] o.type #[v, y]).run P w = .ok r w1) (h : wpList P ops Q rest (a.put o.dst r) w1) : wpList P ops Q (o :: rest) a w := by
  refine wpList_plain hgd fun K hK => ?_
  unfold Oper.wp execOp
  simp only [ho, resolve, invoke, builtin, Sem.run_bind, Sem.run_pure, Result.andThen_ok, List.map_toArray, List.map_cons, List.map_nil, hs, hx, hr]
  exact hK _ _ h
/-- A slice that lies at or above L, in a block of its own. -/
def Cl (L : Nat) (w : World) (v : Value) (zs : List Int) : Prop := (zs = [] ∧ v = .slice none 0 0) ∨ ∃ g cap cs, L ≤ g ∧ v = .slice (some ⟨g, 0, none⟩) zs.length cap ∧ zs.length ≤ cap ∧ w.heap[g]? = some (.cells ((zs.map fun x => Value.int .u8 x).toArray ++ cs) 5)
theorem Cl.below {L : Nat} {w w' : World} {v : Value} {zs : List Int} (h : Cl L w v zs) (hb : Below w.heap.size w w') : Cl L w' v zs := by
  rcases h with h | ⟨g, cap, cs, h1, h2, h3, h4⟩
  · exact .inl h
  · exact .inr ⟨g, cap, cs, h1, h2, h3, blk_below h4 hb⟩
theorem Cl.keep {L : Nat} {w w' : World} {v : Value} {zs : List Int} {T : Nat} (h : Cl L w v zs) (hk : KeepBut w w' T none) (hT : T < L) : Cl L w' v zs := by
  rcases h with h | ⟨g, cap, cs, h1, h2, h3, h4⟩
  · exact .inl h
  · exact .inr ⟨g, cap, cs, h1, h2, h3, (hk.2 g (blk_lt h4) (by omega) (by simp)).trans h4⟩
theorem Cl.sl {L : Nat} {w : World} {v : Value} {zs : List Int} (h : Cl L w v zs) (hl : zs.length ≤ 4000000000) : Sl w w.heap.size v zs := by
  rcases h with ⟨rfl, rfl⟩ | ⟨g, cap, cs, h1, rfl, h3, h4⟩
  · exact Sl.nil _ _
  · refine ⟨_, cap, rfl, h3, fun hne ad he => ?_, Kd.C_of_reads (enc := Value.int .u8) (d := (0 : Int)) (h1 := fun _ => rfl) ⟨rfl, by omega, fun hn => ⟨⟨g, 0, none⟩, rfl, fun j hj => ?_⟩⟩⟩
    · injection he with he
      subst he
      exact blk_lt h4
    · have e1 := blk_cell h4 j
      have e2 : ((zs.map fun x => Value.int .u8 x).toArray ++ cs)[j]? = some (.int .u8 (zs.getD j 0)) := by
        rw [Array.getElem?_append_left (by simp; omega)]
        simp [List.getD_eq_getElem?_getD, List.getElem?_eq_getElem hj]
      have e3 : (⟨g, 0, none⟩ : Addr).add j = ⟨g, j, none⟩ := by
        simp only [Addr.add]
        split
        · rename_i h4
          rw [h4]
        · rw [Nat.zero_add]
      rw [e3]
      exact e1.trans e2
set_option maxHeartbeats 4000000 in
set_option maxRecDepth 100000 in
theorem cloned_calls (w : World) (B : Nat) (v : Value) (zs : List Int) (h : Sl w B v zs) (hl : zs.length ≤ 4000000000) : Calls Tryd.prog 57 #[v] w fun e w' => ∃ v', e = .returned v' ∧ Cl w.heap.size w' v' zs ∧ Below w.heap.size w w' := by
  obtain ⟨i0, hi, hzz⟩ := Option.map_eq_some_iff.1 info5
  simp only [Prod.mk.injEq] at hzz
  obtain ⟨hz0, hz1, hz2⟩ := hzz
  obtain ⟨A, m, c, rfl, hm⟩ := h.formv
  rcases Nat.eq_zero_or_pos m with h0 | h0
  · subst h0
    have hq : ∀ W : World, (Builtin.append_ #[22, 22] 22 #[.slice none 0 0, .slice A 0 c]).run Tryd.prog W = .ok (.slice none 0 0) W := fun W => append_none 22 22 5 i0 (.int .u8 0) Tryd.underlying22 hi hz0 A c W
    obtain rfl : zs = [] := List.length_eq_zero_iff.1 hm.symm
    clear h hl hm hi hz0 hz1 hz2
    have HQ := Aside0.mk hq
    clear hq
    go_enter Tryd.func57, Tryd.ntmps57
    go_wp2_with (at_builtin; refine wpList_append_run rfl _ _ 22 rfl _ _ _ _ rfl rfl (HQ.out _) ?_)
    go_returns
    exact ⟨_, rfl, .inl ⟨rfl, rfl⟩, Below.refl _ _⟩
  · obtain ⟨a, rfl, -, -⟩ := h.at_ 0 h0
    have hnews : ∀ (j : Nat) (u : Value), (zs.map fun x => Value.int .u8 x)[j]? = some u → w.cell? (a.add j) = some u := by
      intro j u hu
      obtain ⟨hj, he⟩ := List.getElem?_eq_some_iff.1 hu
      rw [List.length_map] at hj
      obtain ⟨ad, e1, e2, -⟩ := h.at_ j (by omega)
      injection e1 with e1
      subst e1
      rw [e2, ← he, List.getElem_map, List.getD_eq_getElem?_getD, List.getElem?_eq_getElem hj]
      rfl
    have hq := run_append_nil (P := Tryd.prog) w 22 22 5 i0 (.int .u8 0) Tryd.underlying22 hi hz0 a m c (zs.map fun x => Value.int .u8 x) (by rw [List.length_map, hz1, hm, Nat.mul_one]) hnews h0 (by omega) (by rw [hz2]; omega)
    have hge := grownCap_ge w m 0 5
    obtain ⟨cap, hcap⟩ : ∃ cap, cap = grownCap w m 0 5 := ⟨_, rfl⟩
    rw [← hcap] at hq hge
    obtain ⟨W1, hW1⟩ : ∃ W1, W1 = w.drew.alloc (.cells ((zs.map fun x => Value.int .u8 x).toArray ++ Builtin.zeroCells (Value.int .u8 0).cells (cap - m)) 5) := ⟨_, rfl⟩
    rw [← hW1] at hq
    have hb1 : Below w.heap.size w W1 := by rw [hW1]; exact below_alloc (below_drew (Below.refl _ _)) _
    have hblk := heap_alloc_new w.drew (.cells ((zs.map fun x => Value.int .u8 x).toArray ++ Builtin.zeroCells (Value.int .u8 0).cells (cap - m)) 5)
    rw [← hW1] at hblk
    have hsl : Cl w.heap.size W1 (.slice (some ⟨w.heap.size, 0, none⟩) m cap) zs := .inr ⟨w.heap.size, cap, _, Nat.le_refl _, by rw [hm], by omega, hblk⟩
    have HSL := Aside0.mk hsl
    have HB1 := Aside0.mk hb1
    clear h hl hm hi hz0 hz1 hz2 hnews hW1 hblk hsl hb1 hcap hge
    have HQ := Aside0.mk hq
    clear hq
    go_enter Tryd.func57, Tryd.ntmps57
    go_wp2_with (at_builtin; refine wpList_append_run rfl _ _ 22 rfl _ _ _ _ rfl rfl HQ.out ?_)
    go_returns
    exact ⟨_, rfl, HSL.out, HB1.out⟩
set_option maxHeartbeats 4000000 in
set_option maxRecDepth 100000 in
theorem trim68_calls (w : World) (B : Nat) (v : Value) (k : Nat) (b0 : Int) (r : List Int) (hb0 : b0 ≠ 32) (h : Sl w B v (List.replicate k 32 ++ b0 :: r)) : Calls Tryd.prog 68 #[v, .int .u8 32] w fun e w' => ∃ v', e = .returned v' ∧ Sl w' B v' (b0 :: r) ∧ Below w.heap.size w w' := by
  have HS := Aside0.mk h
  clear h
  have hne : ¬ b0 = 32 := hb0
  clear hb0
  obtain ⟨A, m, c, rfl, hm⟩ := HS.out.formv
  clear hm
  go_enter Tryd.func68, Tryd.ntmps68
  go_upto_region 1 with (fail)
  go_loopg [0] k (fun gk v0 w' => ∃ j : Nat, Aside0 (Sl w' B v0 (List.replicate gk 32 ++ b0 :: r)) ∧ w = w')
  case atStart => exact ⟨0, HS, rfl⟩
  case round =>
    obtain ⟨j, HSr, rfl⟩ := hrel
    cases gk with
    | zero =>
      have h1 := HSr.out
      rw [List.replicate_zero, List.nil_append] at h1
      obtain ⟨ad, m1, c1, rfl, hm1, k1⟩ := h1.first
      have HS1 := Aside0.mk h1
      have hmp : 0 < m1 := by omega
      have hz : ((m1 : Int) == 0) = false := by rw [beq_eq_false_iff_ne]; omega
      clear h1 hm1
      go_wp2_with fail
      go_returns
      exact ⟨_, rfl, HS1.out, Below.refl _ _⟩
    | succ k1 =>
      have h1 := HSr.out
      rw [List.replicate_succ, List.cons_append] at h1
      obtain ⟨ad, m1, c1, rfl, hm1, k2⟩ := h1.first
      have hmp : 0 < m1 := by omega
      obtain ⟨A', hcut, hd⟩ := h1.next 22 1 .i64 Tryd.underlying22 (by omega)
      have hcut1 : ∀ W : World, (Instr.slice 22 (.slice (some ad) m1 c1) (some (.int .i64 1)) none none).run Tryd.prog W = .ok (.slice A' (m1 - 1) (c1 - 1)) W := hcut
      have HD := Aside0.mk (show Sl w B (.slice A' (m1 - 1) (c1 - 1)) (List.replicate k1 32 ++ b0 :: r) from hd)
      clear h1 hm1 hcut hd
      go_wp2_with fail
      go_roundg k1
      case measure => omega
      case rel => exact ⟨0, HD, rfl⟩
set_option maxHeartbeats 4000000 in
set_option maxRecDepth 100000 in
theorem trim37_calls (w : World) (B : Nat) (v : Value) (k : Nat) (b0 : Int) (r : List Int) (hb0 : b0 ≠ 32) (h : Sl w B v (List.replicate k 32 ++ b0 :: r)) : Calls Tryd.prog 37 #[v, .string ⟨#[32]⟩] w fun e w' => ∃ v', e = .returned v' ∧ Sl w' B v' (b0 :: r) ∧ Below w.heap.size w w' := by
  have HC := Aside0.mk (trim68_calls w B v k b0 r hb0 h)
  obtain ⟨A, m, c, rfl, hm⟩ := h.formv
  have hmp : 0 < m := by rw [hm]; simp; omega
  have hz : ((m : Int) == 0) = false := by rw [beq_eq_false_iff_ne]; omega
  clear h hm
  go_enter Tryd.func37, Tryd.ntmps37
  go_wp2_with (go_at_call 68; refine HC.out.mono ?_; rintro e w2 ⟨v', rfl, hs, hb⟩; have HS := Aside0.mk hs; have HB := Aside0.mk hb; clear hs hb)
  go_returns
  exact ⟨_, rfl, HS.out, HB.out⟩
end Go.Proofs.YtekmminmgjoabaaDoor.Js

namespace Go.Proofs.YtekmminmgjoabaaDoor.Js
open Go.RowKit Go.Proofs.YtekmminmgjoabaaDoorW.PrintWords Go.Proofs.YtekmminmgjoabaaDoorW.PrintLast Go.Proofs.YtekmminmgjoabaaDoorW.PrintMore Go.Proofs.YtekmminmgjoabaaDoor.PFnJSTokens
set_option linter.unusedVariables false
set_option linter.unusedSimpArgs false
theorem skip_sp : ∀ (sp : List Int), (∀ c ∈ sp, isSp c = true) → ∀ zs : List Int, skipF zs = zs → skipF (sp ++ zs) = zs := by
  intro sp
  induction sp with
  | nil => intro _ zs h; exact h
  | cons c sp ih =>
    intro h zs hz
    have h1 := h c List.mem_cons_self
    have h2 := ih (fun x hx => h x (List.mem_cons_of_mem _ hx)) zs hz
    unfold skipF at h2 ⊢
    rw [List.cons_append, List.dropWhile_cons, h1]
    exact h2
set_option maxHeartbeats 4000000 in
set_option maxRecDepth 100000 in
theorem parsed_calls {n : JN} (hok : JOk n) (w : World) (B : Nat) (h3 : 3 < B) (hB : B ≤ w.heap.size) (v : Value) (sp r : List Int) (hsp : ∀ c ∈ sp, isSp c = true) (hs : Sl w B v (sp ++ (n.txt ++ r))) (hby : Bytes (sp ++ (n.txt ++ r))) (hl : (sp ++ (n.txt ++ r)).length < 4000000000) (hnum : n.kind = 3 → NumEnd r) (ht : Tab w) :
    Calls Tryd.prog 60 #[v] w fun e w' => ∃ v1 v2 K, e = .returned (.tuple #[v1, v2, .int .u64 K, .bool true]) ∧ KSet n.kind n.txt K ∧ Sl w' B v1 n.txt ∧ Sl w' B v2 r ∧ Below w.heap.size w w' := by
  obtain ⟨A, m, c, rfl, hm⟩ := hs.formv
  obtain ⟨zs, hzs⟩ : ∃ zs, zs = sp ++ (n.txt ++ r) := ⟨_, rfl⟩
  have hsk : skipF zs = n.txt ++ r := by
    obtain ⟨b0, l0, hbl, hbeg⟩ := txt_begins hok
    rw [hzs]
    refine skip_sp sp hsp _ ?_
    rw [hbl, List.cons_append]
    exact skip_none hbeg.sp
  have hbr : Bytes (n.txt ++ r) := by rw [hzs] at *; exact hby.sub (fun c hc => List.mem_append_right _ hc)
  have hlr : (n.txt ++ r).length < 4000000000 := by rw [List.length_append] at hl; omega
  rw [← hzs] at hs hby hl hm
  have HF := Aside0.mk (flags_calls w B A m c zs hs hby hB (by omega))
  have HS := Aside0.mk (fun (W : World) (hW : Below w.heap.size w W) => (show Calls Tryd.prog 95 #[.slice A m c] W fun e w' => ∃ v, e = .returned v ∧ Sl w' B v (n.txt ++ r) ∧ Below W.heap.size W w' by
    have h := skip_calls W B A m c zs (hs.below (hW.mono hB)) hby (Nat.le_trans hB hW.size)
    rw [hsk] at h
    exact h))
  have HV := Aside0.mk (fun (W : World) (v : Value) (p q : Bool) (hW : Below w.heap.size w W) (hv : Sl W B v (n.txt ++ r)) (hf : FlagsOk zs p q) => val_all hok W B v r p q 0 (by decide) (by decide) hv hbr hlr (fun h hm => hf.2 h (by rw [hzs]; exact List.mem_append_right _ hm)) hnum (ht.base h3 (hW.mono hB)) h3 (Nat.le_trans hB hW.size))
  clear hs hby hl hm hbr hlr hsk hzs hnum h3 hsp ht hok
  go_enter Tryd.func60, Tryd.ntmps60
  go_upto_region 2 with (go_at_call 79; (with_reducible refine HF.out.mono ?_); rintro e W1 ⟨p, q, he, hf, hb1⟩; rw [flK_zero] at he; obtain ⟨fl, hfl⟩ : ∃ fl, fl = flK p q 0 := ⟨_, rfl⟩; rw [← hfl] at he; subst he; have HF1 := Aside0.mk hf; have HFL := Aside0.mk hfl; have HB1 := Aside0.mk hb1; clear hf hb1 hfl)
  obtain ⟨W2, hW2⟩ : ∃ W2, W2 = W1.alloc (.cells #[.int .u32 fl] 116) := ⟨_, rfl⟩
  have HBX := Aside0.mk (show W2.heap[W1.heap.size]? = some (.cells #[.int .u32 fl] 116 (0, 0)) by rw [hW2]; exact blk_new W1 _)
  have HB2 := Aside0.mk (show Below w.heap.size w W2 by rw [hW2]; exact below_alloc HB1.out _)
  rw [← hW2]
  clear hW2
  have k6 := blk116 HBX.out (Below.refl _ _)
  go_region_with (first
    | (go_at_call 95; (with_reducible refine (HS.out _ ?_).mono ?_); (first | exact HB2.out | exact below_drew HB2.out); rintro e W3 ⟨v3, rfl, hs3, hb3⟩; have HS3 := Aside0.mk hs3; have HB23 := Aside0.mk (show Below W2.heap.size W2 W3 from (below_drew (Below.refl _ _)).trans hb3); have k7 := blk116 HBX.out HB23.out; clear hs3 hb3)
    | (go_at_call 94; rw [HFL.out]; (with_reducible refine (HV.out _ _ _ _ (HB2.out.trans (HB23.out.mono HB2.out.size)) HS3.out HF1.out).mono ?_); rintro e W4 ⟨v1, v2, K, rfl, hk, hv1, hv2, hb4⟩; have HK := Aside0.mk hk; have HV1 := Aside0.mk hv1; have HV2 := Aside0.mk hv2; have HB4 := Aside0.mk (show Below w.heap.size w W4 from (HB2.out.trans (HB23.out.mono HB2.out.size)).trans (hb4.mono (HB2.out.trans (HB23.out.mono HB2.out.size)).size)); clear hk hv1 hv2 hb4))
  all_goals
    go_upto_region 3 with (fail)
    go_region
    all_goals
      go_wp2_with fail
      go_returns
      refine ⟨v1, v2, K, rfl, HK.out, ?_, ?_, ?_⟩
      · first | exact HV1.out | exact HV1.out.same rfl
      · first | exact HV2.out | exact HV2.out.same rfl
      · first | exact HB4.out | exact below_drew HB4.out
set_option maxHeartbeats 4000000 in
set_option maxRecDepth 100000 in
theorem jsParsed_calls {n : JN} (hok : JOk n) (w : World) (v : Value) (sp r : List Int) (hsp : ∀ c ∈ sp, isSp c = true) (hs : Sl w w.heap.size v (sp ++ (n.txt ++ r))) (hby : Bytes (sp ++ (n.txt ++ r))) (hl : (sp ++ (n.txt ++ r)).length < 4000000000) (hnum : n.kind = 3 → NumEnd r) (ht : Tab w) :
    Calls Tryd.prog 30 #[v] w fun e w' => ∃ v1 v2, e = .returned (.tuple #[v1, v2, .int .i64 n.kind, .bool true]) ∧ Sl w' w'.heap.size v1 n.txt ∧ Sl w' w'.heap.size v2 r ∧ Below w.heap.size w w' := by
  have h3 := tab_lt ht
  have hal := below_alloc (Below.refl w.heap.size w) (.cells #[.bool false] 4)
  have HOK := Aside0.mk (blk_new w (.cells #[.bool false] 4))
  have HAL := Aside0.mk hal
  have HLN := Aside0.mk (show n.txt.length ≤ 4000000000 ∧ r.length ≤ 4000000000 by simp only [List.length_append] at hl; omega)
  have HN := Aside0.mk (parsed_calls hok (w.alloc (.cells #[.bool false] 4)) w.heap.size h3 (by simp) v sp r hsp (hs.below hal) hby hl hnum (ht.base h3 hal))
  clear hal hs hby hl hnum ht h3 hsp hok
  go_enter_defers Tryd.func30, Tryd.ntmps30
  go_upto_region 3 with (first
    | (go_at_call 60; (with_reducible refine HN.out.mono ?_); rintro e W1 ⟨v1, v2, K, rfl, hk, hv1, hv2, hb1⟩; have HK := Aside0.mk hk; have HV1 := Aside0.mk hv1; have HV2 := Aside0.mk hv2; have HB1 := Aside0.mk (HAL.out.trans (hb1.mono HAL.out.size)); have HOK1 := Aside0.mk (blk_below HOK.out hb1); clear hk hv1 hv2 hb1)
    | ((with_reducible refine gate_st rfl ?_); refine store_any _ _ _ rfl rfl rfl HOK1.out rfl (by simp) rfl rfl rfl (by kernel_rfl) ?_; intro W2 hb1 hk1 hg1; have HS2 := Aside0.mk (show W2.heap[w.heap.size]? = some (.cells #[.bool true] 4 (0, 0)) from hb1); have HB2 := Aside0.mk (HB1.out.trans hg1); have HV12 := Aside0.mk (HV1.out.below hg1); have HV22 := Aside0.mk (HV2.out.below hg1); clear hb1 hk1 hg1))
  have hcc : W2.cell? ⟨w.heap.size, 0, none⟩ = some (.bool true) := (blk_cell HS2.out 0).trans rfl
  have HT2 := Aside0.mk (blk_lt HS2.out)
  have HC1 := Aside0.mk (cloned_calls W2 w.heap.size v1 n.txt HV12.out HLN.out.1)
  have HC2 := Aside0.mk (fun (W : World) (hW : Below w.heap.size W2 W) => cloned_calls W w.heap.size v2 r (HV22.out.below hW) HLN.out.2)
  have HCL := Aside0.mk (fun (W : World) => class_calls K n.kind W HK.out.2.1)
  go_upto_region 5 with (fail)
  clear hcc
  go_wp2_with (first
    | (go_at_call 57; (with_reducible refine HC1.out.mono ?_); rintro e W3 ⟨u1, rfl, hc, hb⟩; have HU1 := Aside0.mk hc; have HB23 := Aside0.mk hb; have HS3 := Aside0.mk (blk_below HS2.out hb); clear hc hb)
    | (go_at_call 57; (with_reducible refine (HC2.out _ (HB23.out.mono (Nat.le_of_lt HT2.out))).mono ?_); rintro e W4 ⟨u2, rfl, hc, hb⟩; have HU2 := Aside0.mk hc; have HU14 := Aside0.mk (HU1.out.below hb); have HB34 := Aside0.mk hb; have HS4 := Aside0.mk (blk_below HS3.out hb); clear hc hb)
    | (go_at_call 61; (with_reducible refine (HCL.out _).mono ?_); rintro e W5 ⟨rfl, rfl⟩)
    | ((with_reducible refine gate_st rfl ?_); refine store_any _ _ _ rfl rfl rfl HS4.out rfl (by simp) rfl rfl rfl (by kernel_rfl) ?_; intro W6 hb1 hk1 hg1; have HS6 := Aside0.mk (show W6.heap[w.heap.size]? = some (.cells #[.bool true] 4 (0, 0)) from hb1); have HK6 := Aside0.mk hk1; have HG6 := Aside0.mk hg1; clear hb1 hk1 hg1))
  refine leaves_cons (f := 53) (args := #[.pointer (some ⟨w.heap.size, 0, none⟩)]) (by simp) (by simp [go_sem]) ?_
  refine (caught_idle _ _).mono ?_
  rintro e u' w'' ⟨rfl, rfl, rfl⟩
  have hcc : w''.cell? ⟨w.heap.size, 0, none⟩ = some (.bool true) := (blk_cell HS6.out 0).trans rfl
  have hb24 : Below w.heap.size W2 W4 := (HB23.out.trans (HB34.out.mono HB23.out.size)).mono (Nat.le_of_lt HT2.out)
  refine ⟨.tuple #[u1, u2, .int .i64 n.kind, .bool true], ?_, ?_⟩
  · simp [results, Tryd.results30, go_sem, hcc]
  · exact ⟨u1, u2, rfl, (HU14.out.keep HK6.out HT2.out).sl HLN.out.1, (HU2.out.keep HK6.out (Nat.lt_of_lt_of_le HT2.out HB23.out.size)).sl HLN.out.2, HB2.out.trans (hb24.trans HG6.out)⟩
end Go.Proofs.YtekmminmgjoabaaDoor.Js

namespace Go.Proofs.YtekmminmgjoabaaDoor.Js
open Go.RowKit Go.Proofs.YtekmminmgjoabaaDoorW.PrintWords Go.Proofs.YtekmminmgjoabaaDoorW.PrintLast Go.Proofs.YtekmminmgjoabaaDoorW.PrintMore Go.Proofs.YtekmminmgjoabaaDoor.PFnJSTokens
set_option linter.unusedVariables false
set_option linter.unusedSimpArgs false
theorem wpList_copy_run0 {P : Program} {ops : Array Oper} {rest : List Oper} {o : Oper} {a : Act} {w : World} {Q : Exit → Act → World → Prop} (hgd : o.guard = none) (s x : Operand) (t : TypeId) (ho : o.op = .call { callee := .builtin .copy, args := #[s, x], argTypes := #[t, t] }) (v y r : Value) (w1 : World) (hs : a.eval s = v) (hx : a.eval x = y) (hr : (Builtin.copy_ #[t, t] o.type #[v, y]).run P w = .ok r w1) (h : wpList P ops Q rest (a.put o.dst r) w1) : wpList P ops Q (o :: rest) a w := by
  refine wpList_plain hgd fun K hK => ?_
  unfold Oper.wp execOp
  simp only [ho, resolve, invoke, builtin, Sem.run_bind, Sem.run_pure, Result.andThen_ok, List.map_toArray, List.map_cons, List.map_nil, hs, hx, hr]
  exact hK _ _ h
set_option maxHeartbeats 4000000 in
set_option maxRecDepth 100000 in
theorem mul_calls (w : World) (n : Nat) (hn : n = 1 ∨ n = 2 ∨ n = 3 ∨ n = 4) : Calls Tryd.prog 100 #[.int .u64 1, .int .u64 (n : Int)] w fun e w' => e = .returned (.tuple #[.int .u64 0, .int .u64 (n : Int)]) ∧ w = w' := by
  rcases hn with rfl | rfl | rfl | rfl
  all_goals
    go_enter Tryd.func100, Tryd.ntmps100
    go_wp2
    go_returns
    exact ⟨by kernel_rfl, rfl⟩
set_option maxHeartbeats 4000000 in
set_option maxRecDepth 100000 in
theorem mul66_calls (w : World) (n : Nat) (hn : n = 1 ∨ n = 2 ∨ n = 3 ∨ n = 4) : Calls Tryd.prog 66 #[.int .u64 1, .int .u64 (n : Int)] w fun e w' => e = .returned (.tuple #[.int .u64 0, .int .u64 (n : Int)]) ∧ w = w' := by
  have HC := Aside0.mk (mul_calls w n hn)
  clear hn
  go_enter Tryd.func66, Tryd.ntmps66
  go_wp2_with (go_at_call 100; (with_reducible refine HC.out.mono ?_); rintro e w2 ⟨rfl, rfl⟩)
  go_returns
  exact ⟨rfl, rfl⟩
theorem make67 (w : World) (n : Nat) (hn : n ≤ 281474976710656) : ∃ cs : Array Value, (callFunc 67 #[.int .i64 (n : Int)]).run Tryd.prog w = .ok (.value (.slice (some ⟨w.heap.size, 0, none⟩) n cs.size)) ((w.alloc (.cells cs 5)).drewN 2) ∧ n ≤ cs.size := by
  obtain ⟨cs, hrunM, hle, -⟩ := Lib.run_makeNoZero (P := Tryd.prog) w #[3] 22 5 Tryd.underlying22 n hn
  refine ⟨cs, ?_, hle⟩
  rw [run_callFunc_extern Tryd.func67 (by kernel_rfl) (by kernel_rfl) (by kernel_rfl) (e := Extern.BytealgMakeNoZero.makeNoZero #[3] #[22]) (by kernel_rfl), hrunM]
  rfl
/-- A row of bytes of which the first j are blanks. -/
def Rpt (w W : World) (j n : Nat) : Prop := ∃ cur : Array Value, W.heap[w.heap.size]? = some (.cells cur 5) ∧ n ≤ cur.size ∧ (∀ i, i < j → cur[i]? = some (.int .u8 32)) ∧ Below w.heap.size w W
theorem Rpt.copy {w W : World} {j n k : Nat} (h : Rpt w W j n) (dL dC : Nat) (src : Addr) (sL sC : Nat) (hk : k = Nat.min sL dL) (hjk : j + k ≤ n) (hsrc : ∀ i, i < k → W.cell? (src.add i) = some (.int .u8 32)) :
    ∃ W1, (Builtin.copy_ #[22, 22] 3 #[.slice (some ⟨w.heap.size, j, none⟩) dL dC, .slice (some src) sL sC]).run Tryd.prog W = .ok (.int .i64 (k : Int)) W1 ∧ Rpt w W1 (j + k) n := by
  obtain ⟨cur, h1, h2, h3, h4⟩ := h
  have hrun := run_copy_row (P := Tryd.prog) W 22 22 3 5 w.heap.size j dL dC src sL sC cur 5 (List.replicate k (.int .u8 32)) Tryd.underlying22 (by obtain ⟨i0, hi, hz⟩ := Option.map_eq_some_iff.1 info5; simp only [Prod.mk.injEq] at hz; rw [hi]; simp [hz.2.1]) h1 (by rw [List.length_replicate]; exact hk) (fun i v hv => by
    obtain ⟨hi, he⟩ := List.getElem?_eq_some_iff.1 hv
    rw [List.length_replicate] at hi
    rw [← he, List.getElem_replicate]
    exact hsrc i hi) (by rw [List.length_replicate]; omega) (fun v hv => by rw [List.eq_of_mem_replicate hv]; rfl)
  rw [List.length_replicate] at hrun
  refine ⟨_, hrun, _, setRow_heap _ _ _ _ _ _ h1, ?_, ?_, h4.trans ⟨rfl, rfl, rfl, by simp [World.setRow], fun k hk => setRow_other W _ k _ (by omega)⟩⟩
  · simp only [List.size_toArray, List.length_append, List.length_take, List.length_drop, List.length_replicate, Array.length_toList]
    omega
  · intro i hi
    rw [List.getElem?_toArray, List.append_assoc]
    by_cases hij : i < j
    · rw [List.getElem?_append_left (by simp; omega), List.getElem?_take_of_lt hij, Array.getElem?_toList]
      exact h3 i hij
    · rw [List.getElem?_append_right (by simp; omega), List.length_take, Array.length_toList, Nat.min_eq_left (by omega), List.getElem?_append_left (by simp; omega), List.getElem?_replicate, if_pos (by omega)]
theorem Rpt.sl {w W : World} {n : Nat} (h : Rpt w W n n) (hn : n ≤ 4) : Sl W W.heap.size (.slice (some ⟨w.heap.size, 0, none⟩) n n) (List.replicate n 32) := by
  obtain ⟨cur, h1, h2, h3, h4⟩ := h
  refine ⟨_, n, by rw [List.length_replicate], by rw [List.length_replicate]; exact Nat.le_refl _, fun hne ad he => ?_, Kd.C_of_reads (enc := Value.int .u8) (d := (0 : Int)) (h1 := fun _ => rfl) ⟨rfl, by rw [List.length_replicate]; omega, fun hn => ⟨⟨w.heap.size, 0, none⟩, rfl, fun j hj => ?_⟩⟩⟩
  · injection he with he
    subst he
    exact blk_lt h1
  · rw [List.length_replicate] at hj
    have e1 := blk_cell h1 j
    have e3 : (⟨w.heap.size, 0, none⟩ : Addr).add j = ⟨w.heap.size, j, none⟩ := by
      simp only [Addr.add]
      split
      · rename_i h4
        rw [h4]
      · rw [Nat.zero_add]
    rw [e3, e1, h3 j hj]
    simp [List.getD_eq_getElem?_getD, List.getElem?_replicate, hj]
set_option maxHeartbeats 4000000 in
set_option maxRecDepth 100000 in
theorem repeat_calls (w : World) (B : Nat) (v : Value) (n : Nat) (hn : n ≤ 4) (h : Sl w B v [32]) (hB : B ≤ w.heap.size) : Calls Tryd.prog 36 #[v, .int .i64 (n : Int)] w fun e w' => ∃ v', e = .returned v' ∧ Sl w' w'.heap.size v' (List.replicate n 32) ∧ Below w.heap.size w w' := by
  obtain ⟨ad, m, c, rfl, hm, hc0⟩ := h.first
  obtain rfl : m = 1 := hm
  rcases Nat.eq_zero_or_pos n with h0 | h0
  · subst h0
    clear h hn hB
    go_enter Tryd.func36, Tryd.ntmps36
    go_wp2_with fail
    go_returns
    exact ⟨_, rfl, ⟨_, 0, rfl, Nat.le_refl _, fun hne => absurd rfl hne, rfl, by simp, fun h => absurd h (Nat.lt_irrefl 0)⟩, below_alloc (Below.refl _ _) _⟩
  · have hn3 : n = 1 ∨ n = 2 ∨ n = 3 ∨ n = 4 := by omega
    have HMU := Aside0.mk (mul66_calls w n hn3)
    obtain ⟨cs, hcall, hcs⟩ := make67 w n (by omega)
    have hz : ((n : Int) == 0) = false := by rw [beq_eq_false_iff_ne]; omega
    have hneg : ¬ (n : Int) < 0 := by omega
    have hbig : ¬ (9223372036854775807 : Int) < (n : Int) := by omega
    have h81 : ¬ (8192 : Int) < (n : Int) := by omega
    have hu1 : IntKind.u64.wrap (n : Int) = (n : Int) := by rw [IntKind.wrap_u64]; omega
    have hi1 : IntKind.i64.wrap (n : Int) = (n : Int) := by rw [IntKind.wrap_i64]; omega
    have HH := Aside0.mk h
    clear h hn
    go_enter Tryd.func36, Tryd.ntmps36
    go_upto_region 17 with (go_at_call 66; (with_reducible refine HMU.out.mono ?_); rintro e w2 ⟨rfl, rfl⟩)
    have hr0 : Rpt w ((w.alloc (.cells cs 5)).drewN 2) 0 n := ⟨cs, blk_new w _, hcs, fun i hi => absurd hi (Nat.not_lt_zero _), pw_below_drewN (below_alloc (Below.refl _ _) _) 2⟩
    obtain ⟨W2, hc2, hr2⟩ := hr0.copy (k := 1) n n ad 1 c (Nat.min_eq_left (by omega)).symm (by omega) (fun i hi => by
      obtain rfl : i = 0 := by omega
      have e0 : ad.add 0 = ad := by simp [Addr.add]
      rw [e0]
      exact (pw_cell_below (pw_below_drewN (below_alloc (Below.refl _ _) _) 2) hc0).trans rfl)
    have HR2 := Aside0.mk hr2
    have HN3 := Aside0.mk hn3
    clear hr2 hr0 hcall hcs hc0 hB
    go_upto_region 18 with (fail)
    clear hc2
    go_loopg [10, 11] (n - 1) (fun gk v10 v11 w' => ∃ j : Nat, v10 = .int .i64 (j : Int) ∧ Aside0 (1 ≤ j ∧ j + gk = n) ∧ Aside0 (Rpt w w' j n))
    case atStart => exact ⟨1, rfl, ⟨by omega, by omega⟩, HR2⟩
    case round =>
      obtain ⟨j, rfl, HJ, HR⟩ := hrel
      cases gk with
      | zero =>
        obtain rfl : j = n := by have := HJ.out; omega
        have dlt : decide ((j : Int) < (j : Int)) = false := by simp
        go_wp2_with fail
        go_returns
        obtain ⟨cur, h1, h2, h3, h4⟩ := HR.out
        exact ⟨_, rfl, HR.out.sl (by have := HN3.out; omega), h4⟩
      | succ k1 =>
        have hjn : j < n := by have := HJ.out; omega
        have dlt : decide ((j : Int) < (n : Int)) = true := by simpa using hjn
        have hmin : min (j : Int) (n : Int) = (j : Int) := by omega
        obtain ⟨k, hk⟩ : ∃ k, k = Nat.min j (n - j) := ⟨_, rfl⟩
        have hk1 : 1 ≤ k ∧ j + k ≤ n := by
          have h1 := HJ.out.1
          have h2 : k = min j (n - j) := hk
          omega
        have HRD : Rpt w wr.drew j n := by
          obtain ⟨cur, h1, h2, h3, h4⟩ := HR.out
          exact ⟨cur, h1, h2, h3, below_drew h4⟩
        obtain ⟨W3, hc3, hr3⟩ := HRD.copy (k := k) (n - j) (n - j) ⟨w.heap.size, 0, none⟩ j n hk hk1.2 (fun i hi => by
          obtain ⟨cur, h1, h2, h3, h4⟩ := HRD
          have e3 : (⟨w.heap.size, 0, none⟩ : Addr).add i = ⟨w.heap.size, i, none⟩ := by
            simp only [Addr.add]
            split
            · rename_i h4
              rw [h4]
            · rw [Nat.zero_add]
          have h2 : k = min j (n - j) := hk
          rw [e3]
          exact (blk_cell h1 i).trans (h3 i (by omega)))
        have hs1 : ∀ W : World, (Instr.slice 22 (.slice (some ⟨w.heap.size, 0, none⟩) n n) (some (.int .i64 (j : Int))) none none).run Tryd.prog W = .ok (.slice (some ⟨w.heap.size, j, none⟩) (n - j) (n - j)) W := by
          intro W
          have h := cut_from 22 j n n .i64 (some ⟨w.heap.size, 0, none⟩) Tryd.underlying22 (by omega) W
          rw [if_neg (by omega)] at h
          refine h.trans ?_
          have e3 : (⟨w.heap.size, 0, none⟩ : Addr).add j = ⟨w.heap.size, j, none⟩ := by
            simp only [Addr.add]
            split
            · rename_i h4
              rw [h4]
            · rw [Nat.zero_add]
          rw [Option.map_some, e3]
        have hs2 : ∀ W : World, (Instr.slice 22 (.slice (some ⟨w.heap.size, 0, none⟩) n n) none (some (.int .i64 (j : Int))) none).run Tryd.prog W = .ok (.slice (some ⟨w.heap.size, 0, none⟩) j n) W := by
          intro W
          obtain ⟨i, hi, hz⟩ := Option.map_eq_some_iff.1 info5
          exact cut_to 22 5 .i64 Tryd.underlying22 hi (some ⟨w.heap.size, 0, none⟩) n n (j : Int) (by omega) (by omega) (Nat.le_refl _) W
        have hwj : IntKind.i64.wrap ((j : Int) + (k : Int)) = ((j + k : Nat) : Int) := by rw [IntKind.wrap_i64]; omega
        have HR3 := Aside0.mk hr3
        have HK1 := Aside0.mk (show 1 ≤ k ∧ j + k ≤ n from hk1)
        clear hr3 hk hk1 HRD
        go_upto_region 20 with (fail)
        go_region
        all_goals
          go_wp2_with fail
          go_roundg (n - (j + k))
          case measure => have := HK1.out; have := HJ.out; omega
          case rel => exact ⟨j + k, by first | rfl | exact congrArg _ hwj | (rw [hwj]), ⟨by have := HJ.out; omega, by have := HK1.out; omega⟩, HR3⟩
end Go.Proofs.YtekmminmgjoabaaDoor.Js

namespace Go.Proofs.YtekmminmgjoabaaDoor.Js
open Go.RowKit Go.Proofs.YtekmminmgjoabaaDoorW.PrintWords Go.Proofs.YtekmminmgjoabaaDoorW.PrintLast Go.Proofs.YtekmminmgjoabaaDoorW.PrintMore Go.Proofs.YtekmminmgjoabaaDoor.PFnJSTokens
set_option linter.unusedVariables false
set_option linter.unusedSimpArgs false
theorem txt_made {code : List Int} (h : Bytes code) : sfx [] ((jsN code).toks 0 0) 0 = (jsN code).txt := by
  rw [sfx_none, txt_toks (made_ok h).1]
theorem blank_numEnd (l : List Int) : NumEnd (32 :: l) := by
  intro c t h
  injection h with h1 h2
  subst h1
  exact ⟨by unfold Digit; omega, by decide, by decide, by decide⟩
theorem nil_numEnd : NumEnd [] := fun c t h => by cases h
theorem field_kind (k : Int) (s u1 u2 : Value) : ∀ W : World, (Instr.field 29 (.agg #[.int .i64 k, s, u1, u2]) 0).run Tryd.prog W = .ok (.int .i64 k) W := fun _ => by kernel_rfl
set_option maxHeartbeats 4000000 in
set_option maxRecDepth 100000 in
theorem law_parsed (w : World) (v1 v2 : Value) (code bs : List Int) (h1 : Sl w w.heap.size v1 code) (h2 : Sl w w.heap.size v2 bs) (hb1 : Bytes code) (hb2 : Bytes bs) (ht : Tab w) (a : Int) (ha : 0 ≤ a ∧ a ≤ 255) :
    Calls Tryd.prog 14 #[v1, v2, .int .u8 a] w fun e w' => e = .returned (.bool true) ∧ Below w.heap.size w w' := by
  obtain ⟨A1, c1, rfl, -⟩ := h1.form
  obtain ⟨A2, c2, rfl, -⟩ := h2.form
  obtain ⟨m1, hm1⟩ : ∃ m1, m1 = code.length := ⟨_, rfl⟩
  rw [← hm1] at h1 ⊢
  have hx1 : m1 ≤ 9223372036854775807 := by rw [hm1]; have := h1.cut.2.2.1.2.1; omega
  obtain ⟨m2, hm2⟩ : ∃ m2, m2 = bs.length := ⟨_, rfl⟩
  rw [← hm2] at h2 ⊢
  have hx2 : m2 ≤ 9223372036854775807 := by rw [hm2]; have := h2.cut.2.2.1.2.1; omega
  by_cases hs1 : 2147483647 < m1
  · clear h1 hb1 hm1 h2 hb2 hm2 ht
    go_enter Tryd.func14, Tryd.ntmps14
    go_wp2_with fail
    go_returns
    exact ⟨rfl, Below.refl _ _⟩
  by_cases hs2 : 2147483647 < m2
  · have hn1 : ¬ (2147483647 : Int) < (m1 : Int) := by omega
    clear h1 hb1 hm1 h2 hb2 hm2 ht
    go_enter Tryd.func14, Tryd.ntmps14
    go_wp2_with fail
    go_returns
    exact ⟨rfl, Below.refl _ _⟩
  have hn1 : ¬ (2147483647 : Int) < (m1 : Int) := by omega
  have hn2 : ¬ (2147483647 : Int) < (m2 : Int) := by omega
  have HN := Aside0.mk (jsNode_calls w w.heap.size _ code (Nat.le_refl _) h1 hb1)
  have HN2 := Aside0.mk (fun (W : World) (hW : Below w.heap.size w W) => jsNode_calls W w.heap.size _ bs hW.size (h2.below hW) hb2)
  have HT := Aside0.mk ht
  have HOK := Aside0.mk (made_ok hb1)
  have HOK2 := Aside0.mk (made_ok hb2)
  obtain ⟨y1, hy1⟩ : ∃ y, y = (jsN code).txt := ⟨_, rfl⟩
  obtain ⟨y2, hy2⟩ : ∃ y, y = (jsN bs).txt := ⟨_, rfl⟩
  have HY1 := Aside0.mk (show sfx [] ((jsN code).toks 0 0) 0 = y1 by rw [hy1]; exact txt_made hb1)
  have HY2 := Aside0.mk (show sfx [] ((jsN bs).toks 0 0) 0 = y2 by rw [hy2]; exact txt_made hb2)
  have HL1 := Aside0.mk (show Bytes y1 ∧ y1.length ≤ 9000000 by rw [← HY1.out]; exact ⟨sfx_bytes HOK.out.1 [], sfx_le hb1 []⟩)
  have HL2 := Aside0.mk (show Bytes y2 ∧ y2.length ≤ 9000000 by rw [← HY2.out]; exact ⟨sfx_bytes HOK2.out.1 [], sfx_le hb2 []⟩)
  obtain ⟨j, hj⟩ : ∃ j : Nat, j = a.toNat % 4 := ⟨_, rfl⟩
  have hj3 : j ≤ 3 := by omega
  have hrem : a.tmod 4 = (j : Int) := by rw [hj, Int.tmod_eq_emod_of_nonneg ha.1]; omega
  have hw8 : IntKind.u8.wrap (j : Int) = (j : Int) := by rw [IntKind.wrap_u8]; omega
  have hw64 : IntKind.i64.wrap (j : Int) = (j : Int) := by rw [IntKind.wrap_i64]; omega
  obtain ⟨sp, hsp⟩ : ∃ sp, sp = List.replicate j (32 : Int) := ⟨_, rfl⟩
  have HSP := Aside0.mk (show (∀ c ∈ sp, isSp c = true) ∧ Bytes sp ∧ sp.length ≤ 3 by
    rw [hsp]
    refine ⟨fun c hc => by rw [List.eq_of_mem_replicate hc]; rfl, fun c hc => by rw [List.eq_of_mem_replicate hc]; decide, by rw [List.length_replicate]; exact hj3⟩)
  have HREP := Aside0.mk (fun (W : World) (B : Nat) (v : Value) (hs : Sl W B v [32]) (hB : B ≤ W.heap.size) => (show Calls Tryd.prog 36 #[v, .int .i64 (j : Int)] W fun e w' => ∃ v', e = .returned v' ∧ Sl w' w'.heap.size v' sp ∧ Below W.heap.size W w' by rw [hsp]; exact repeat_calls W B v j (by omega) hs hB))
  obtain ⟨zs, hzs⟩ : ∃ zs, zs = sp ++ (y1 ++ 32 :: y2) := ⟨_, rfl⟩
  have HZB := Aside0.mk (show Bytes zs ∧ zs.length ≤ 19000000 by
    rw [hzs]
    refine ⟨bytes_append HSP.out.2.1 (bytes_append HL1.out.1 (bytes_append (a := [32]) (by intro x hx; simp at hx; omega) HL2.out.1)), ?_⟩
    have e1 := HL1.out.2
    have e2 := HL2.out.2
    have e3 := HSP.out.2.2
    simp only [List.length_append, List.length_cons]
    omega)
  have q1 : ¬ (9223372036854775807 < (strOfNums sp).size + (strOfNums y1).size) := by rw [strOf_size, strOf_size]; have := HSP.out.2.2; have := HL1.out.2; omega
  have q2 : ¬ (9223372036854775807 < (strOfNums sp).size + (strOfNums y1).size + 1) := by rw [strOf_size, strOf_size]; have := HSP.out.2.2; have := HL1.out.2; omega
  have q3 : ¬ (9223372036854775807 < (strOfNums sp).size + (strOfNums y1).size + 1 + (strOfNums y2).size) := by rw [strOf_size, strOf_size, strOf_size]; have := HSP.out.2.2; have := HL1.out.2; have := HL2.out.2; omega
  have HE := Aside0.mk (show strOfNums sp ++ strOfNums y1 ++ (⟨#[32]⟩ : ByteArray) ++ strOfNums y2 = strOfNums zs by rw [hzs, show sp ++ (y1 ++ 32 :: y2) = sp ++ y1 ++ [32] ++ y2 by simp, strOf_append, strOf_append, strOf_append]; rfl)
  have HP1 := Aside0.mk (fun (W : World) (v : Value) (hW : Below w.heap.size w W) (hs : Sl W W.heap.size v zs) => (show Calls Tryd.prog 30 #[v] W fun e w' => ∃ u1 u2, e = .returned (.tuple #[u1, u2, .int .i64 (jsN code).kind, .bool true]) ∧ Sl w' w'.heap.size u1 y1 ∧ Sl w' w'.heap.size u2 (32 :: y2) ∧ Below W.heap.size W w' by
    have hb := HZB.out
    rw [hzs, hy1] at hs hb
    rw [hy1]
    exact jsParsed_calls HOK.out.1 W v sp (32 :: y2) HSP.out.1 hs hb.1 (by have := hb.2; omega) (fun _ => blank_numEnd _) (HT.out.below hW)))
  have HP2 := Aside0.mk (fun (W : World) (v : Value) (hW : Below w.heap.size w W) (hs : Sl W W.heap.size v y2) => (show Calls Tryd.prog 30 #[v] W fun e w' => ∃ u1 u2, e = .returned (.tuple #[u1, u2, .int .i64 (jsN bs).kind, .bool true]) ∧ Sl w' w'.heap.size u1 y2 ∧ Sl w' w'.heap.size u2 [] ∧ Below W.heap.size W w' by
    have hb := HL2.out
    have e : y2 = [] ++ ((jsN bs).txt ++ []) := by rw [hy2]; simp
    rw [e] at hs hb
    rw [hy2]
    exact jsParsed_calls HOK2.out.1 W v [] [] (fun c hc => by cases hc) hs hb.1 (by have := hb.2; omega) (fun _ => nil_numEnd) (HT.out.below hW)))
  have HTR := Aside0.mk (fun (W : World) (B : Nat) (v : Value) (hs : Sl W B v (32 :: y2)) => (show Calls Tryd.prog 37 #[v, .string ⟨#[32]⟩] W fun e w' => ∃ v', e = .returned v' ∧ Sl w' B v' y2 ∧ Below W.heap.size W w' by
    obtain ⟨b0, l0, hbl, hbeg⟩ := txt_begins HOK2.out.1
    rw [hy2, hbl] at hs ⊢
    refine trim37_calls W B v 1 b0 l0 ?_ hs
    rintro rfl
    exact absurd hbeg.sp (by decide)))
  clear h1 h2 hb1 hb2 ht hm1 hm2 hs1 hs2 hy1 hy2 hj hsp hzs ha
  go_enter Tryd.func14, Tryd.ntmps14
  go_upto_region 6 with (first
    | (go_at_call 17; (with_reducible refine HN.out.mono ?_); rintro e w2 ⟨v, rfl, hnd, hb2⟩; obtain ⟨v2, v3, rfl, hm2⟩ := hnd; have HONE := Aside0.mk (kJ.K_one (kJ.K_of_M hm2)); have HND := Aside0.mk (show Nd w2 w.heap.size (.agg #[.int .i64 (jsN code).kind, .string (strOfNums (jsN code).text), v2, v3]) (jsN code) from ⟨v2, v3, rfl, hm2⟩); have HB2 := Aside0.mk hb2; have HR2 := Aside0.mk (blk_new w2 (.cells #[.int .i64 0, .string ⟨#[]⟩, .slice none 0 0, .slice none 0 0] 29)); clear hb2 hm2)
    | ((with_reducible refine gate_st (p := .tmp 7) rfl ?_); refine store_agg _ _ _ rfl rfl rfl [.int .i64 (jsN code).kind, .string (strOfNums (jsN code).text), v2, v3] HR2.out rfl (by simp) rfl (by kernel_rfl) HONE.out ?_; intro W4 hb4 hk4 hg4; have r0 : W4.cell? ⟨w2.heap.size, 0, none⟩ = some (.int .i64 (jsN code).kind) := (blk_cell hb4 0).trans rfl; have r1 : W4.cell? ⟨w2.heap.size, 1, none⟩ = some (.string (strOfNums (jsN code).text)) := (blk_cell hb4 1).trans rfl; have r2 : W4.cell? ⟨w2.heap.size, 2, none⟩ = some v2 := (blk_cell hb4 2).trans rfl; have r3 : W4.cell? ⟨w2.heap.size, 3, none⟩ = some v3 := (blk_cell hb4 3).trans rfl; have HR4 := Aside0.mk hb4; have HB24 := Aside0.mk ((below_alloc (Below.refl w2.heap.size w2) (.cells #[.int .i64 0, .string ⟨#[]⟩, .slice none 0 0, .slice none 0 0] 29)).trans hg4); have HB4 := Aside0.mk (HB2.out.trans (HB24.out.mono HB2.out.size)); have HND4 := Aside0.mk (HND.out.below HB24.out); have HW1 := Aside0.mk (jsWritten_calls W4 (jsN code) _ (.slice none 0 0) [] HOK.out.1 (by have := HOK.out; unfold Room; omega) (HND4.out.lower (Nat.zero_le _)) (Sl.nil _ _) (fun x hx => by cases hx)); clear hb4 hk4 hg4)
    | (go_at_call 16; (with_reducible refine HW1.out.mono ?_); rintro e w5 ⟨tv, rfl, -, hb5⟩; rw [HY1.out]; have HR5 := Aside0.mk (blk_below HR4.out hb5); have HB5 := Aside0.mk (HB4.out.trans (hb5.mono HB4.out.size)); clear hb5)
    | (go_at_call 17; (with_reducible refine (HN2.out _ HB5.out).mono ?_); rintro e w6 ⟨v, rfl, hnd, hb6⟩; have HW2 := Aside0.mk (jsWritten_calls w6 (jsN bs) _ (.slice none 0 0) [] HOK2.out.1 (by have := HOK2.out; unfold Room; omega) (hnd.lower (Nat.zero_le _)) (Sl.nil _ _) (fun x hx => by cases hx)); have HR6 := Aside0.mk (blk_below HR5.out hb6); have HB6 := Aside0.mk (HB5.out.trans (hb6.mono HB5.out.size)); clear hb6 hnd)
    | (go_at_call 16; (with_reducible refine HW2.out.mono ?_); rintro e w7 ⟨tv2, rfl, -, hb7⟩; rw [HY2.out]; have HR7 := Aside0.mk (blk_below HR6.out hb7); have HB7 := Aside0.mk (HB6.out.trans (hb7.mono HB6.out.size)); clear hb7))
  clear r0 r1 r2 r3
  go_upto_region 7 with (first
    | ((with_reducible refine gate_dst (N := 42) rfl ?_); (try (refine gate_guard (by rfl) ?_; dsimp only)); refine mark_lit (xs := [32]) (w0 := w) Tryd.underlying22 Tryd.underlying5 (by decide) (by decide) ?hg (N := 42) ?hd HB7.out ?hr ?_; (case hd => rfl); (case hg => rfl); (case hr => first | (go_simp; done) | (go_simp; rfl)); intro A0 c0 w8 w9 hcv0 hC hle hb hB2; have hcv1 : (convert 22 22 (.slice A0 1 c0)).run Tryd.prog w8 = .ok (.slice A0 1 c0) w9 := hcv0; clear hcv0; have HS9 := Aside0.mk (show Sl w9 w9.heap.size (.slice A0 1 c0) [32] from Sl_of_C hC (by decide) hle); have HB9 := Aside0.mk hB2; have HR9 := Aside0.mk (blk_below HR7.out hb); clear hB2 hb hC hle)
    | (go_at_call 36; (with_reducible refine (HREP.out _ _ _ HS9.out (Nat.le_refl _)).mono ?_); rintro e w10 ⟨v', rfl, hsl, hb⟩; obtain ⟨A3, m3, c3, rfl, hm3⟩ := hsl.formv; have hcv2 := hsl.text Tryd.underlying22 Tryd.underlying9; have HR10 := Aside0.mk (blk_below HR9.out hb); have HB10 := Aside0.mk (HB9.out.trans (hb.mono HB9.out.size)); clear hb hsl hm3))
  clear hcv1 hcv2
  obtain ⟨cz, w11, hcv, hsl11, hb11⟩ := text_bytes w10 zs HZB.out.1 (by have := HZB.out.2; omega)
  rw [← HE.out] at hcv
  have HB11 := Aside0.mk (HB10.out.trans (hb11.mono HB10.out.size))
  have HR11 := Aside0.mk (blk_below HR10.out hb11)
  have HQ1 := Aside0.mk (HP1.out w11 _ HB11.out hsl11)
  clear hsl11 hb11
  go_upto_region 8 with (go_at_call 30; (with_reducible refine HQ1.out.mono ?_); rintro e w12 ⟨u1, u2, rfl, hu1, hu2, hb⟩; obtain ⟨A4, m4, c4, rfl, hm4⟩ := hu1.formv; obtain ⟨A5, m5, c5, rfl, hm5⟩ := hu2.formv; have HU1 := Aside0.mk hu1; have HU2 := Aside0.mk hu2; have HR12 := Aside0.mk (blk_below HR11.out hb); have HB12 := Aside0.mk (HB11.out.trans (hb.mono HB11.out.size)); clear hb hu1 hu2 hm4 hm5)
  clear hcv q1 q2 q3
  obtain ⟨cz2, w13, hcv, hsl13, hb13⟩ := text_bytes w12 y2 HL2.out.1 (by have := HL2.out.2; omega)
  have HB13 := Aside0.mk (HB12.out.trans (hb13.mono HB12.out.size))
  have HR13 := Aside0.mk (blk_below HR12.out hb13)
  have HU3 := Aside0.mk (HU1.out.below hb13)
  have HU4 := Aside0.mk (HU2.out.below hb13)
  have HS13 := Aside0.mk hb13.size
  have HQ2 := Aside0.mk (HP2.out w13 _ HB13.out hsl13)
  clear hsl13 hb13
  go_upto_region 9 with (go_at_call 30; (with_reducible refine HQ2.out.mono ?_); rintro e w14 ⟨u3, u4, rfl, hu3, hu4, hb⟩; obtain ⟨A6, m6, c6, rfl, hm6⟩ := hu3.formv; obtain ⟨A7, m7, c7, rfl, hm7⟩ := hu4.formv; have HU5 := Aside0.mk (HU3.out.below (hb.mono HS13.out)); have HU6 := Aside0.mk (HU4.out.below (hb.mono HS13.out)); have HU7 := Aside0.mk hu3; have HM7 := Aside0.mk (show m7 = 0 from hm7); have HR14 := Aside0.mk (blk_below HR13.out hb); have HB14 := Aside0.mk (HB13.out.trans (hb.mono HB13.out.size)); have HS14 := Aside0.mk hb.size; clear hb hu3 hu4 hm6 hm7)
  clear hcv
  obtain rfl : m7 = 0 := HM7.out
  have hcA := HU5.out.text (src := 22) (dst := 9) Tryd.underlying22 Tryd.underlying9
  have q0 := (blk_cell HR14.out 0).trans (show _ = some (Value.int .i64 (jsN code).kind) from rfl)
  go_wp2_with (first
    | (go_at_call 37; (with_reducible refine (HTR.out _ _ _ HU6.out).mono ?_); rintro e w15 ⟨v', rfl, hs, hb⟩; obtain ⟨A8, m8, c8, rfl, hm8⟩ := hs.formv; have hcB := hs.text (src := 22) (dst := 9) Tryd.underlying22 Tryd.underlying9; have hcC := (HU7.out.below hb).text (src := 22) (dst := 9) Tryd.underlying22 Tryd.underlying9; have q3 := (blk_cell (blk_below HR14.out hb) 0).trans (show _ = some (Value.int .i64 (jsN code).kind) from rfl); have HB15 := Aside0.mk (HB14.out.trans (hb.mono HB14.out.size)); clear hs hb hm8)
    | (go_at_call 17; (with_reducible refine (HN2.out _ HB15.out).mono ?_); rintro e w16 ⟨v, rfl, hnd, hb⟩; obtain ⟨a2, a3, rfl, -⟩ := hnd; have hfd := field_kind (jsN bs).kind (.string (strOfNums (jsN bs).text)) a2 a3; have HB16 := Aside0.mk (HB15.out.trans (hb.mono HB15.out.size)); clear hb)
    | (go_at_call 19; (with_reducible refine (awake_calls _ (HT.out.below HB16.out)).mono ?_); rintro e wz ⟨rfl, hbz⟩; have HBZ := Aside0.mk (HB16.out.trans (hbz.mono (HB16.out).size)); clear hbz))
  go_returns
  exact ⟨rfl, HBZ.out⟩
end Go.Proofs.YtekmminmgjoabaaDoor.Js
