/- The tokens of a text are told. -/
import Derived.Test.YtekmminmgjoabaaDoorYRt
import Derived.Deep.RegionHeld3
namespace Go.Proofs.YtekmminmgjoabaaDoor.Js
open Go.RowKit Go.Proofs.YtekmminmgjoabaaDoorW.PrintWords Go.Proofs.YtekmminmgjoabaaDoorW.PrintLast Go.Proofs.YtekmminmgjoabaaDoorW.PrintMore Go.Proofs.YtekmminmgjoabaaDoor.PFnJSTokens
set_option linter.unusedVariables false
set_option linter.unusedSimpArgs false
def ErrIs (er : Value) (ok : Bool) : Prop := (ok = true ∧ er = .nilIface) ∨ (ok = false ∧ ∃ g, er = .iface 186 (.pointer (some ⟨g, 0, none⟩)))
/-- What the last step answers. -/
def LastPost (w : World) (B T : Nat) (ok : Bool) (e : Ending) (w' : World) : Prop := e = .returned (.bool false) ∧ (∃ d vv er dp ix ik nk js sp fl, w'.heap[T]? = some (.cells (tzr d vv er dp ix ik nk js sp fl) 118 (0, 0)) ∧ ErrIs er ok) ∧ TK TokT B w w'
theorem tokSt_next {w' : World} {B T : Nat} {st1 : St} {r : List Int} {p q : Bool} {c : Int} {vv js sp : Value} {dp ix : Int} {ik : Bool} {K : Int} (hK : 0 ≤ K ∧ K < 64) (h : w'.heap[T]? = some (.cells (tzr c vv .nilIface dp ix ik st1.isKey js sp (flK p q K)) 118 (0, 0))) (hJ : Sl w' B js r) (hS : Stk w' B sp st1.stack) : TokSt w' B T st1 r p q := ⟨⟨_, _, _, _, _, _, _, _, hK, h, hJ, hS⟩⟩
theorem TokSt.same {w w' : World} {B T : Nat} {st : St} {zs : List Int} {p q : Bool} (h : TokSt w B T st zs p q) (hb : Below w.heap.size w w') (hB : B ≤ w.heap.size) : TokSt w' B T st zs p q := by
  obtain ⟨d, vv, dp, ix, ik, js, sp, K, hk, hT, hJ, hS⟩ := h.out
  exact ⟨⟨d, vv, dp, ix, ik, js, sp, K, hk, blk_below hT hb, hJ.below (hb.mono hB), hS.same hb⟩⟩
theorem Stk.grown {w w' : World} {B : Nat} {sp : Value} {l : List (Bool × Int)} {row : Option Nat} (h : Stk w B sp l) (hg : w.grownBy w' row) (hr : ∀ k, row = some k → ∃ cells, w.heap[k]? = some (.cells cells 37 (0, 0))) : Stk w' B sp l := by
  have hne : ∀ g cs t, w.heap[g]? = some (.cells cs t (0, 0)) → t ≠ 37 → some g ≠ row := by
    intro g cs t hgc ht e
    obtain ⟨cells, hc⟩ := hr g e.symm
    rw [hgc] at hc
    injection hc with hc
    injection hc with _ hc
    exact ht hc
  rcases h with h | ⟨S, g, cap, h1, h2, h3, h4, h5⟩
  · exact .inl h
  · obtain ⟨cur, hc, -⟩ := Row_blk h5
    exact .inr ⟨S, g, cap, h1, h2, h3, blk_grown h4 hg (hne S _ _ h4 (by decide)), Row_block h5 (hg.block g (blk_lt hc) (hne g _ _ hc (by decide)))⟩
theorem TokSt.grown {w w' : World} {B T : Nat} {st : St} {zs : List Int} {p q : Bool} {row : Option Nat} (h : TokSt w B T st zs p q) (hg : w.grownBy w' row) (hB : B ≤ w.heap.size) (hb : ∀ k, row = some k → B ≤ k) (hr : ∀ k, row = some k → ∃ cells, w.heap[k]? = some (.cells cells 37 (0, 0))) : TokSt w' B T st zs p q := by
  obtain ⟨d, vv, dp, ix, ik, js, sp, K, hk, hT, hJ, hS⟩ := h.out
  refine ⟨⟨d, vv, dp, ix, ik, js, sp, K, hk, blk_grown hT hg (fun e => ?_), hJ.below ((Below.refl B w).grown hg hB hb), hS.grown hg hr⟩⟩
  obtain ⟨cells, hc⟩ := hr T e.symm
  rw [hT] at hc
  injection hc with hc
  injection hc with _ hc
  cases hc
theorem tok_after {W2 W w9 : World} {T t : Nat} {cs : Array Value} {base : Nat} {v : Value} {xs : List S37} (hW : Below W2.heap.size W2 W) (hT2 : W2.heap[T]? = some (.cells cs t (0, 0))) (ht : t ≠ 37) (hR : k37.R 37 W base (fun _ => True) v xs) (hg : W.grownBy w9 v.ownBlock) : w9.heap[T]? = some (.cells cs t (0, 0)) := by
  have hT := blk_below hT2 hW
  refine blk_grown hT hg (fun e => ?_)
  obtain ⟨cells, hc⟩ := Kd.R_typed hR T e.symm
  rw [hT] at hc
  injection hc with hc
  injection hc with _ hc
  exact ht hc
theorem tokst_after {W2 W w9 : World} {B T : Nat} {st : St} {zs : List Int} {p q : Bool} {base : Nat} {v : Value} {xs : List S37} (hg : W.grownBy w9 v.ownBlock) (hW : Below W2.heap.size W2 W) (hT2 : TokSt W2 B T st zs p q) (hB : B ≤ W2.heap.size) (hb : B ≤ base) (hR : k37.R 37 W base (fun _ => True) v xs) : TokSt w9 B T st zs p q :=
  (hT2.same hW hB).grown hg (Nat.le_trans hB hW.size) (fun k hk => Nat.le_trans hb (Kd.R_base hR k hk)) (Kd.R_typed hR)
theorem TK.after {F : Nat → Prop} {B : Nat} {w W w9 : World} (h : TK F B w W) (hb : Below w.heap.size W w9) (hB : B ≤ w.heap.size) : TK F B w w9 :=
  ⟨h.below.trans (hb.mono hB), fun g cs t hg ht => (hb.block g (blk_lt hg)).trans (h.keep g cs t hg ht)⟩
theorem TK.setNew {F : Nat → Prop} {B : Nat} {w W : World} {G : Nat} (h : TK F B w W) (hG : w.heap.size ≤ G) (hB : B ≤ w.heap.size) (i : Nat) (u : Value) : TK F B w (W.setCell ⟨G, i, none⟩ u) :=
  ⟨h.below.setCell (Nat.le_trans hB hG) _, fun b cs t hb ht => (Below.heap_setCell W ⟨G, i, none⟩ u b (fun e => by have := blk_lt hb; subst e; exact Nat.lt_irrefl _ (Nat.lt_of_lt_of_le this hG))).trans (h.keep b cs t hb ht)⟩
set_option maxHeartbeats 4000000 in
set_option maxRecDepth 100000 in
theorem tokens_go (w : World) (B T : Nat) (st st2 : St) (zs rest : List Int) (ls : List (Tk × Int)) (p q ok : Bool) (hB : B ≤ T) (h3 : 3 < B) (hs : TokSt w B T st zs p q) (hrun : TokRun st zs ls st2 rest) (hL : StOk st.stack zs.length) (ht : Tab w) (hby : Bytes zs) (hq : q = true → 92 ∉ zs) (hll : ls.length ≤ 2200000000)
    (hlast : ∀ W : World, Below B w W → TokSt W B T st2 rest p q → Calls Tryd.prog 54 #[.pointer (some ⟨T, 0, none⟩)] W (LastPost W B T ok)) :
    Calls Tryd.prog 44 #[.pointer (some ⟨T, 0, none⟩)] w fun e w' => ∃ v, e = .returned (.tuple #[v, .bool ok]) ∧ k37.R 37 w' w.heap.size (fun _ => True) v (ls.map toS) ∧ TK TokT B w w' := by
  have hTl : T < w.heap.size := by
    obtain ⟨d, vv, dp, ix, ik, js, sp, K, hk, hT, hJ, hS⟩ := hs.out
    exact blk_lt hT
  have hal := below_alloc (Below.refl w.heap.size w) (.cells #[.bool false] 4)
  have HTS := Aside0.mk (hs.same hal (by omega))
  have HOK := Aside0.mk (blk_new w (.cells #[.bool false] 4))
  have HTK := Aside0.mk (show TK TokT B w (w.alloc (.cells #[.bool false] 4)) from TK.of hal (by omega))
  have HB := Aside0.mk (And.intro hB (And.intro h3 hTl))
  have HRUN := Aside0.mk hrun
  have HINV := Aside0.mk (And.intro hL (And.intro hby hq))
  have HT := Aside0.mk ht
  have HLL := Aside0.mk hll
  have HLAST := Aside0.mk hlast
  have HSZ := Aside0.mk (show (w.alloc (.cells #[.bool false] 4)).heap.size = w.heap.size + 1 by simp)
  clear hB h3 hs hrun hL ht hby hq hll hlast hTl hal
  go_enter_defers Tryd.func44, Tryd.ntmps44
  go_upto_region 2 with (fail)
  obtain ⟨W0, hW0⟩ : ∃ W0, W0 = w.alloc (.cells #[.bool false] 4) := ⟨_, rfl⟩
  rw [← hW0] at HTS HOK HTK HSZ ⊢
  clear hW0
  go_loopg [2] ls.length (fun m v2 w' => ∃ (done cur : List (Tk × Int)) (stc : St) (zsc : List Int), Aside0 (ls = done ++ cur ∧ cur.length = m) ∧ Aside0 (TokRun stc zsc cur st2 rest) ∧ Aside0 (TokSt w' B T stc zsc p q) ∧ Aside0 (StOk stc.stack zsc.length ∧ Bytes zsc ∧ (q = true → 92 ∉ zsc)) ∧ Aside0 (k37.R 37 w' w.heap.size (fun _ => True) v2 (done.map toS)) ∧ Aside0 (TK TokT B w w') ∧ Aside0 (w'.heap[w.heap.size]? = some (.cells #[.bool false] 4 (0, 0))))
  case atStart => exact ⟨[], ls, st, zs, ⟨rfl, rfl⟩, HRUN, HTS, HINV, ⟨Kd.R_nil _ _ _ _ _⟩, HTK, HOK⟩
  case round =>
    obtain ⟨done, cur, stc, zsc, HC, HRN, HTSr, HIN, HR, HKr, HOKr⟩ := hrel
    obtain ⟨A, C, rfl⟩ := Kd.R_slice HR.out
    cases gk with
    | zero =>
      obtain rfl : cur = [] := List.eq_nil_of_length_eq_zero HC.out.2
      have hlst : Calls Tryd.prog 54 #[.pointer (some ⟨T, 0, none⟩)] wr (LastPost wr B T ok) := by
        refine HLAST.out wr HKr.out.below ?_
        have := HRN.out
        cases this
        exact HTSr.out
      have HLS := Aside0.mk hlst
      clear hlst
      go_upto_region 4 with (go_at_call 54; (with_reducible refine HLS.out.mono ?_); rintro e W2 ⟨rfl, ⟨d, vv, er, dp, ix, ik, nk, js, sp, fl, ht2, her⟩, hk2⟩; have HT2 := Aside0.mk ht2; have HER := Aside0.mk her; have HK2 := Aside0.mk hk2; clear ht2 her hk2)
      have HOK2 := Aside0.mk (HK2.out.keep _ _ _ HOKr.out (by rintro (h | h | h) <;> cases h))
      have HR2 := Aside0.mk (R_tk HR.out HK2.out)
      have k2 := (tzr_cell HT2.out 2).trans (show _ = some er from rfl)
      have g2 := blk_frozen HOK2.out 0
      have j2 := (blk_cell HOK2.out 0).trans (show _ = some (Value.bool false) from rfl)
      have hne1 : ¬ T = w.heap.size := by have := HB.out; omega
      have hne2 : ¬ w.heap.size = T := by omega
      rcases HER.out with ⟨rfl, rfl⟩ | ⟨rfl, ⟨ge, rfl⟩⟩
      · go_region_held3 (fun w' => w'.cell? ⟨T, 2, none⟩ = some .nilIface ∧ w'.frozen? ⟨w.heap.size, 0, none⟩ = false) (go_keep) (fail)
        all_goals
          go_wp2_with fail
          refine leaves_cons (f := 53) (args := #[.pointer (some ⟨w.heap.size, 0, none⟩)]) (by simp) (by simp [go_sem]) ?_
          refine (caught_idle _ _).mono ?_
          rintro e u' w'' ⟨rfl, rfl, rfl⟩
          have hcc : (W2.setCell ⟨w.heap.size, 0, none⟩ (.bool true)).drew.cell? ⟨w.heap.size, 0, none⟩ = some (.bool true) := (blk_cell (blk_drew (blk_set HOK2.out 0 (.bool true))) 0).trans rfl
          refine ⟨.tuple #[.slice A done.length C, .bool true], ?_, ?_⟩
          · simp [results, Tryd.results44, go_sem, hcc]
          · refine ⟨_, rfl, ?_, ?_⟩
            · have e := HC.out.1
              rw [List.append_nil] at e
              rw [e]
              have hr := Kd.R_drew (Kd.R_mono (ok' := fun _ => True) (Kd.R_set HR2.out HOK2.out (by decide) 0 (.bool true)) (fun _ _ => trivial))
              rw [List.length_map] at hr
              exact hr
            · exact ((HKr.out.trans HK2.out).setNew (Nat.le_refl _) (by have := HB.out; omega) 0 (.bool true)).drew
      · go_region_held3 (fun w' => w'.cell? ⟨T, 2, none⟩ = some (.iface 186 (.pointer (some ⟨ge, 0, none⟩))) ∧ w'.frozen? ⟨w.heap.size, 0, none⟩ = false) (go_keep) (fail)
        all_goals
          go_wp2_with fail
          refine leaves_cons (f := 53) (args := #[.pointer (some ⟨w.heap.size, 0, none⟩)]) (by simp) (by simp [go_sem]) ?_
          refine (caught_idle _ _).mono ?_
          rintro e u' w'' ⟨rfl, rfl, rfl⟩
          have hcc : (W2.setCell ⟨w.heap.size, 0, none⟩ (.bool false)).drew.cell? ⟨w.heap.size, 0, none⟩ = some (.bool false) := (blk_cell (blk_drew (blk_set HOK2.out 0 (.bool false))) 0).trans rfl
          refine ⟨.tuple #[.slice A done.length C, .bool false], ?_, ?_⟩
          · simp [results, Tryd.results44, go_sem, hcc]
          · refine ⟨_, rfl, ?_, ?_⟩
            · have e := HC.out.1
              rw [List.append_nil] at e
              rw [e]
              have hr := Kd.R_drew (Kd.R_mono (ok' := fun _ => True) (Kd.R_set HR2.out HOK2.out (by decide) 0 (.bool false)) (fun _ _ => trivial))
              rw [List.length_map] at hr
              exact hr
            · exact ((HKr.out.trans HK2.out).setNew (Nat.le_refl _) (by have := HB.out; omega) 0 (.bool false)).drew
    | succ k1 =>
      cases cur with
      | nil => exact absurd HC.out.2 (by simp)
      | cons x cur =>
        obtain ⟨stx, bs, v, r, c, k, hz, hbs, ha, hg, hbh, hx, hrn⟩ : ∃ stx bs v r c k, zsc = bs ++ (v ++ r) ∧ (∀ c ∈ bs, isSp c = true) ∧ stc.after c = some stx ∧ Good c v k ∧ Behind k r ∧ x = (stc.tok stx c v k, (r.length : Int)) ∧ TokRun stx r cur st2 rest := by
          have := HRN.out
          cases this with
          | cons h1 h2 h3 h4 h5 h6 => exact ⟨_, _, _, _, _, _, h1, h2, h3, h4, h5, rfl, h6⟩
        have HNX := Aside0.mk (next_ok wr B T stc stx zsc bs v r c k p q HB.out.1 HB.out.2.1 HTSr.out hz hbs ha hg hbh HIN.out.1 (HT.out.base HB.out.2.1 HKr.out.below) HIN.out.2.1 HIN.out.2.2)
        have hrl : r.length < zsc.length := by rw [hz]; have := hg.pos; simp; omega
        have HIN2 := Aside0.mk (show StOk stx.stack r.length ∧ Bytes r ∧ (q = true → 92 ∉ r) from ⟨HIN.out.1.after hrl ha, HIN.out.2.1.sub (fun c hc => by rw [hz]; exact List.mem_append_right _ (List.mem_append_right _ hc)), fun h hc => HIN.out.2.2 h (by rw [hz]; exact List.mem_append_right _ (List.mem_append_right _ hc))⟩)
        have HX := Aside0.mk hx
        have HR2N := Aside0.mk hrn
        have HG := Aside0.mk hg
        clear hz hbs ha hg hbh hx hrn hrl
        go_upto_region 3 with (go_at_call 54; (with_reducible refine HNX.out.mono ?_); rintro e W2 ⟨rfl, ⟨vv, js, sp, K, hK, hcl, -, ht2, hv2, hj2, hs2⟩, hk2⟩; have HKB := Aside0.mk (And.intro hK hcl); have HT2 := Aside0.mk ht2; have HV2 := Aside0.mk hv2; have HJ2 := Aside0.mk hj2; have HS2 := Aside0.mk hs2; have HK2 := Aside0.mk hk2; clear hK hcl ht2 hv2 hj2 hs2 hk2)
        obtain ⟨A1, e1, rfl, -⟩ := HV2.out.form
        obtain ⟨A2, e2, rfl, -⟩ := HJ2.out.form
        obtain ⟨tk, htk⟩ : ∃ tk, tk = stc.tok stx c v k := ⟨_, rfl⟩
        have HTKN := Aside0.mk (show tk.delim = c ∧ tk.val = v ∧ tk.cls = k by rw [htk]; exact ⟨rfl, rfl, rfl⟩)
        rw [← htk] at HX HT2
        clear htk
        have k0 := (tzr_cell HT2.out 0).trans (show _ = some (Value.int .i32 c) from rfl)
        have k1' := (tzr_cell HT2.out 1).trans (show _ = some (Value.slice A1 v.length e1) from rfl)
        have k3 := (tzr_cell HT2.out 3).trans (show _ = some (Value.int .i64 tk.depth) from rfl)
        have k4 := (tzr_cell HT2.out 4).trans (show _ = some (Value.int .i64 tk.index) from rfl)
        have k5 := (tzr_cell HT2.out 5).trans (show _ = some (Value.bool tk.key) from rfl)
        have HCV := Aside0.mk (fun (W : World) (hW : Below W2.heap.size W2 W) => (HV2.out.below (hW.mono (by have := HB.out; have := HKr.out.below.size; have := HK2.out.below.size; omega))).text (src := 82) (dst := 9) Tryd.underlying82 Tryd.underlying9)
        have HLF := Aside0.mk (fun (W : World) (hW : Below W2.heap.size W2 W) => tleft W T _ _ _ _ _ _ _ _ _ _ _ _ (blk_below HT2.out hW))
        have HKD := Aside0.mk (fun (W : World) (hW : Below W2.heap.size W2 W) => tkind W T _ _ _ _ _ _ _ _ _ p q K HKB.out.1.1 HKB.out.1.2 (blk_below HT2.out hW))
        have HCL := Aside0.mk (fun (W : World) => class_calls K k W HKB.out.2)
        have HRW := Aside0.mk (fun (W : World) (hW : Below W2.heap.size W2 W) => (show k37.R 37 W w.heap.size (fun _ => True) (.slice A done.length C) (done.map toS) by have h := Kd.R_below (R_tk HR.out HK2.out) hW; rw [List.length_map] at h; exact h))
        have hu8 : IntKind.u8.wrap c = c := by
          have := HG.out
          cases this <;> rfl
        have HSZ2 := Aside0.mk (show w.heap.size ≤ W2.heap.size from Nat.le_trans HKr.out.below.size HK2.out.below.size)
        have HDL := Aside0.mk (show done.length < 2200000000 by have := HLL.out; rw [HC.out.1] at this; simp at this; omega)
        go_region_held3 (fun w' => w'.cell? ⟨T, 0, none⟩ = some (.int .i32 c) ∧ w'.cell? ⟨T, 1, none⟩ = some (.slice A1 v.length e1) ∧ w'.cell? ⟨T, 3, none⟩ = some (.int .i64 tk.depth) ∧ w'.cell? ⟨T, 4, none⟩ = some (.int .i64 tk.index) ∧ w'.cell? ⟨T, 5, none⟩ = some (.bool tk.key) ∧ (convert 82 9 (.slice A1 v.length e1)).run Tryd.prog w' = .ok (.string (strOfNums v)) w')
          ((go_split_ands; refine ⟨?_, ?_, ?_, ?_, ?_, ?_⟩ <;> first | assumption | go_keep | exact HCV.out _ (by repeat (first | (with_reducible exact Below.refl _ _) | apply below_drew | apply pw_below_drewN | apply below_alloc))))
          (first
          | (go_at_call 77; (with_reducible refine (HLF.out _ ?_).mono ?_); (repeat (first | (with_reducible exact Below.refl _ _) | apply below_drew | apply pw_below_drewN)); rintro e w3 ⟨rfl, rfl⟩)
          | (go_at_call 78; (with_reducible refine (HKD.out _ ?_).mono ?_); (repeat (first | (with_reducible exact Below.refl _ _) | apply below_drew | apply pw_below_drewN)); rintro e w3 ⟨rfl, ⟨⟨n3, rfl⟩⟩⟩)
          | (go_at_call 61; (with_reducible refine (HCL.out _).mono ?_); rintro e w3 ⟨rfl, rfl⟩)
          | (refine Kd.R_append_step k37 (w0 := W2) w.heap.size (by simp [Region.wanted]) (.tmp 6) (.tmp 35) 23 37 (.agg #[.int .u8 0, .string ⟨#[]⟩, .int .i64 0, .int .i64 0, .bool false, .int .i64 0, .int .i64 0]) 64 rfl Tryd.underlying23 info37 rfl (by decide) (by decide) (.slice A done.length C) (done.map toS) ⟨c, strOfNums v, tk.depth, tk.index, tk.key, (r.length : Int), k⟩ [.int .u8 c, .string (strOfNums v), .int .i64 tk.depth, .int .i64 tk.index, .bool tk.key, .int .i64 (r.length : Int), .int .i64 k] (fun _ => True) (fun g => W2.heap.size ≤ g) (by rfl) (by rfl) (k37_mkM _ _ _ _) (fun g hg => ⟨trivial, fun h => by have := Kd.R_lt (HRW.out W2 (Below.refl _ _)) g h.symm; omega⟩) (fun _ _ => trivial) (HRW.out _ (by repeat (first | (with_reducible exact Below.refl _ _) | apply below_drew | apply pw_below_drewN | apply below_alloc))) (show Below w.heap.size W2 _ from Below.mono (B := W2.heap.size) (by repeat (first | (with_reducible exact Below.refl _ _) | apply below_drew | apply pw_below_drewN | apply below_alloc)) HSZ2.out) (by have := HSZ2.out; exact this) (by rw [List.length_map]; have := HDL.out; omega) ?_; intro v9 w9 ho hb9 hg9 hat9; have hT9 := tok_after (by repeat (first | (with_reducible exact Below.refl _ _) | apply below_drew | apply pw_below_drewN | apply below_alloc)) HT2.out (by decide) (HRW.out _ (by repeat (first | (with_reducible exact Below.refl _ _) | apply below_drew | apply pw_below_drewN | apply below_alloc))) hg9; have q0 := (tzr_cell hT9 0).trans (show _ = some (Value.int .i32 c) from rfl); have q1 := (tzr_cell hT9 1).trans (show _ = some (Value.slice A1 v.length e1) from rfl); have q3 := (tzr_cell hT9 3).trans (show _ = some (Value.int .i64 tk.depth) from rfl); have q4 := (tzr_cell hT9 4).trans (show _ = some (Value.int .i64 tk.index) from rfl); have q5 := (tzr_cell hT9 5).trans (show _ = some (Value.bool tk.key) from rfl); have q6 := ((HV2.out.below (hb9.mono (by have := HB.out; omega))).text (src := 82) (dst := 9) Tryd.underlying82 Tryd.underlying9)))
        all_goals
          have hst9 := tokst_after hg9 (by repeat (first | (with_reducible exact Below.refl _ _) | apply below_drew | apply pw_below_drewN | apply below_alloc)) (tokSt_next HKB.out.1 HT2.out HJ2.out HS2.out) (by have := HB.out; have := HSZ2.out; omega) (by have := HB.out; omega) (HRW.out _ (by repeat (first | (with_reducible exact Below.refl _ _) | apply below_drew | apply pw_below_drewN | apply below_alloc)))
          have hok9 := tok_after (by repeat (first | (with_reducible exact Below.refl _ _) | apply below_drew | apply pw_below_drewN | apply below_alloc)) (HK2.out.keep _ _ _ HOKr.out (by rintro (h | h | h) <;> cases h)) (by decide) (HRW.out _ (by repeat (first | (with_reducible exact Below.refl _ _) | apply below_drew | apply pw_below_drewN | apply below_alloc))) hg9
          have htk9 := (HKr.out.trans HK2.out).after hb9 (by have := HB.out; omega)
          have hx9 : toS x = ⟨c, strOfNums v, tk.depth, tk.index, tk.key, (r.length : Int), k⟩ := by
            rw [HX.out]
            unfold toS
            simp only
            rw [HTKN.out.1, HTKN.out.2.1, HTKN.out.2.2]
          have hr9 : k37.R 37 w9 w.heap.size (fun _ => True) v9 ((done ++ [x]).map toS) := by
            rw [List.map_append, List.map_cons, List.map_nil, hx9]
            exact ho
          have HALL := Aside0.mk (And.intro hst9 (And.intro hok9 (And.intro htk9 hr9)))
          clear hst9 hok9 htk9 hx9 hr9 ho hb9 hg9 hat9 hT9 q0 q1 q3 q4 q5 q6 k0 k1' k3 k4 k5 hu8
          go_wp2_with fail
          go_roundg k1
          case measure => omega
          case rel => exact ⟨done ++ [x], cur, stx, r, ⟨by rw [HC.out.1]; simp, by have := HC.out.2; simp at this; omega⟩, HR2N, ⟨HALL.out.1⟩, HIN2, ⟨HALL.out.2.2.2⟩, ⟨HALL.out.2.2.1⟩, ⟨HALL.out.2.1⟩⟩
end Go.Proofs.YtekmminmgjoabaaDoor.Js

