/- A tokenizer that has gone on for some tokens and is begun anew. -/
import Derived.Test.YtekmminmgjoabaaDoorJsLawB
namespace Go.Proofs.YtekmminmgjoabaaDoor.Js
open Go.RowKit Go.Proofs.YtekmminmgjoabaaDoorW.PrintWords Go.Proofs.YtekmminmgjoabaaDoorW.PrintLast Go.Proofs.YtekmminmgjoabaaDoorW.PrintMore Go.Proofs.YtekmminmgjoabaaDoor.PFnJSTokens
set_option linter.unusedVariables false
set_option linter.unusedSimpArgs false
theorem R_tk4 {B base : Nat} {w w' : World} {v : Value} {xs : List S37} (h : k37.R 37 w base (fun _ => True) v xs) (hk : TK (fun t => t = 4) B w w') : k37.R 37 w' base (fun _ => True) v xs := by
  have ht := Kd.R_typed h
  have hE : k37.E = [] := rfl
  refine Kd.R_reok hE (Kd.R_step (Kd.R_tight hE h) (fun k ho hlt => ?_)) (fun _ _ => trivial)
  obtain ⟨cells, hc⟩ := ht k ho.symm
  rw [hc]
  exact hk.keep k cells 37 hc (by intro h; cases h)
/-- A tokenizer within a text, or at its end. -/
def Going (w : World) (B T : Nat) : Prop := ∃ (st st2 : St) (zs rest : List Int) (ls : List (Tk × Int)) (p q : Bool), TokSt w B T st zs p q ∧ TokRun st zs ls st2 rest ∧ (∀ c ∈ rest, isSp c = true) ∧ StOk st.stack zs.length ∧ Bytes zs ∧ (q = true → 92 ∉ zs)
theorem next_any (w : World) (B T : Nat) (hB : B ≤ T) (h3 : 3 < B) (h : Going w B T) (ht : Tab w) : Calls Tryd.prog 54 #[.pointer (some ⟨T, 0, none⟩)] w fun e w' => (∃ b : Bool, e = .returned (.bool b)) ∧ Going w' B T ∧ TK TokT B w w' := by
  obtain ⟨st, st2, zs, rest, ls, p, q, hs, hr, hsp, hL, hby, hq⟩ := h
  cases hr with
  | nil =>
    obtain ⟨d, vv, dp, ix, ik, js, sp, K, hk, hT, hJ, hS⟩ := hs.out
    refine (next_end w B T d dp ix ik st.isKey vv js sp _ zs hsp hB hT hJ).mono ?_
    rintro e w' ⟨rfl, ⟨p', q', h1⟩, h2⟩
    exact ⟨⟨_, rfl⟩, ⟨⟨[], false⟩, ⟨[], false⟩, [], [], [], p', q', ⟨⟨_, _, _, _, _, _, _, 0, by decide, h1, Sl.nil _ _, .inl ⟨rfl, rfl⟩⟩⟩, .nil _ _, fun c hc => by simp at hc, ⟨by simp, fun x hx => by simp at hx⟩, fun c hc => by simp at hc, fun _ hc => by simp at hc⟩, h2⟩
  | @cons _ st1 _ _ bs v r _ c k l hz hbs ha hg hbh hrn =>
    refine (next_ok w B T st st1 zs bs v r c k p q hB h3 hs hz hbs ha hg hbh hL ht hby hq).mono ?_
    rintro e w' ⟨rfl, ⟨vv, js, sp, K, hK, hcl, -, ht2, hv2, hj2, hs2⟩, hk2⟩
    have hrl : r.length < zs.length := by rw [hz]; have := hg.pos; simp; omega
    exact ⟨⟨_, rfl⟩, ⟨st1, st2, r, rest, l, p, q, tokSt_next hK ht2 hj2 hs2, hrn, hsp, hL.after hrl ha, hby.sub (fun c hc => by rw [hz]; exact List.mem_append_right _ (List.mem_append_right _ hc)), fun h hc => hq h (by rw [hz]; exact List.mem_append_right _ (List.mem_append_right _ hc))⟩, hk2⟩
set_option maxHeartbeats 4000000 in
set_option maxRecDepth 100000 in
theorem again_calls (w : World) (A1 A2 : Option Addr) (n1 c1 n2 c2 : Nat) (za zb ra rb : List Int) (st1 st2 : St) (la lb : List (Tk × Int)) (k : Nat) (hk : k ≤ 10) (hs1 : Sl w w.heap.size (.slice A1 n1 c1) za) (hs2 : Sl w w.heap.size (.slice A2 n2 c2) zb) (hb1 : Bytes za) (hb2 : Bytes zb) (hl1 : za.length ≤ 2000000000) (hl2 : zb.length ≤ 2000000000)
    (hr1 : TokRun ⟨[], false⟩ za la st1 ra) (hp1 : ∀ c ∈ ra, isSp c = true) (hr2 : TokRun ⟨[], false⟩ zb lb st2 rb) (hp2 : ∀ c ∈ rb, isSp c = true) (hll : lb.length ≤ 2200000000) (ht : Tab w) :
    Calls Tryd.prog 26 #[.slice A1 n1 c1, .slice A2 n2 c2, .int .i64 (k : Int)] w fun e w' => ∃ v, e = .returned (.tuple #[v, .bool true]) ∧ k37.R 37 w' w.heap.size (fun _ => True) v (lb.map toS) ∧ Below w.heap.size w w' := by
  have h3 := tab_lt ht
  have hal := below_alloc (Below.refl w.heap.size w) (.cells #[.bool false] 4)
  have HOK := Aside0.mk (blk_new w (.cells #[.bool false] 4))
  have HTK := Aside0.mk (show TK TokT w.heap.size w (w.alloc (.cells #[.bool false] 4)) from TK.of hal (Nat.le_refl _))
  have HN := Aside0.mk (tnew (w.alloc (.cells #[.bool false] 4)) w.heap.size A1 n1 c1 za (hs1.below hal) hb1 (by simp) (by omega))
  have HG0 := Aside0.mk (fun (W : World) (T : Nat) (p q : Bool) (hT : w.heap.size ≤ T) (hW : Below w.heap.size w W) (h1 : W.heap[T]? = some (.cells (tzr 0 (.slice none 0 0) .nilIface 0 0 false false (.slice A1 n1 c1) (.pointer none) (flK p q 0)) 118 (0, 0))) (hf : FlagsOk za p q) =>
    (show Going W w.heap.size T from ⟨⟨[], false⟩, st1, za, ra, la, p, q, ⟨⟨_, _, _, _, _, _, _, 0, by decide, h1, hs1.below hW, .inl ⟨rfl, rfl⟩⟩⟩, hr1, hp1, ⟨by simp; omega, fun x hx => by simp at hx⟩, hb1, hf.2⟩))
  have HS2 := Aside0.mk hs2
  have HB2 := Aside0.mk (And.intro hb2 hl2)
  have HRUN := Aside0.mk (And.intro hr2 hp2)
  have HLL := Aside0.mk hll
  have HT := Aside0.mk ht
  have H3 := Aside0.mk h3
  clear hal h3 hs1 hs2 hb1 hb2 hl1 hl2 hr1 hp1 hr2 hp2 hll ht
  go_enter_defers Tryd.func26, Tryd.ntmps26
  go_upto_region 4 with (go_at_call 45; (with_reducible refine HN.out.mono ?_); rintro e W1 ⟨T, p, q, rfl, hT, ht1, hf, hb1⟩; have HTT := Aside0.mk (show w.heap.size ≤ T from Nat.le_trans (by simp) hT); have HK1 := Aside0.mk (HTK.out.trans (TK.of hb1 (by simp))); have HGO := Aside0.mk (HG0.out W1 T p q HTT.out HK1.out.below ht1 hf); have HOK1 := Aside0.mk (blk_below HOK.out hb1); clear hT ht1 hf hb1)
  go_loopg [9] k (fun gk v9 w' => ∃ j : Nat, v9 = .int .i64 (j : Int) ∧ Aside0 (j + gk = k) ∧ Aside0 (Going w' w.heap.size T) ∧ Aside0 (TK TokT w.heap.size w w') ∧ Aside0 (w'.heap[w.heap.size]? = some (.cells #[.bool false] 4 (0, 0))))
  case atStart => exact ⟨0, rfl, ⟨by omega⟩, HGO, HK1, HOK1⟩
  case round =>
    obtain ⟨j, rfl, HJ, HGr, HKr, HOr⟩ := hrel
    cases gk with
    | zero =>
      obtain rfl : j = k := by have := HJ.out; omega
      have dlt : decide ((j : Int) < (j : Int)) = false := by simp
      have hre : Calls Tryd.prog 55 #[.pointer (some ⟨T, 0, none⟩), .slice A2 n2 c2] wr fun e w' => e = .returned (.tuple #[]) ∧ (∃ p q, TokSt w' w.heap.size T ⟨[], false⟩ zb p q ∧ (q = true → 92 ∉ zb)) ∧ TK TokT w.heap.size wr w' := by
        obtain ⟨st, st2, zs, rest, ls, p, q, hs, -⟩ := HGr.out
        obtain ⟨d, vv, dp, ix, ik, js, sp, K, hk, hT, hJ, hS⟩ := hs.out
        refine (treset wr w.heap.size T _ _ _ _ _ _ _ _ _ _ A2 n2 c2 zb HTT.out hT (HS2.out.below HKr.out.below) HB2.out.1 (by have := HB2.out.2; omega)).mono ?_
        rintro e w' ⟨rfl, ⟨p', q', h1, hf⟩, h2⟩
        exact ⟨rfl, ⟨p', q', ⟨⟨_, _, _, _, _, _, _, 0, by decide, h1, HS2.out.below (HKr.out.below.trans h2.below), .inl ⟨rfl, rfl⟩⟩⟩, hf.2⟩, h2⟩
      have HRE := Aside0.mk hre
      clear hre
      go_upto_region 8 with (go_at_call 55; (with_reducible refine HRE.out.mono ?_); rintro e W3 ⟨rfl, ⟨p3, q3, hs3, hq3⟩, hk3⟩; have HK3 := Aside0.mk (HKr.out.trans hk3); have HO3 := Aside0.mk (hk3.keep _ _ _ HOr.out (by rintro (h | h | h) <;> cases h)); have HGO3 := Aside0.mk (tokens_go W3 w.heap.size T ⟨[], false⟩ st2 zb rb lb p3 q3 true HTT.out H3.out hs3 HRUN.out.1 ⟨by have := HB2.out.2; simp; omega, fun x hx => by simp at hx⟩ (HT.out.base H3.out HK3.out.below) HB2.out.1 hq3 HLL.out (fun W' hW' hst => end_last W' w.heap.size T st2 rb p3 q3 HTT.out hst HRUN.out.2)); clear hs3 hq3 hk3)
      go_upto_region 9 with (first
        | (go_at_call 44; (with_reducible refine HGO3.out.mono ?_); rintro e W4 ⟨v4, rfl, hr4, hk4⟩; have HK4 := Aside0.mk (HK3.out.trans hk4); have HO4 := Aside0.mk (hk4.keep _ _ _ HO3.out (by rintro (h | h | h) <;> cases h)); have HR4 := Aside0.mk hr4; have HSZ4 := Aside0.mk HK3.out.below.size; clear hr4 hk4)
        | ((with_reducible refine gate_st rfl ?_); refine store_any _ _ _ rfl rfl rfl HO4.out rfl (by simp) rfl rfl rfl (by kernel_rfl) ?_; intro W5 hb1 hk1 hg1; have HS5 := Aside0.mk (show W5.heap[w.heap.size]? = some (.cells #[.bool true] 4 (0, 0)) from hb1); have HK5 := Aside0.mk hk1; have HG5 := Aside0.mk hg1; clear hb1 hk1 hg1))
      refine leaves_cons (f := 53) (args := #[.pointer (some ⟨w.heap.size, 0, none⟩)]) (by simp) (by simp [go_sem]) ?_
      refine (caught_idle _ _).mono ?_
      rintro e u' w'' ⟨rfl, rfl, rfl⟩
      have hcc : w''.cell? ⟨w.heap.size, 0, none⟩ = some (.bool true) := (blk_cell HS5.out 0).trans rfl
      refine ⟨.tuple #[v4, .bool true], ?_, ?_⟩
      · simp [results, Tryd.results26, go_sem, hcc]
      · exact ⟨_, rfl, Kd.R_lower (R_tk4 HR4.out (TK.put HO4.out rfl (Nat.le_refl _) HK5.out HG5.out)) HSZ4.out, HK4.out.below.trans HG5.out⟩
    | succ k1 =>
      have hjk : j < k := by have := HJ.out; omega
      have dlt : decide ((j : Int) < (k : Int)) = true := by simpa using hjk
      have HNX := Aside0.mk (next_any wr w.heap.size T HTT.out H3.out HGr.out (HT.out.base H3.out HKr.out.below))
      go_wp2_with (go_at_call 54; (with_reducible refine HNX.out.mono ?_); rintro e W2 ⟨⟨bb, rfl⟩, hg2, hk2⟩; have HG2 := Aside0.mk hg2; have HK2 := Aside0.mk (HKr.out.trans hk2); have HO2 := Aside0.mk (hk2.keep _ _ _ HOr.out (by rintro (h | h | h) <;> cases h)); clear hg2 hk2)
      go_roundg k1
      case measure => omega
      case rel => exact ⟨j + 1, by go_num, ⟨by have := HJ.out; omega⟩, HG2, HK2, HO2⟩
end Go.Proofs.YtekmminmgjoabaaDoor.Js
