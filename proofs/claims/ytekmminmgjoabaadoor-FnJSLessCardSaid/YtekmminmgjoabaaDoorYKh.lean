/- The maker's values: each is what the plain function makes. The value that bytes are, as the laws make it. The writer's blanks. The writer's tokens, one by one. The writer, as far as it has come. A plain value is written. -/
import Derived.Test.YtekmminmgjoabaaDoorYKe
import Derived.Test.YtekmminmgjoabaaDoorYKf
import Derived.Test.YtekmminmgjoabaaDoorYKg
import Derived.Deep.QuietTactic
import Derived.Deep.RegionLaw
namespace Go.Proofs.YtekmminmgjoabaaDoor.Js
open Go.RowKit Go.Proofs.YtekmminmgjoabaaDoorW.PrintWords Go.Proofs.YtekmminmgjoabaaDoorW.PrintLast Go.Proofs.YtekmminmgjoabaaDoorW.PrintMore
theorem node_step (f : Nat) (ih : ∀ g, f = g + 1 → NodeC g) : NodeC f := by
  intro w B m code left deep hB hd hd0 hd1 hl1 hl0 hm
  obtain ⟨b0, b1, -⟩ := byteF_in hm.bytes
  have hk : 0 ≤ kindF f (byteF code).1 left ∧ kindF f (byteF code).1 left ≤ 9 := by unfold kindF; split <;> omega
  have hc : kindF f (byteF code).1 left < 6 ∨ (kindF f (byteF code).1 left = 6 ∨ kindF f (byteF code).1 left = 7) ∨ (kindF f (byteF code).1 left = 8 ∨ kindF f (byteF code).1 left = 9) := by omega
  rcases hc with h | h | h
  · exact node_leaves f w B m code left deep hB hd hd0 hd1 hl1 hl0 hm ih h
  · exact node_arrays f w B m code left deep hB hd hd0 hd1 hl1 hl0 hm ih h
  · exact node_objects f w B m code left deep hB hd hd0 hd1 hl1 hl0 hm ih h
theorem node_all : ∀ f, NodeC f := by
  intro f
  induction f with
  | zero => exact node_step 0 (fun g h => by omega)
  | succ f ih => exact node_step (f + 1) (fun g h => by obtain rfl : f = g := by omega
                                                        exact ih)
end Go.Proofs.YtekmminmgjoabaaDoor.Js

namespace Go.Proofs.YtekmminmgjoabaaDoor.Js
open Go.RowKit Go.Proofs.YtekmminmgjoabaaDoorW.PrintWords Go.Proofs.YtekmminmgjoabaaDoorW.PrintLast Go.Proofs.YtekmminmgjoabaaDoorW.PrintMore
set_option linter.unusedVariables false
set_option linter.unusedSimpArgs false
/-- The value that bytes are. -/
def jsN (code : List Int) : JN := (nodeF 6 code 40).1
/-- A value lies at a value v (four cells), of the call's own from base on. -/
def Nd (w : World) (base : Nat) (v : Value) (n : JN) : Prop := ∃ v2 v3, v = .agg #[.int .i64 n.kind, .string (strOfNums n.text), v2, v3] ∧ kJ.M w base (fun _ => True) n [.int .i64 n.kind, .string (strOfNums n.text), v2, v3]
theorem Nd.below {w w' : World} {base : Nat} {v : Value} {n : JN} (h : Nd w base v n) (hb : Below w.heap.size w w') : Nd w' base v n := by
  obtain ⟨v2, v3, e, hm⟩ := h
  exact ⟨v2, v3, e, Kd.M_below hm hb⟩
theorem Nd.lower {w : World} {base base' : Nat} {v : Value} {n : JN} (h : Nd w base v n) (hb : base' ≤ base) : Nd w base' v n := by
  obtain ⟨v2, v3, e, hm⟩ := h
  exact ⟨v2, v3, e, kJ.M_lower hb hm⟩
def JsNodePost (w : World) (code : List Int) (e : Ending) (w' : World) : Prop := ∃ v, e = .returned v ∧ Nd w' w.heap.size v (jsN code) ∧ Below w.heap.size w w'
set_option maxHeartbeats 4000000 in
set_option maxRecDepth 100000 in
theorem jsNode_calls (w : World) (B : Nat) (v : Value) (code : List Int) (hB : B ≤ w.heap.size) (hs : Sl w B v code) (hc : Bytes code) :
    Calls Tryd.prog 17 #[v] w (JsNodePost w code) := by
  have hb1 := below_alloc (Below.refl w.heap.size w) (.cells #[.int .i64 0, .string ⟨#[]⟩, .slice none 0 0, .slice none 0 0] 29)
  have HS := Aside0.mk hs
  have HB := Aside0.mk hB
  have HC := Aside0.mk hc
  obtain ⟨A, C, rfl, -⟩ := hs.form
  have HR1 := Aside0.mk (blk_new w (.cells #[.int .i64 0, .string ⟨#[]⟩, .slice none 0 0, .slice none 0 0] 29))
  obtain ⟨W1, hW1⟩ : ∃ W1, W1 = w.alloc (.cells #[.int .i64 0, .string ⟨#[]⟩, .slice none 0 0, .slice none 0 0] 29) := ⟨_, rfl⟩
  rw [← hW1] at hb1 HR1
  have hsz : W1.heap.size = w.heap.size + 1 := by rw [hW1]; simp
  have HB1 := Aside0.mk hb1
  have HSZ := Aside0.mk hsz
  have HW1 := Aside0.mk hW1
  have hb2 := below_alloc (Below.refl W1.heap.size W1) (.cells #[.slice A code.length C, .int .i64 40] 45)
  have HR2 := Aside0.mk (blk_below HR1.out hb2)
  have HM2 := Aside0.mk (show MadeAt (W1.alloc (.cells #[.slice A code.length C, .int .i64 40] 45)) B W1.heap.size code 40 from ⟨_, blk_new W1 _, (hs.below (hb1.mono hB)).below (hb2.mono (by omega)), hc⟩)
  have HN := Aside0.mk (node_all 6 (W1.alloc (.cells #[.slice A code.length C, .int .i64 40] 45)) B W1.heap.size code 40 0 (by omega) rfl (by decide) (by decide) (by decide) (by decide) HM2.out)
  have HB2 := Aside0.mk hb2
  clear hs hB hc hb1 hb2 hsz hW1
  go_enter Tryd.func17, Tryd.ntmps17
  go_upto_region 1 with (fail)
  rw [← HW1.out]
  go_upto_region 2 with (fail)
  obtain ⟨W2, hW2⟩ : ∃ W2, W2 = W1.alloc (.cells #[.slice A code.length C, .int .i64 40] 45) := ⟨_, rfl⟩
  have hg := HSZ.out
  obtain ⟨G, hG⟩ : ∃ G, G = W1.heap.size := ⟨_, rfl⟩
  rw [← hW2] at HR2 HM2 HN HB2 ⊢
  rw [← hG] at HM2 HN hg ⊢
  have HG := Aside0.mk hG
  have HGE := Aside0.mk hg
  clear hW2 hg hG
  go_wp2_with (first
    | (go_at_call 24; (with_reducible refine HN.out.mono ?_); rintro e w3 ⟨v2, v3, rfl, hM, hm, hv⟩; have hone := kJ.K_one (kJ.K_of_M hM); have HONE := Aside0.mk hone; have HR3 := Aside0.mk (hv.blk HR2.out (by have := HGE.out; omega)); have HM3 := Aside0.mk hM; have HV3 := Aside0.mk hv; clear hM hm hv hone)
    | ((with_reducible refine gate_st (p := .tmp 2) rfl ?_); refine store_agg _ _ _ rfl rfl rfl [.int .i64 (jsN code).kind, .string (strOfNums (jsN code).text), v2, v3] HR3.out rfl (by simp) rfl (by kernel_rfl) HONE.out ?_; intro W4 hb4 hk4 hg4; have r0 : W4.cell? ⟨w.heap.size, 0, none⟩ = some (.int .i64 (jsN code).kind) := (blk_cell hb4 0).trans rfl; have r1 : W4.cell? ⟨w.heap.size, 1, none⟩ = some (.string (strOfNums (jsN code).text)) := (blk_cell hb4 1).trans rfl; have r2 : W4.cell? ⟨w.heap.size, 2, none⟩ = some v2 := (blk_cell hb4 2).trans rfl; have r3 : W4.cell? ⟨w.heap.size, 3, none⟩ = some v3 := (blk_cell hb4 3).trans rfl; have HK4 := Aside0.mk hk4; have HG4 := Aside0.mk hg4; clear hb4 hk4 hg4))
  refine bodyPost_ret (v := .agg #[.int .i64 (jsN code).kind, .string (strOfNums (jsN code).text), v2, v3]) (by simp [results, Tryd.results17, go_sem, r0, r1, r2, r3]) rfl ?_
  have hsz2 := HB2.out.size
  have hm4 := Kd.M_keep (kJ.M_mono (ok' := fun k => k ≠ w.heap.size) (fun k hk => by have := hk.2.1; have := HGE.out; have := HG.out; omega) (kJ.M_bound HM3.out)) HK4.out (fun k hk => hk)
  refine ⟨_, rfl, ⟨v2, v3, rfl, kJ.M_lower (by have := HGE.out; have := HG.out; omega) (kJ.M_mono (fun k _ => trivial) hm4)⟩, ?_⟩
  exact (HB1.out.trans ((HB2.out.mono (by have := HSZ.out; omega)).trans ((HV3.out.below).mono (by have := HGE.out; omega)))).trans HG4.out
end Go.Proofs.YtekmminmgjoabaaDoor.Js


namespace Go.Proofs.YtekmminmgjoabaaDoor.Js
open Go.RowKit Go.Proofs.YtekmminmgjoabaaDoorW.PrintWords Go.Proofs.YtekmminmgjoabaaDoorW.PrintLast Go.Proofs.YtekmminmgjoabaaDoorW.PrintMore Go.Proofs.YtekmminmgjoabaaDoor.PFnJSTokens
set_option linter.unusedVariables false
set_option linter.unusedSimpArgs false
/-- A token, as it lies. -/
def toS (p : Tk × Int) : S37 := ⟨p.1.delim, strOfNums p.1.val, p.1.depth, p.1.index, p.1.key, p.2, p.1.cls⟩
/-- The writer at block g: its text, its tokens, its blanks (below B), how many there have been. -/
def WrAt (w : World) (B base g : Nat) (bl text : List Int) (toks : List S37) (k : Nat) : Prop :=
  ∃ tv bv, w.heap[g]? = some (.cells #[.string (strOfNums text), tv, bv, .int .i64 (k : Int)] 75 (0, 0)) ∧ Sl w B bv bl ∧ Bytes bl ∧ k37.R 37 w base (fun _ => True) tv toks
/-- How many blanks there have been behind another one. -/
def nextK (bl : List Int) (k : Nat) : Nat := if bl = [] then k else k + 1
def spB (c : Int) : Int := [32, 10, 9, 13].getD (c / 3 % 4).toNat 32
theorem blk_of (bl : List Int) (k : Nat) (h : bl ≠ []) : blk bl k = List.replicate ((bl.getD (k % bl.length) 0) % 3).toNat (spB (bl.getD (k % bl.length) 0)) := by
  unfold blk spB
  rw [if_neg h]
theorem litS (c : Int) : ∀ h : (c / 3 % 4).toNat < ([Value.string ⟨#[32]⟩, .string ⟨#[10]⟩, .string ⟨#[9]⟩, .string ⟨#[13]⟩] : List Value).length, ([Value.string ⟨#[32]⟩, .string ⟨#[10]⟩, .string ⟨#[9]⟩, .string ⟨#[13]⟩] : List Value)[(c / 3 % 4).toNat]'h = .string (strOfNums [spB c]) := by
  unfold spB
  have : (c / 3 % 4).toNat = 0 ∨ (c / 3 % 4).toNat = 1 ∨ (c / 3 % 4).toNat = 2 ∨ (c / 3 % 4).toNat = 3 := by omega
  generalize (c / 3 % 4).toNat = q at *
  rcases this with rfl | rfl | rfl | rfl <;> intro h <;> rfl
theorem Mv.setCell (w : World) (g i : Nat) (v : Value) : Mv w (w.setCell ⟨g, i, none⟩ v) g := ⟨(KeepBut.refl w g none).set_ i v, (Below.refl g w).setCell (Nat.le_refl _) v⟩
theorem Mv.drew {w w1 : World} {m : Nat} (h : Mv w w1 m) : Mv w w1.drew m := ⟨⟨h.keep.1, h.keep.2⟩, below_drew h.below⟩
def BlankPost (w : World) (B base g : Nat) (bl text : List Int) (toks : List S37) (k : Nat) (e : Ending) (w' : World) : Prop := e = .returned (.tuple #[]) ∧ WrAt w' B base g bl (text ++ blk bl k) toks (nextK bl k) ∧ Mv w w' g
set_option maxHeartbeats 4000000 in
set_option maxRecDepth 100000 in
theorem blank_calls (w : World) (B base g : Nat) (bl text : List Int) (toks : List S37) (k : Nat) (hB : B ≤ g) (hb : base ≤ g) (hk : k < 1000000000) (ht : text.length < 1000000000) (h : WrAt w B base g bl text toks k) :
    Calls Tryd.prog 43 #[.pointer (some ⟨g, 0, none⟩)] w (BlankPost w B base g bl text toks k) := by
  obtain ⟨tv, bv, h1, h2, h3, h4⟩ := h
  obtain ⟨A, C, rfl, hC⟩ := h2.form
  have q2 : w.cell? ⟨g, 2, none⟩ = some (.slice A bl.length C) := (blk_cell h1 2).trans rfl
  by_cases hne : bl = []
  · subst hne
    have H1 := Aside0.mk (show WrAt w B base g [] text toks k from ⟨_, _, h1, h2, h3, h4⟩)
    clear h1 h2 h3 h4 hC hB hb hk ht
    go_enter Tryd.func43, Tryd.ntmps43
    go_wp2
    go_returns
    refine ⟨rfl, ?_, Mv.refl _ _⟩
    show WrAt w B base g [] (text ++ blk [] k) toks k
    rw [show blk [] k = [] from rfl, List.append_nil]
    exact H1.out
  · have q3 : w.cell? ⟨g, 3, none⟩ = some (.int .i64 (k : Int)) := (blk_cell h1 3).trans rfl
    have hl : 0 < bl.length := List.length_pos_iff.2 hne
    have hlt : k % bl.length < bl.length := Nat.mod_lt _ hl
    obtain ⟨ad, rfl, hcell, -⟩ := h2.at_ (k % bl.length) hlt
    obtain ⟨c, hc⟩ : ∃ c, c = bl.getD (k % bl.length) 0 := ⟨_, rfl⟩
    have hcb := h3 c (by rw [hc, List.getD_eq_getElem?_getD, List.getElem?_eq_getElem hlt]; exact List.getElem_mem hlt)
    rw [← hc] at hcell
    obtain ⟨hc0, hc1⟩ := hcb
    obtain ⟨i, hi⟩ : ∃ i, i = k % bl.length := ⟨_, rfl⟩
    rw [← hi] at hcell hlt
    have e1 : ((k : Int)).tmod (bl.length : Int) = (i : Int) := by rw [hi, Int.tmod_eq_emod_of_nonneg (by omega)]; simp
    have t0 : ((bl.length : Int) == 0) = false := by rw [beq_eq_false_iff_ne]; omega
    have HI := Aside0.mk hi
    have HC := Aside0.mk hc
    have H1 := Aside0.mk h1
    have H2 := Aside0.mk h2
    have H3 := Aside0.mk h3
    have H4 := Aside0.mk h4
    have HNE := Aside0.mk hne
    have HB := Aside0.mk (And.intro hB hb)
    clear h1 h2 h3 h4 hne hi hc hB hb
    go_enter Tryd.func43, Tryd.ntmps43
    go_upto_region 1 with (fail)
    go_quiet (fail)
    clear e1
    go_upto_region 4 with ((with_reducible refine gate_st (p := .tmp 31) rfl ?_); refine store_any _ _ _ rfl rfl rfl (show (w.drewN _).heap[g]? = _ from H1.out) rfl (by simp) rfl rfl rfl (by kernel_rfl) ?_; intro W1 hb1 hk1 hg1; have HW1 := Aside0.mk hb1; have HV1 := Aside0.mk (((Mv.refl w g).drewN _).trans ⟨hk1, hg1⟩); clear hb1 hk1 hg1)
    obtain ⟨N, hN⟩ : ∃ N : Nat, c % 3 = (N : Int) := ⟨(c % 3).toNat, by omega⟩
    have hN2 : N ≤ 2 := by omega
    have HN := Aside0.mk hN
    rw [hN]
    obtain ⟨sp, hsp⟩ : ∃ sp, sp = spB c := ⟨_, rfl⟩
    have hls := litS c
    rw [← hsp] at hls
    have HSP := Aside0.mk hsp
    have HLS := Aside0.mk hls
    have HBK := Aside0.mk (show text ++ blk bl k = text ++ List.replicate N sp by
      rw [blk_of bl k HNE.out, ← HC.out, ← hsp, hN]; rfl)
    clear hN hsp hls q2 q3 hcell
    go_loopg [35] N (fun n v35 w' => ∃ j : Nat, v35 = .int .i64 (j : Int) ∧ Aside0 (j + n = N) ∧ Aside0 (w'.heap[g]? = some (.cells #[.string (strOfNums (text ++ List.replicate j sp)), tv, .slice (some ad) bl.length C, .int .i64 ((k : Int) + 1)] 75 (0, 0))) ∧ Aside0 (Mv w w' g))
    case atStart => exact ⟨0, rfl, ⟨by omega⟩, ⟨by rw [List.replicate_zero, List.append_nil]; exact HW1.out⟩, HV1⟩
    case round =>
      obtain ⟨j, rfl, HJ, HW, HV⟩ := hrel
      clear HW1 HV1
      cases gk with
      | zero =>
        have d : decide (j < N) = false := by have := HJ.out; simp; omega
        go_wp2_with fail
        go_returns
        have hj : j = N := by have := HJ.out; omega
        refine ⟨rfl, ?_, HV.out⟩
        rw [HBK.out, nextK, if_neg HNE.out, ← hj]
        refine ⟨_, _, HW.out, H2.out.below (HV.out.below.mono HB.out.1), H3.out, ?_⟩
        exact Kd.R_mono (Kd.R_keep (Kd.R_types H4.out H1.out (by decide)) HV.out.keep (fun k hk => hk.2)) (fun k hk => hk.1)
      | succ k1 =>
        have d : decide (j < N) = true := by have := HJ.out; simp; omega
        have hj9 : (j : Int) ≤ 9 := by have := HJ.out; omega
        have t0 : wr.cell? ⟨g, 0, none⟩ = some (.string (strOfNums (text ++ List.replicate j sp))) := (blk_cell HW.out 0).trans rfl
        have HWA := Aside0.mk (blk_below HW.out (below_alloc (Below.refl wr.heap.size wr) (.cells #[.string ⟨#[32]⟩, .string ⟨#[10]⟩, .string ⟨#[9]⟩, .string ⟨#[13]⟩] 9)))
        have t1 : (wr.alloc (.cells #[.string ⟨#[32]⟩, .string ⟨#[10]⟩, .string ⟨#[9]⟩, .string ⟨#[13]⟩] 9)).cell? ⟨g, 0, none⟩ = some (.string (strOfNums (text ++ List.replicate j sp))) := (blk_cell HWA.out 0).trans rfl
        have f1 : (wr.alloc (.cells #[.string ⟨#[32]⟩, .string ⟨#[10]⟩, .string ⟨#[9]⟩, .string ⟨#[13]⟩] 9)).frozen? ⟨g, 0, none⟩ = false := blk_frozen HWA.out 0
        have r1 : IntKind.u8.wrap (c.tdiv 3) = c / 3 := by
          rw [Int.tdiv_eq_ediv_of_nonneg hc0]; simp [IntKind.wrap, IntKind.signed, IntKind.bits, IntKind.min, IntKind.max]; omega
        have r2 : (c / 3).tmod 4 = c / 3 % 4 := Int.tmod_eq_emod_of_nonneg (by omega)
        have r3 : 0 ≤ c / 3 % 4 := by omega
        have r4 : c / 3 % 4 < 4 := by omega
        have z1 : ¬ (9223372036854775807 < (strOfNums (text ++ List.replicate j sp)).size + (strOfNums [sp]).size) := by rw [strOf_size, strOf_size]; simp; omega
        have hls := HLS.out
        obtain ⟨tx, htx⟩ : ∃ tx, tx = text ++ List.replicate j sp := ⟨_, rfl⟩
        rw [← htx] at t0 t1 z1
        have HTX := Aside0.mk htx
        clear htx ht
        go_upto_region 5 with (fail)
        go_region_with (fail)
        all_goals
          go_wp2_with fail
          go_roundg k1
          case measure => omega
          case rel =>
            refine ⟨j + 1, by go_num, ⟨by have := HJ.out; omega⟩, ⟨?_⟩, ⟨?_⟩⟩
            · have h9 := blk_set HWA.out 0 (.string (strOfNums (text ++ List.replicate (j + 1) sp)))
              have hcat : strOfNums tx ++ strOfNums [sp] = strOfNums (text ++ List.replicate (j + 1) sp) := by rw [← strOf_append, HTX.out, List.append_assoc, List.replicate_succ']
              rw [hcat]
              exact h9
            · exact (HV.out.trans (Mv.of_below (below_alloc (Below.refl _ _) _) (Nat.le_of_lt (blk_lt HW.out)))).trans (Mv.setCell _ g 0 _).drew
end Go.Proofs.YtekmminmgjoabaaDoor.Js


namespace Go.Proofs.YtekmminmgjoabaaDoor.Js
open Go.RowKit Go.Proofs.YtekmminmgjoabaaDoorW.PrintWords Go.Proofs.YtekmminmgjoabaaDoorW.PrintLast Go.Proofs.YtekmminmgjoabaaDoorW.PrintMore Go.Proofs.YtekmminmgjoabaaDoor.PFnJSTokens
set_option linter.unusedVariables false
set_option linter.unusedSimpArgs false
theorem info37 : (Tryd.prog.info? 37).map (fun i => (i.zero, i.size, i.bytes)) = some (some (.agg #[.int .u8 0, .string ⟨#[]⟩, .int .i64 0, .int .i64 0, .bool false, .int .i64 0, .int .i64 0]), 7, 64) := by kernel_rfl
/-- The token that is written. -/
def newS (dl : Int) (v : List Int) (d i : Int) (key : Bool) (n : Nat) (cls : Int) : S37 := ⟨dl, strOfNums v, d, i, key, (n : Int), cls⟩
theorem str_head (c : Int) (r : List Int) (h0 : 0 ≤ c) (h1 : c ≤ 255) : ∀ h : 0 < (strOfNums (c :: r)).size, (((strOfNums (c :: r))[0]'h).toNat : Int) = c := by
  intro h
  show (((UInt8.ofNat c.toNat)).toNat : Int) = c
  rw [UInt8.toNat_ofNat']
  omega
/-- What a token leaves: all but the writer and rows of tokens. -/
def Tf (w w' : World) (g : Nat) : Prop := w.heap.size ≤ w'.heap.size ∧ ∀ k, k < w.heap.size → k ≠ g → (∀ cs q, w.heap[k]? ≠ some (.cells cs 37 q)) → w'.heap[k]? = w.heap[k]?
theorem Tf.refl (w : World) (g : Nat) : Tf w w g := ⟨Nat.le_refl _, fun _ _ _ _ => rfl⟩
theorem Tf.of_mv {w w' : World} {g : Nat} (h : Mv w w' g) : Tf w w' g := ⟨h.keep.1, fun k hk hne _ => h.keep.2 k hk hne (by simp)⟩
theorem Tf.of_grown {w w' : World} {g : Nat} {v : Value} (h : w.grownBy w' v.ownBlock) (ht : ∀ k, v.ownBlock = some k → ∃ cs, w.heap[k]? = some (.cells cs 37 (0, 0))) : Tf w w' g :=
  ⟨h.size, fun k hk _ hn => h.block k hk (fun he => by obtain ⟨cs, hc⟩ := ht k he.symm; exact hn cs _ hc)⟩
theorem Tf.trans {w w1 w2 : World} {g : Nat} (h : Tf w w1 g) (k : Tf w1 w2 g) : Tf w w2 g :=
  ⟨Nat.le_trans h.1 k.1, fun i hi hne hn => by
    have e := h.2 i hi hne hn
    exact (k.2 i (Nat.lt_of_lt_of_le hi h.1) hne (fun cs q hc => hn cs q (e ▸ hc))).trans e⟩
theorem Tf.blk {w w' : World} {g b t : Nat} {cs : Array Value} (h : Tf w w' g) (hb : w.heap[b]? = some (.cells cs t (0, 0))) (hg : b ≠ g) (ht : t ≠ 37) : w'.heap[b]? = some (.cells cs t (0, 0)) :=
  (h.2 b (blk_lt hb) hg (fun cs' q hc => by rw [hb] at hc; injection hc with hc; injection hc with _ hc _; exact ht hc)).trans hb
def TokPost (w : World) (B base g : Nat) (bl text : List Int) (toks : List S37) (k : Nat) (dl : Int) (v : List Int) (d i : Int) (key : Bool) (cls : Int) (e : Ending) (w' : World) : Prop :=
  e = .returned (.tuple #[]) ∧ WrAt w' B base g bl (text ++ (blk bl k ++ v)) (toks ++ [newS dl v d i key (text ++ (blk bl k ++ v)).length cls]) (nextK bl k) ∧ Below base w w' ∧ Tf w w' g
set_option maxHeartbeats 4000000 in
set_option maxRecDepth 100000 in
theorem token_go (w : World) (B base g : Nat) (bl text : List Int) (toks : List S37) (k : Nat) (dl : Int) (v : List Int) (db : Bool) (d i : Int) (key : Bool) (cls : Int) (hB : B ≤ base) (hb : base ≤ g) (hk : k < 100000000) (ht : text.length < 100000000) (hv : v.length < 100000000) (hq : toks.length < 100000000) (hdl : (db = true ∧ ∃ r, v = dl :: r ∧ 0 ≤ dl ∧ dl ≤ 255) ∨ (db = false ∧ dl = 0)) (h : WrAt w B base g bl text toks k) :
    Calls Tryd.prog 76 #[.pointer (some ⟨g, 0, none⟩), .string (strOfNums v), .bool db, .int .i64 d, .int .i64 i, .int .i64 cls, .bool key] w (TokPost w B base g bl text toks k dl v d i key cls) := by
  have HBL := Aside0.mk (blank_calls w B base g bl text toks k (by omega) hb (by omega) (by omega) h)
  have HB := Aside0.mk (show B ≤ g ∧ base ≤ g ∧ B ≤ base by omega)
  obtain ⟨tx, htx⟩ : ∃ tx, tx = text ++ blk bl k := ⟨_, rfl⟩
  have htl : tx.length < 100000002 := by have := blk_len bl k; rw [htx, List.length_append]; omega
  have HTX := Aside0.mk htx
  have HQ := Aside0.mk hq
  have HDL := Aside0.mk hdl
  have z1 : ¬ (9223372036854775807 < (strOfNums tx).size + (strOfNums v).size) := by rw [strOf_size, strOf_size]; omega
  have sz : (strOfNums tx).size + (strOfNums v).size = (tx ++ v).length := by rw [strOf_size, strOf_size, List.length_append]
  have SZ := Aside0.mk sz
  clear hB hb hk ht hv hq hdl h htx htl sz
  go_enter Tryd.func76, Tryd.ntmps76
  go_upto_region 1 with (go_at_call 43; (with_reducible refine HBL.out.mono ?_); rintro e w1 ⟨rfl, hw1, hv1⟩; rw [← HTX.out] at hw1; obtain ⟨tv, bv, a1, a2, a3, a4⟩ := hw1; obtain ⟨tA, tC, htv⟩ := Kd.R_slice a4; subst htv; have A1 := Aside0.mk a1; have A2 := Aside0.mk a2; have A3 := Aside0.mk a3; have A4 := Aside0.mk a4; have HV1 := Aside0.mk hv1; have q0 : w1.cell? ⟨g, 0, none⟩ = some (.string (strOfNums tx)) := (blk_cell a1 0).trans rfl; clear a1 a2 a3 a4 hv1)
  go_upto_region 2 with ((with_reducible refine gate_st (p := .tmp 24) rfl ?_); clear q0; refine store_any _ _ _ rfl rfl rfl A1.out rfl (by simp) rfl rfl rfl (by kernel_rfl) ?_; intro W2 hb2 hk2 hg2; have HW2 := Aside0.mk (show W2.heap[g]? = some (.cells #[.string (strOfNums tx ++ strOfNums v), (.slice tA toks.length tC), bv, .int .i64 ((nextK bl k : Nat) : Int)] 75 (0, 0)) from hb2); have q0 : W2.cell? ⟨g, 0, none⟩ = some (.string (strOfNums tx ++ strOfNums v)) := (blk_cell hb2 0).trans rfl; have HV2 := Aside0.mk (Mv.mk (m := g) hk2 hg2); have HK2 := Aside0.mk hk2; clear hb2 hk2 hg2)
  obtain ⟨ST, hST⟩ : ∃ ST, ST = strOfNums tx ++ strOfNums v := ⟨_, rfl⟩
  have HST := Aside0.mk (show ST = strOfNums (tx ++ v) ∧ ST.size = (tx ++ v).length by rw [hST, ← strOf_append]; exact ⟨rfl, strOf_size _⟩)
  rw [← hST] at HW2 q0 ⊢
  clear hST z1
  have HZ := Aside0.mk (blk_new W2 (.cells #[.int .u8 0, .string ⟨#[]⟩, .int .i64 0, .int .i64 0, .bool false, .int .i64 0, .int .i64 0] 37))
  have HWZ := Aside0.mk (blk_below HW2.out (below_alloc (Below.refl W2.heap.size W2) (.cells #[.int .u8 0, .string ⟨#[]⟩, .int .i64 0, .int .i64 0, .bool false, .int .i64 0, .int .i64 0] 37)))
  have HVZ := Aside0.mk (HV2.out.alloc (Nat.le_of_lt (blk_lt HW2.out)) (.cells #[.int .u8 0, .string ⟨#[]⟩, .int .i64 0, .int .i64 0, .bool false, .int .i64 0, .int .i64 0] 37))
  have HTB := Aside0.mk (show g < W2.heap.size from blk_lt HW2.out)
  have HGW := Aside0.mk (show g < w1.heap.size from blk_lt A1.out)
  have HTW := Aside0.mk (show w1.heap.size ≤ W2.heap.size from HV2.out.size)
  have HR2 := Aside0.mk (Kd.R_mono (ok' := fun k => k ≠ W2.heap.size) (Kd.R_bound (Kd.R_mono (ok' := fun _ => True) (Kd.R_keep (Kd.R_types A4.out A1.out (by decide)) HK2.out (fun k hk => hk.2)) (fun k hk => trivial))) (fun k hk => by have := hk.2.2.1; omega))
  go_upto_region 3 with ((with_reducible refine gate_st (p := .tmp 14) rfl ?_); refine store_agg _ _ _ rfl rfl rfl [.int .u8 0, .string (strOfNums v), .int .i64 d, .int .i64 i, .bool key, .int .i64 (ST.size : Int), .int .i64 cls] HZ.out rfl (by simp) rfl (by kernel_rfl) (by simp [Value.oneCell']) ?_; intro W3 hb3 hk3 hg3; have HT3 := Aside0.mk hb3; have HW3 := Aside0.mk (hk3.blk HWZ.out (by have := HTB.out; omega) (by simp)); have HV3 := Aside0.mk (HVZ.out.setNew hk3 hg3 HTW.out HGW.out); have HR3 := Aside0.mk (Kd.R_keep (Kd.R_alloc HR2.out (.cells #[.int .u8 0, .string ⟨#[]⟩, .int .i64 0, .int .i64 0, .bool false, .int .i64 0, .int .i64 0] 37)) hk3 (fun k hk => hk)); clear hb3 hk3 hg3)
  have u0 : W3.cell? ⟨W2.heap.size, 0, none⟩ = some (.int .u8 0) := (blk_cell HT3.out 0).trans rfl
  clear q0
  rcases HDL.out with ⟨rfl, r, rfl, hd0, hd1⟩ | ⟨rfl, rfl⟩
  · have sh := str_head dl r hd0 hd1
    have sz0 : 0 < (strOfNums (dl :: r)).size := by rw [strOf_size]; simp
    go_upto_region 4 with (fail)
    go_upto_region 5 with ((with_reducible refine gate_st (p := .tmp 39) rfl ?_); refine store_any _ _ _ rfl rfl rfl (u := .int .u8 dl) HT3.out rfl (by simp) rfl rfl rfl (by kernel_rfl) ?_; intro W4 hb4 hk4 hg4; have HT4 := Aside0.mk (show W4.heap[W2.heap.size]? = some (.cells #[.int .u8 dl, .string (strOfNums (dl :: r)), .int .i64 d, .int .i64 i, .bool key, .int .i64 (ST.size : Int), .int .i64 cls] 37 (0, 0)) from hb4.trans rfl); have HW4 := Aside0.mk (hk4.blk HW3.out (by have := HTB.out; omega) (by simp)); have HV4 := Aside0.mk (HV3.out.setNew hk4 hg4 HTW.out HGW.out); have HR4 := Aside0.mk (Kd.R_keep HR3.out hk4 (fun k hk => hk)); clear hb4 hk4 hg4)
    clear u0 HT3 HW3 HV3 HR3 sh sz0
    have b0 := HT4.out
    have s1 : W4.drew.cell? ⟨g, 1, none⟩ = some (.slice tA toks.length tC) := (blk_cell HW4.out 1).trans rfl
    have t0 : W4.drew.cell? ⟨W2.heap.size, 0, none⟩ = some (.int .u8 dl) := (blk_cell b0 0).trans rfl
    have t1 : W4.drew.cell? ⟨W2.heap.size, 1, none⟩ = some (.string (strOfNums (dl :: r))) := (blk_cell b0 1).trans rfl
    have t2 : W4.drew.cell? ⟨W2.heap.size, 2, none⟩ = some (.int .i64 d) := (blk_cell b0 2).trans rfl
    have t3 : W4.drew.cell? ⟨W2.heap.size, 3, none⟩ = some (.int .i64 i) := (blk_cell b0 3).trans rfl
    have t4 : W4.drew.cell? ⟨W2.heap.size, 4, none⟩ = some (.bool key) := (blk_cell b0 4).trans rfl
    have t5 : W4.drew.cell? ⟨W2.heap.size, 5, none⟩ = some (.int .i64 (ST.size : Int)) := (blk_cell b0 5).trans rfl
    have t6 : W4.drew.cell? ⟨W2.heap.size, 6, none⟩ = some (.int .i64 cls) := (blk_cell b0 6).trans rfl
    have a1 : (W4.drew.alloc (.cells #[.int .u8 dl, .string (strOfNums (dl :: r)), .int .i64 d, .int .i64 i, .bool key, .int .i64 (ST.size : Int), .int .i64 cls] 37)).cell? ⟨g, 1, none⟩ = some (.slice tA toks.length tC) := (blk_cell (blk_below (show W4.drew.heap[g]? = _ from HW4.out) (below_alloc (Below.refl _ _) _)) 1).trans rfl
    have a2 := show (W4.alloc (.cells #[.int .u8 dl, .string (strOfNums (dl :: r)), .int .i64 d, .int .i64 i, .bool key, .int .i64 (ST.size : Int), .int .i64 cls] 37)).drew.cell? ⟨g, 1, none⟩ = some (.slice tA toks.length tC) from a1
    have HSZ4 := Aside0.mk (show w1.heap.size ≤ W4.heap.size ∧ g < W4.heap.size ∧ W2.heap.size < W4.heap.size from ⟨HV4.out.size, blk_lt HW4.out, blk_lt HT4.out⟩)
    have HRd := Aside0.mk (Kd.R_drew HR4.out)
    clear b0
    go_region_law (refine Kd.R_append_step k37 (w0 := W4.drew) base (by simp [Region.wanted]) (.tmp 44) (.tmp 46) 23 37 (.agg #[.int .u8 0, .string ⟨#[]⟩, .int .i64 0, .int .i64 0, .bool false, .int .i64 0, .int .i64 0]) 64 rfl Tryd.underlying23 info37 rfl (by decide) (by decide) (.slice tA toks.length tC) toks ⟨dl, strOfNums (dl :: r), d, i, key, (ST.size : Int), cls⟩ [.int .u8 dl, .string (strOfNums (dl :: r)), .int .i64 d, .int .i64 i, .bool key, .int .i64 (ST.size : Int), .int .i64 cls] (fun k => k ≠ W2.heap.size) (fun k => W4.heap.size ≤ k) (by rfl) (by rfl) (k37_mkM _ _ _ _) (fun k hk => ⟨by have := HSZ4.out; omega, fun h => by have := Kd.R_lt HR4.out k h.symm; omega⟩) (fun k hk => by have := HSZ4.out; have : W4.heap.size ≤ k := hk; omega) HRd.out (Below.refl _ _) (show base ≤ W4.heap.size by have := HB.out; have := HSZ4.out; omega) (by have := HQ.out; omega) ?_; intro v9 w9 ho hb hg hat; obtain ⟨A9, C9, h9⟩ := Kd.R_slice ho; rw [List.length_append, List.length_singleton] at h9; subst h9; have HW9 := Aside0.mk (blk_grown (show W4.drew.heap[g]? = _ from HW4.out) hg (Kd.R_away (Kd.R_types HRd.out (show W4.drew.heap[g]? = _ from HW4.out) (by decide)) (g := g) (fun k hk => hk.2))); have HR9 := Aside0.mk ho; have HT9 := Aside0.mk (Tf.of_grown (g := g) hg (Kd.R_typed HRd.out)); have HB9 := Aside0.mk hb; have c9 : w9.cell? ⟨g, 1, none⟩ = some (.slice tA toks.length tC) := (blk_cell HW9.out 1).trans rfl; have f9 := blk_frozen HW9.out 1; clear ho hb hg hat)
    all_goals
      go_wp2_with fail
      go_returns
      refine ⟨rfl, ⟨.slice A9 (toks.length + 1) C9, bv, (blk_set HW9.out 1 _).trans ?_, A2.out.below (((HV4.out.drew.below.mono HB.out.1).trans (HB9.out.mono HB.out.2.2)).trans (((Below.refl g w9).setCell (Nat.le_refl _) _).mono HB.out.1)), A3.out, ?_⟩, ?_, (Tf.of_mv HV1.out).trans ((Tf.of_mv HV4.out.drew).trans (HT9.out.trans (Tf.of_mv (Mv.setCell w9 g 1 _))))⟩
      · rw [HST.out.1, HTX.out, List.append_assoc]; rfl
      · have e : (ST.size : Int) = (((text ++ (blk bl k ++ (dl :: r))).length : Nat) : Int) := by rw [HST.out.2, HTX.out, List.append_assoc]
        have R := Kd.R_set HR9.out HW9.out (by decide) 1 (.slice A9 (toks.length + 1) C9)
        rw [e] at R
        exact Kd.R_mono R (fun _ _ => trivial)
      · exact ((HV1.out.below.mono HB.out.2.1).trans ((HV4.out.drew.below.mono HB.out.2.1).trans HB9.out)).trans (((Below.refl g w9).setCell (Nat.le_refl _) _).mono HB.out.2.1)
  · go_upto_region 5 with (fail)
    obtain ⟨W4, hW4⟩ : ∃ W4, W4 = W3 := ⟨_, rfl⟩
    subst hW4
    have HT4 := HT3
    have HW4 := HW3
    have HV4 := HV3
    have HR4 := HR3
    clear u0 HT3 HW3 HV3 HR3
    have b0 := HT4.out
    have s1 : W4.drew.cell? ⟨g, 1, none⟩ = some (.slice tA toks.length tC) := (blk_cell HW4.out 1).trans rfl
    have t0 : W4.drew.cell? ⟨W2.heap.size, 0, none⟩ = some (.int .u8 0) := (blk_cell b0 0).trans rfl
    have t1 : W4.drew.cell? ⟨W2.heap.size, 1, none⟩ = some (.string (strOfNums v)) := (blk_cell b0 1).trans rfl
    have t2 : W4.drew.cell? ⟨W2.heap.size, 2, none⟩ = some (.int .i64 d) := (blk_cell b0 2).trans rfl
    have t3 : W4.drew.cell? ⟨W2.heap.size, 3, none⟩ = some (.int .i64 i) := (blk_cell b0 3).trans rfl
    have t4 : W4.drew.cell? ⟨W2.heap.size, 4, none⟩ = some (.bool key) := (blk_cell b0 4).trans rfl
    have t5 : W4.drew.cell? ⟨W2.heap.size, 5, none⟩ = some (.int .i64 (ST.size : Int)) := (blk_cell b0 5).trans rfl
    have t6 : W4.drew.cell? ⟨W2.heap.size, 6, none⟩ = some (.int .i64 cls) := (blk_cell b0 6).trans rfl
    have a1 : (W4.drew.alloc (.cells #[.int .u8 0, .string (strOfNums v), .int .i64 d, .int .i64 i, .bool key, .int .i64 (ST.size : Int), .int .i64 cls] 37)).cell? ⟨g, 1, none⟩ = some (.slice tA toks.length tC) := (blk_cell (blk_below (show W4.drew.heap[g]? = _ from HW4.out) (below_alloc (Below.refl _ _) _)) 1).trans rfl
    have a2 := show (W4.alloc (.cells #[.int .u8 0, .string (strOfNums v), .int .i64 d, .int .i64 i, .bool key, .int .i64 (ST.size : Int), .int .i64 cls] 37)).drew.cell? ⟨g, 1, none⟩ = some (.slice tA toks.length tC) from a1
    have HSZ4 := Aside0.mk (show w1.heap.size ≤ W4.heap.size ∧ g < W4.heap.size ∧ W2.heap.size < W4.heap.size from ⟨HV4.out.size, blk_lt HW4.out, blk_lt HT4.out⟩)
    have HRd := Aside0.mk (Kd.R_drew HR4.out)
    clear b0
    go_region_law (refine Kd.R_append_step k37 (w0 := W4.drew) base (by simp [Region.wanted]) (.tmp 44) (.tmp 46) 23 37 (.agg #[.int .u8 0, .string ⟨#[]⟩, .int .i64 0, .int .i64 0, .bool false, .int .i64 0, .int .i64 0]) 64 rfl Tryd.underlying23 info37 rfl (by decide) (by decide) (.slice tA toks.length tC) toks ⟨0, strOfNums v, d, i, key, (ST.size : Int), cls⟩ [.int .u8 0, .string (strOfNums v), .int .i64 d, .int .i64 i, .bool key, .int .i64 (ST.size : Int), .int .i64 cls] (fun k => k ≠ W2.heap.size) (fun k => W4.heap.size ≤ k) (by rfl) (by rfl) (k37_mkM _ _ _ _) (fun k hk => ⟨by have := HSZ4.out; omega, fun h => by have := Kd.R_lt HR4.out k h.symm; omega⟩) (fun k hk => by have := HSZ4.out; have : W4.heap.size ≤ k := hk; omega) HRd.out (Below.refl _ _) (show base ≤ W4.heap.size by have := HB.out; have := HSZ4.out; omega) (by have := HQ.out; omega) ?_; intro v9 w9 ho hb hg hat; obtain ⟨A9, C9, h9⟩ := Kd.R_slice ho; rw [List.length_append, List.length_singleton] at h9; subst h9; have HW9 := Aside0.mk (blk_grown (show W4.drew.heap[g]? = _ from HW4.out) hg (Kd.R_away (Kd.R_types HRd.out (show W4.drew.heap[g]? = _ from HW4.out) (by decide)) (g := g) (fun k hk => hk.2))); have HR9 := Aside0.mk ho; have HT9 := Aside0.mk (Tf.of_grown (g := g) hg (Kd.R_typed HRd.out)); have HB9 := Aside0.mk hb; have c9 : w9.cell? ⟨g, 1, none⟩ = some (.slice tA toks.length tC) := (blk_cell HW9.out 1).trans rfl; have f9 := blk_frozen HW9.out 1; clear ho hb hg hat)
    all_goals
      go_wp2_with fail
      go_returns
      refine ⟨rfl, ⟨.slice A9 (toks.length + 1) C9, bv, (blk_set HW9.out 1 _).trans ?_, A2.out.below (((HV4.out.drew.below.mono HB.out.1).trans (HB9.out.mono HB.out.2.2)).trans (((Below.refl g w9).setCell (Nat.le_refl _) _).mono HB.out.1)), A3.out, ?_⟩, ?_, (Tf.of_mv HV1.out).trans ((Tf.of_mv HV4.out.drew).trans (HT9.out.trans (Tf.of_mv (Mv.setCell w9 g 1 _))))⟩
      · rw [HST.out.1, HTX.out, List.append_assoc]; rfl
      · have e : (ST.size : Int) = (((text ++ (blk bl k ++ v)).length : Nat) : Int) := by rw [HST.out.2, HTX.out, List.append_assoc]
        have R := Kd.R_set HR9.out HW9.out (by decide) 1 (.slice A9 (toks.length + 1) C9)
        rw [e] at R
        exact Kd.R_mono R (fun _ _ => trivial)
      · exact ((HV1.out.below.mono HB.out.2.1).trans ((HV4.out.drew.below.mono HB.out.2.1).trans HB9.out)).trans (((Below.refl g w9).setCell (Nat.le_refl _) _).mono HB.out.2.1)
end Go.Proofs.YtekmminmgjoabaaDoor.Js

namespace Go.Proofs.YtekmminmgjoabaaDoor.Js
open Go.RowKit Go.Proofs.YtekmminmgjoabaaDoorW.PrintWords Go.Proofs.YtekmminmgjoabaaDoorW.PrintLast Go.Proofs.YtekmminmgjoabaaDoorW.PrintMore Go.Proofs.YtekmminmgjoabaaDoor.PFnJSTokens
set_option linter.unusedVariables false
set_option linter.unusedSimpArgs false
def kAt (bl : List Int) (m : Nat) : Nat := if bl = [] then 0 else m
theorem kAt_blk (bl : List Int) (m : Nat) : blk bl (kAt bl m) = blk bl m := by
  unfold kAt
  split
  · rename_i h; rw [h]; rfl
  · rfl
theorem kAt_next (bl : List Int) (m : Nat) : nextK bl (kAt bl m) = kAt bl (m + 1) := by
  unfold kAt nextK; split <;> rfl
theorem kAt_le (bl : List Int) (m : Nat) : kAt bl m ≤ m := by unfold kAt; split <;> omega
/-- These tokens are written. -/
def WS (w : World) (B base g : Nat) (bl : List Int) (P : List Tk) : Prop := WrAt w B base g bl (wtext bl P 0) ((wtoks bl P 0 0).map toS) (kAt bl P.length)
/-- Room for them. -/
def Room (P : List Tk) : Prop := vlen P + 3 * P.length < 50000000
theorem Room.left {P Q : List Tk} (h : Room (P ++ Q)) : Room P := by unfold Room at *; rw [vlen_append, List.length_append] at h; omega
theorem Room.mid {P C X R : List Tk} (h : Room (P ++ ((C ++ X) ++ R))) : Room (P ++ C) ∧ Room ((P ++ C) ++ X) := by
  have h2 : Room ((P ++ C) ++ X) := Room.left (Q := R) (by rw [List.append_assoc, List.append_assoc, ← List.append_assoc C]; exact h)
  exact ⟨h2.left, h2⟩
theorem toS_new (t : Tk) (n : Nat) : newS t.delim t.val t.depth t.index t.key n t.cls = toS (t, (n : Int)) := rfl
def WPost (w : World) (B base g : Nat) (bl : List Int) (P : List Tk) (e : Ending) (w' : World) : Prop := e = .returned (.tuple #[]) ∧ WS w' B base g bl P ∧ Below base w w' ∧ Tf w w' g
theorem token_ws (w : World) (B base g : Nat) (bl : List Int) (P : List Tk) (t : Tk) (db : Bool) (hB : B ≤ base) (hb : base ≤ g) (hr : Room (P ++ [t])) (hdl : (db = true ∧ ∃ r, t.val = t.delim :: r ∧ 0 ≤ t.delim ∧ t.delim ≤ 255) ∨ (db = false ∧ t.delim = 0)) (h : WS w B base g bl P) :
    Calls Tryd.prog 76 #[.pointer (some ⟨g, 0, none⟩), .string (strOfNums t.val), .bool db, .int .i64 t.depth, .int .i64 t.index, .int .i64 t.cls, .bool t.key] w (WPost w B base g bl (P ++ [t])) := by
  have h1 := wtext_len bl P 0
  have h2 := kAt_le bl P.length
  have h3 := wtoks_length bl P 0 0
  unfold Room at hr
  rw [vlen_append, List.length_append] at hr
  simp only [vlen, List.length_cons, List.length_nil] at hr
  refine (token_go w B base g bl _ _ _ t.delim t.val db t.depth t.index t.key t.cls hB hb (by omega) (by omega) (by omega) (by rw [List.length_map]; omega) hdl h).mono ?_
  rintro e w' ⟨rfl, hw, hbl, htf⟩
  refine ⟨rfl, ?_, hbl, htf⟩
  rw [kAt_next, kAt_blk, toS_new] at hw
  unfold WS
  rw [wtext_snoc, wtoks_snoc, List.map_append, List.length_append, Nat.zero_add]
  rw [wtext_snoc, Nat.zero_add, Int.zero_add]
  exact hw
theorem delim_ws (w : World) (B base g : Nat) (bl : List Int) (P : List Tk) (c d i k : Int) (s : ByteArray) (hs : s = strOfNums [c]) (hc : 0 ≤ c ∧ c ≤ 255) (hB : B ≤ base) (hb : base ≤ g) (hr : Room (P ++ [tkDelim c d i k])) (h : WS w B base g bl P) :
    Calls Tryd.prog 76 #[.pointer (some ⟨g, 0, none⟩), .string s, .bool true, .int .i64 d, .int .i64 i, .int .i64 k, .bool false] w (WPost w B base g bl (P ++ [tkDelim c d i k])) := by
  rw [hs]
  exact token_ws w B base g bl P (tkDelim c d i k) true hB hb hr (Or.inl ⟨rfl, [], rfl, hc.1, hc.2⟩) h
theorem value_ws (w : World) (B base g : Nat) (bl : List Int) (P : List Tk) (v : List Int) (d i k : Int) (key : Bool) (hB : B ≤ base) (hb : base ≤ g) (hr : Room (P ++ [⟨0, v, d, i, key, k⟩])) (h : WS w B base g bl P) :
    Calls Tryd.prog 76 #[.pointer (some ⟨g, 0, none⟩), .string (strOfNums v), .bool false, .int .i64 d, .int .i64 i, .int .i64 k, .bool key] w (WPost w B base g bl (P ++ [⟨0, v, d, i, key, k⟩])) :=
  token_ws w B base g bl P ⟨0, v, d, i, key, k⟩ false hB hb hr (Or.inr ⟨rfl, rfl⟩) h
theorem itoks_long (ob : Bool) (d : Int) : ∀ (items : List JN) (keys : List (List Int)) (j : Int), (∀ x ∈ items, ∀ d i, 0 < (x.toks d i).length) → items.length ≤ (JN.itoks items keys ob d j).length := by
  intro items
  induction items with
  | nil => intro keys j h; simp
  | cons x xs ih =>
    intro keys j h
    have h1 := h x List.mem_cons_self (d + 1) j
    have h2 := ih keys.tail (j + 1) (fun y hy => h y (List.mem_cons_of_mem _ hy))
    rw [JN.itoks]
    simp only [List.length_append, List.length_cons]
    omega
theorem toks_pos (n : JN) (d i : Int) : 0 < (n.toks d i).length := by
  cases n with
  | mk k t items keys =>
    rw [JN.toks]
    split
    · simp
    · split <;> simp
/-- A value's cells, by what lies below a base. -/
theorem FK_open {w : World} {ok : Nat → Prop} {n : JN} {cs : List Value} (h : Kd.FK kJ w ok n cs) : ∃ A c A' c', cs = [.int .i64 n.kind, .string (strOfNums n.text), .slice A n.items.length c, .slice A' n.keys.length c'] ∧ n.items.length ≤ c ∧ n.keys.length ≤ c' ∧ Kd.F kJ w ok A n.items.length n.items ∧ Kd.F Kd.string w ok A' n.keys.length (n.keys.map strOfNums) := by
  obtain ⟨A, c, A', c', rfl, h1, -, h2, -⟩ := kJ_open (Kd.FK_now h)
  refine ⟨A, c, A', c', rfl, h1, h2, fun W hW => ?_, fun W hW => ?_⟩
  · obtain ⟨A1, c1, A2, c2, e, -, h4, -, h6⟩ := kJ_open (h W hW)
    simp only [List.cons.injEq, Value.slice.injEq, and_true, true_and] at e
    obtain ⟨⟨rfl, -⟩, rfl, -⟩ := e
    exact h4
  · obtain ⟨A1, c1, A2, c2, e, -, h4, -, h6⟩ := kJ_open (h W hW)
    simp only [List.cons.injEq, Value.slice.injEq, and_true, true_and] at e
    obtain ⟨⟨rfl, -⟩, rfl, -⟩ := e
    exact h6
theorem itoks_step (ob : Bool) (d : Int) (items : List JN) (keys : List (List Int)) (j : Nat) (x : JN) (hx : items[j]? = some x) :
    JN.itoks (items.drop j) (keys.drop j) ob d j = ((if 0 < j then [tkDelim 44 (d + 1) ((j : Int) - 1) 0] else []) ++ ((if ob then [⟨0, keys.getD j [], d + 1, j, true, 4⟩, tkDelim 58 (d + 1) j 0] else []) ++ x.toks (d + 1) j)) ++ JN.itoks (items.drop (j + 1)) (keys.drop (j + 1)) ob d ((j + 1 : Nat) : Int) := by
  obtain ⟨hl, e⟩ := List.getElem?_eq_some_iff.1 hx
  rw [List.drop_eq_getElem_cons hl, e, JN.itoks, List.tail_drop, Int.natCast_add]
  have e2 : (keys.drop j).headD [] = keys.getD j [] := by
    rw [List.headD_eq_head?_getD, List.head?_drop, List.getD_eq_getElem?_getD]
  rw [e2]
  simp [Int.natCast_pos]
/-- Item j of a row of values that is read. -/
theorem item_at {w : World} {ok : Nat → Prop} {A : Option Addr} {items : List JN} {j : Nat} {x : JN} (h : Kd.F kJ w ok A items.length items) (hx : items[j]? = some x) :
    ∃ ad A1 c1 A2 c2, A = some ad ∧ Kd.FK kJ w ok x [.int .i64 x.kind, .string (strOfNums x.text), .slice A1 x.items.length c1, .slice A2 x.keys.length c2] ∧ w.cell? (ad.add (j * 4)) = some (.int .i64 x.kind) ∧ w.cell? ⟨(ad.add (j * 4)).block, (ad.add (j * 4)).off + 1, none⟩ = some (.string (strOfNums x.text)) ∧ w.cell? ⟨(ad.add (j * 4)).block, (ad.add (j * 4)).off + 2, none⟩ = some (.slice A1 x.items.length c1) ∧ w.cell? ⟨(ad.add (j * 4)).block, (ad.add (j * 4)).off + 3, none⟩ = some (.slice A2 x.keys.length c2) := by
  obtain ⟨hl, e⟩ := List.getElem?_eq_some_iff.1 hx
  obtain ⟨ad, c4, rfl, h4, hf, hc, -⟩ := Kd.F_get h (.mk 0 [] [] []) (j : Int) (by omega) (by omega)
  rw [show items.getD ((j : Int)).toNat (.mk 0 [] [] []) = x by simp [hl, e]] at hf
  have hc : ∀ q u, c4[q]? = some u → w.cell? (ad.add (j * 4 + q)) = some u := by
    intro q u hq
    have := hc q u hq
    rw [kJ_sz] at this
    simpa using this
  obtain ⟨A1, c1, A2, c2, rfl, -⟩ := FK_open hf
  exact ⟨ad, A1, c1, A2, c2, rfl, hf, hc 0 _ rfl, by rw [← add_field _ _ 1 (by omega)]; exact hc 1 _ rfl, by rw [← add_field _ _ 2 (by omega)]; exact hc 2 _ rfl, by rw [← add_field _ _ 3 (by omega)]; exact hc 3 _ rfl⟩
theorem key_at {w : World} {ok : Nat → Prop} {A : Option Addr} {keys : List (List Int)} {j : Nat} (h : Kd.F Kd.string w ok A keys.length (keys.map strOfNums)) (hj : j < keys.length) :
    ∃ ad, A = some ad ∧ w.cell? (ad.add j) = some (.string (strOfNums (keys.getD j []))) := by
  obtain ⟨ad, c, rfl, h4, hf, hc, -⟩ := Kd.F_get h (strOfNums []) (j : Int) (by omega) (by omega)
  refine ⟨ad, rfl, ?_⟩
  have e : c = [.string ((keys.map strOfNums).getD ((j : Int)).toNat (strOfNums []))] := Kd.FK_now hf
  have := hc 0 _ (by rw [e]; rfl)
  rw [show (Kd.string).sz = 1 from rfl] at this
  simp only [Int.toNat_natCast, Nat.mul_one, Nat.add_zero] at this
  rw [this, List.getD_eq_getElem?_getD, List.getD_eq_getElem?_getD, List.getElem?_map]
  cases keys[j]? <;> rfl
/-- A value is written. -/
def NodeW (n : JN) : Prop := ∀ (w : World) (B base g : Nat) (bl : List Int) (P : List Tk) (d i : Int) (cs : List Value), B ≤ base → base ≤ g → Room (P ++ n.toks d i) → 0 ≤ d → d + (n.toks d i).length < 1000000000 → Kd.FK kJ w (fun k => k < base) n cs → WS w B base g bl P →
  Calls Tryd.prog 42 #[.pointer (some ⟨g, 0, none⟩), .agg cs.toArray, .int .i64 d, .int .i64 i] w (WPost w B base g bl (P ++ n.toks d i))
end Go.Proofs.YtekmminmgjoabaaDoor.Js

namespace Go.Proofs.YtekmminmgjoabaaDoor.Js
open Go.RowKit Go.Proofs.YtekmminmgjoabaaDoorW.PrintWords Go.Proofs.YtekmminmgjoabaaDoorW.PrintLast Go.Proofs.YtekmminmgjoabaaDoorW.PrintMore Go.Proofs.YtekmminmgjoabaaDoor.PFnJSTokens
set_option linter.unusedVariables false
set_option linter.unusedSimpArgs false
set_option maxHeartbeats 4000000 in
set_option maxRecDepth 100000 in
theorem leaf_w (k : Int) (t : List Int) (items : List JN) (keys : List (List Int)) (hk : k < 5) (hk0 : 0 ≤ k) : NodeW (.mk k t items keys) := by
  intro w B base g bl P d i cs hB hb hr hd hd2 hf hw
  obtain ⟨A, c, A', c', rfl, h1, h2, hi, hs⟩ := FK_open hf
  rw [show (JN.mk k t items keys).toks d i = [⟨0, t, d, i, false, k⟩] by rw [JN.toks, if_pos hk]] at hr ⊢
  have hg : g < w.heap.size := by obtain ⟨_, _, h, -⟩ := hw; exact blk_lt h
  obtain ⟨w1, hw1⟩ : ∃ w1, w1 = w.alloc (.cells #[.int .i64 (JN.mk k t items keys).kind, .string (strOfNums (JN.mk k t items keys).text), .slice A (JN.mk k t items keys).items.length c, .slice A' (JN.mk k t items keys).keys.length c'] 29) := ⟨_, rfl⟩
  have hbl := below_alloc (Below.refl w.heap.size w) (.cells #[.int .i64 (JN.mk k t items keys).kind, .string (strOfNums (JN.mk k t items keys).text), .slice A (JN.mk k t items keys).items.length c, .slice A' (JN.mk k t items keys).keys.length c'] 29)
  have hbn := blk_new w (.cells #[.int .i64 (JN.mk k t items keys).kind, .string (strOfNums (JN.mk k t items keys).text), .slice A (JN.mk k t items keys).items.length c, .slice A' (JN.mk k t items keys).keys.length c'] 29)
  rw [← hw1] at hbl hbn
  have hws : WS w1 B base g bl P := by
    obtain ⟨tv, bv, a1, a2, a3, a4⟩ := hw
    exact ⟨tv, bv, blk_below a1 hbl, a2.below (hbl.mono (by omega)), a3, Kd.R_step a4 (fun k _ hk => hbl.block k hk)⟩
  have HT := Aside0.mk (token_ws w1 B base g bl P ⟨0, t, d, i, false, k⟩ false hB hb hr (Or.inr ⟨rfl, rfl⟩) hws)
  have q0 : w1.cell? ⟨w.heap.size, 0, none⟩ = some (.int .i64 k) := (blk_cell hbn 0).trans rfl
  have q1 : w1.cell? ⟨w.heap.size, 1, none⟩ = some (.string (strOfNums t)) := (blk_cell hbn 1).trans rfl
  have HB := Aside0.mk (show Below base w w1 ∧ Tf w w1 g from ⟨hbl.mono (by omega), Tf.of_mv ((Mv.refl w g).aboveB hbl (Nat.le_refl _) (by omega))⟩)
  have HW1 := Aside0.mk hw1
  clear hw1 hB hb hr hd hd2 hf hw hi hs h1 h2 hbl hbn hws
  go_enter Tryd.func42, Tryd.ntmps42
  go_upto_region 1 with (fail)
  rw [← HW1.out]
  clear HW1
  go_wp2_with (go_at_call 76; (with_reducible refine HT.out.mono ?_); rintro e w2 ⟨rfl, hw2, hb2, ht2⟩; have HW2 := Aside0.mk hw2; have HB2 := Aside0.mk hb2; have HT2 := Aside0.mk ht2; clear hw2 hb2 ht2)
  go_returns
  exact ⟨rfl, HW2.out, HB.out.1.trans HB2.out, HB.out.2.trans HT2.out⟩
end Go.Proofs.YtekmminmgjoabaaDoor.Js

