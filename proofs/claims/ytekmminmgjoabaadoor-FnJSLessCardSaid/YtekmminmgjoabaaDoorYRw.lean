/- Two rows of tokens are the same; blanks; the sentence that the definition is awake. -/
import Derived.Test.YtekmminmgjoabaaDoorYRv
import Derived.Test.YtekmminmgjoabaaDoorYKk
namespace Go.Proofs.YtekmminmgjoabaaDoor.Js
open Go.RowKit Go.Proofs.YtekmminmgjoabaaDoorW.PrintWords Go.Proofs.YtekmminmgjoabaaDoorW.PrintLast Go.Proofs.YtekmminmgjoabaaDoorW.PrintMore Go.Proofs.YtekmminmgjoabaaDoor.PFnJSTokens
set_option linter.unusedVariables false
set_option linter.unusedSimpArgs false
theorem row37 {w : World} {base : Nat} {v : Value} {xs : List S37} (h : k37.R 37 w base (fun _ => True) v xs) : ∃ A c, v = .slice A xs.length c ∧ (∀ j x, xs[j]? = some x → ∃ g, A = some ⟨g, 0, none⟩ ∧ w.cell? ⟨g, j * 7, none⟩ = some (.int .u8 x.f0) ∧ w.cell? ⟨g, j * 7 + 1, none⟩ = some (.string x.f1) ∧ w.cell? ⟨g, j * 7 + 2, none⟩ = some (.int .i64 x.f2) ∧ w.cell? ⟨g, j * 7 + 3, none⟩ = some (.int .i64 x.f3) ∧ w.cell? ⟨g, j * 7 + 4, none⟩ = some (.bool x.f4) ∧ w.cell? ⟨g, j * 7 + 5, none⟩ = some (.int .i64 x.f5) ∧ w.cell? ⟨g, j * 7 + 6, none⟩ = some (.int .i64 x.f6)) := by
  obtain ⟨A, c, rfl⟩ := Kd.R_slice h
  refine ⟨A, c, rfl, fun j x hx => ?_⟩
  have hj : j < xs.length := (List.getElem?_eq_some_iff.1 hx).1
  obtain ⟨g, cap, he, -, -, -⟩ := Kd.R_form h (by omega)
  injection he with e1 e2 e3
  subst e1
  obtain ⟨cs, hcl, hM, hcc, -⟩ := Kd.R_elem h x (j : Int) (by omega) (by omega)
  have hget : xs.getD ((j : Int)).toNat x = x := by
    rw [Int.toNat_natCast, List.getD_eq_getElem?_getD, hx]; rfl
  rw [hget] at hM
  obtain rfl := k37_open (Kd.K_of_M _ hM)
  have hc : ∀ i u, [Value.int .u8 x.f0, .string x.f1, .int .i64 x.f2, .int .i64 x.f3, .bool x.f4, .int .i64 x.f5, .int .i64 x.f6][i]? = some u → w.cell? ⟨g, j * 7 + i, none⟩ = some u := fun i u hu => by
    have := hcc i u hu
    rw [Int.toNat_natCast] at this
    exact this
  exact ⟨g, rfl, hc 0 _ rfl, hc 1 _ rfl, hc 2 _ rfl, hc 3 _ rfl, hc 4 _ rfl, hc 5 _ rfl, hc 6 _ rfl⟩
theorem Sl_of_C {w : World} {A : Option Addr} {c : Nat} {zs : List Int} (h : (Kd.int .u8).C w A zs.length zs) (h0 : 0 < zs.length) (hc : zs.length ≤ c) : Sl w w.heap.size (.slice A zs.length c) zs := by
  refine ⟨A, c, rfl, hc, fun hne ad he => ?_, h⟩
  obtain ⟨ad', e, hcc⟩ := h.2.2 h0
  rw [he] at e
  injection e with e
  subst e
  obtain ⟨cs, e1, e2, e3⟩ := hcc 0 _ (List.getElem?_eq_getElem h0)
  have e2 : cs = [.int .u8 _] := e2
  subst e2
  have := World.block_lt_of_cell? w _ (e3 0 _ rfl)
  rw [add_block] at this
  exact this
/-- The sentence that the definition is awake: its value. -/
def awakeN : JN := .mk 5 [] [.mk 3 [55] [] []] []
theorem awake_ok : JOk awakeN := .arr (fun x hx => by
  simp at hx
  subst hx
  exact .leaf (.num (Num.mk (s := []) (i := [55]) (f := []) (e := []) (.inl rfl) (.inr ⟨⟨by simp, by simp [Digit]⟩, 55, [], rfl, by decide⟩) (.inl rfl) (.inl rfl))))
theorem awake_text : sfx [] (awakeN.toks 0 0) 0 = [91, 55, 93] := by decide
set_option maxHeartbeats 4000000 in
set_option maxRecDepth 100000 in
theorem awake_calls (w : World) (ht : Tab w) : Calls Tryd.prog 19 #[] w fun e w' => e = .returned (.bool true) ∧ Below w.heap.size w w' := by
  have hrun := run_node awake_ok []
  rw [awake_text] at hrun
  have hbl : blk [] (awakeN.toks 0 0).length = [] := by unfold blk; rw [if_pos rfl]
  rw [hbl] at hrun
  have HJ := Aside0.mk (fun (W : World) (A : Option Addr) (c : Nat) (hb : Below w.heap.size w W) (hs : Sl W W.heap.size (.slice A 3 c) [91, 55, 93]) =>
    jsTok W A 3 c [91, 55, 93] [] ⟨[], false⟩ _ true hs (by intro x hx; simp at hx; rcases hx with rfl | rfl | rfl <;> decide) (by decide) hrun (by decide) (ht.below hb) (fun W' T p q hT hb' hst _ => end_last W' W.heap.size T _ _ p q hT hst (by intro c hc; simp at hc)))
  have HB := Aside0.mk (Below.refl w.heap.size w)
  clear hrun hbl
  go_enter Tryd.func19, Tryd.ntmps19
  go_upto_region 2 with (first
    | ((with_reducible refine gate_dst (N := 4) rfl ?_); (try (refine gate_guard (by rfl) ?_; dsimp only)); refine mark_lit (xs := [91, 55, 93]) (w0 := w) Tryd.underlying22 Tryd.underlying5 (by decide) (by decide) ?hg (N := 4) ?hd HB.out ?hr ?_; (case hd => rfl); (case hg => rfl); (case hr => first | (go_simp; done) | (go_simp; rfl)); intro A0 c0 w1 w0 hcv0 hC hle hb hB2; have hcv1 : (convert 22 22 (.slice A0 3 c0)).run Tryd.prog w1 = .ok (.slice A0 3 c0) w0 := hcv0; clear hcv0; have HC0 := Aside0.mk hC; have HL0 := Aside0.mk hle; have HB2 := Aside0.mk hB2; clear hB2 hb hC hle)
    | (go_at_call 18; (with_reducible refine (HJ.out _ _ _ HB2.out (Sl_of_C HC0.out (by decide) HL0.out)).mono ?_); rintro e w3 ⟨v, rfl, hr, hb3⟩; have HR := Aside0.mk hr; have HB3 := Aside0.mk (HB2.out.trans (hb3.mono HB2.out.size)); clear hr hb3))
  obtain ⟨A, c, rfl, hc⟩ := row37 HR.out
  obtain ⟨g, rfl, -, a1, a2, -⟩ := hc 1 (toS (⟨0, [55], 1, 0, false, 3⟩, 1)) rfl
  obtain ⟨g', e, a3, -⟩ := hc 2 (toS (tkDelim 93 0 0 0, 0)) rfl
  injection e with e
  injection e with e
  subst e
  have q1 : w3.cell? ⟨g, 8, none⟩ = some (.string ⟨#[55]⟩) := a1.trans rfl
  have q2 : w3.cell? ⟨g, 9, none⟩ = some (.int .i64 1) := a2.trans rfl
  have q3 : w3.cell? ⟨g, 14, none⟩ = some (.int .u8 93) := a3.trans rfl
  have hl : (List.map toS (btoks [] (awakeN.toks 0 0) 0)).length = 3 := rfl
  rw [hl] at HR ⊢
  clear hc a1 a2 a3 hl
  go_wp2
  go_ret
  exact ⟨rfl, HB3.out⟩
end Go.Proofs.YtekmminmgjoabaaDoor.Js

