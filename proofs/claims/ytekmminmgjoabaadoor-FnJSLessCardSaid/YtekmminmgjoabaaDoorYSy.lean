/- Beginnings of texts; a number that is cut. Written by cutv.py: parseValue over nothing, over null, true, false that are cut, and over what its parser refuses. parseValue over a beginning of a plain value. Printed by cuta.py: an array that is cut is refused. Printed by cuta.py: an object that is cut is refused. json.Parsed and JSParsed over the beginning of a text. -/
import Derived.Test.YtekmminmgjoabaaDoorYSx
import Derived.Test.YtekmminmgjoabaaDoorYSv
import Derived.Test.YtekmminmgjoabaaDoorYSp
namespace Go.Proofs.YtekmminmgjoabaaDoor.Js
open Go.RowKit Go.Proofs.YtekmminmgjoabaaDoorW.PrintWords Go.Proofs.YtekmminmgjoabaaDoorW.PrintLast Go.Proofs.YtekmminmgjoabaaDoorW.PrintMore Go.Proofs.YtekmminmgjoabaaDoor.PFnJSTokens
set_option linter.unusedVariables false
set_option linter.unusedSimpArgs false
/-- A beginning that is not the whole. -/
def Beg (zs t : List Int) : Prop := ∃ s, t = zs ++ s ∧ s ≠ []
theorem Beg.lt {zs t : List Int} (h : Beg zs t) : zs.length < t.length := by
  obtain ⟨s, rfl, hs⟩ := h
  have := List.length_pos_iff.2 hs
  simp; omega
theorem Beg.getD {zs t : List Int} (h : Beg zs t) (j : Nat) (hj : j < zs.length) : zs.getD j 0 = t.getD j 0 := by
  obtain ⟨s, rfl, -⟩ := h
  rw [getD_left _ _ _ hj]
theorem Beg.nil {zs : List Int} (h : Beg zs []) : False := by have := h.lt; simp at this
theorem Beg.cons {zs t : List Int} {b : Int} (h : Beg zs (b :: t)) : zs = [] ∨ ∃ z, zs = b :: z ∧ Beg z t := by
  obtain ⟨s, hs, hn⟩ := h
  cases zs with
  | nil => exact .inl rfl
  | cons a z =>
    injection hs with h1 h2
    exact .inr ⟨z, by rw [h1], s, h2, hn⟩
theorem Beg.append {zs : List Int} : ∀ {a t : List Int}, Beg zs (a ++ t) → Beg zs a ∨ ∃ z, zs = a ++ z ∧ Beg z t := by
  intro a
  induction a generalizing zs with
  | nil => intro t h; exact .inr ⟨zs, rfl, h⟩
  | cons b a ih =>
    intro t h
    rcases Beg.cons h with rfl | ⟨z, rfl, hz⟩
    · exact .inl ⟨b :: a, rfl, by simp⟩
    · rcases ih hz with ⟨s, rfl, hs⟩ | ⟨y, rfl, hy⟩
      · exact .inl ⟨s, rfl, hs⟩
      · exact .inr ⟨y, rfl, hy⟩
theorem Beg.sub {zs t : List Int} (h : Beg zs t) : ∀ c ∈ zs, c ∈ t := by
  obtain ⟨s, rfl, -⟩ := h
  exact fun c hc => List.mem_append_left _ hc
theorem Beg.one {zs : List Int} {b : Int} (h : Beg zs [b]) : zs = [] := by
  have h1 : zs.length < 1 := h.lt
  exact List.eq_nil_of_length_eq_zero (by omega)
theorem digits_beg {z d : List Int} (h : Beg z d) (hz : z ≠ []) (hd : Digits d) : Digits z := ⟨hz, fun c hc => hd.2 c (h.sub c hc)⟩
/-- Sign and whole part. -/
theorem numc_int {s i y : List Int} (hs : s = [] ∨ s = [45]) (hi : i = [48] ∨ (Digits i ∧ ∃ c t, i = c :: t ∧ c ≠ 48)) :
    ((s.length = 0 ∧ Digit ((s ++ (i ++ y)).getD 0 0)) ∨ (s.length = 1 ∧ (s ++ (i ++ y)).getD 0 0 = 45)) ∧ (s.length < s.length + i.length ∧ Run (s ++ (i ++ y)) s.length (s.length + i.length) ∧ ((s ++ (i ++ y)).getD s.length 0 = 48 → s.length + i.length = s.length + 1)) := by
  have hid : Digits i := by
    rcases hi with rfl | ⟨hi, -⟩
    · exact ⟨by simp, by simp [Digit]⟩
    · exact hi
  constructor
  · obtain ⟨c, i', hc⟩ : ∃ c i', i = c :: i' := by
      cases i with
      | nil => exact absurd rfl hid.1
      | cons c i' => exact ⟨c, i', rfl⟩
    have hd := hid.2 c (by rw [hc]; exact List.mem_cons_self)
    rcases hs with rfl | rfl
    · exact .inl ⟨rfl, by rw [hc]; exact hd⟩
    · exact .inr ⟨rfl, rfl⟩
  · have hl : 0 < i.length := List.length_pos_iff.2 hid.1
    refine ⟨by omega, run_mid hid.2, fun h0 => ?_⟩
    rcases hi with rfl | ⟨-, c, i', hc, hne⟩
    · rfl
    · rw [show s.length = s.length + 0 from rfl, getD_right, hc] at h0
      exact absurd h0 hne
theorem numc_pt {s i : List Int} (hs : s = [] ∨ s = [45]) (hi : i = [48] ∨ (Digits i ∧ ∃ c t, i = c :: t ∧ c ≠ 48)) : NumC (s ++ (i ++ [46])) s.length (s.length + i.length) (s.length + i.length) := by
  have h := numc_int (y := [46]) hs hi
  refine ⟨h.1, h.2, .inl ⟨rfl, by simp; omega, ?_⟩⟩
  rw [← List.append_assoc, ← List.length_append, show (s ++ i).length = (s ++ i).length + 0 from rfl, getD_right]; rfl
theorem numc_ex {s i f sg : List Int} {x : Int} (hs : s = [] ∨ s = [45]) (hi : i = [48] ∨ (Digits i ∧ ∃ c t, i = c :: t ∧ c ≠ 48)) (hf : f = [] ∨ ∃ t, f = 46 :: t ∧ Digits t) (hx : x = 101 ∨ x = 69) (hsg : sg = [] ∨ sg = [43] ∨ sg = [45]) :
    NumC (s ++ (i ++ (f ++ x :: sg))) s.length (s.length + i.length) (s.length + i.length + f.length) := by
  have h := numc_int (y := f ++ x :: sg) hs hi
  have e1 : s ++ (i ++ (f ++ x :: sg)) = (s ++ i ++ f) ++ (x :: sg) := by simp
  have el : s.length + i.length + f.length = (s ++ i ++ f).length := by simp; omega
  refine ⟨h.1, h.2, .inr ⟨?_, ?_, ?_⟩⟩
  · rcases hf with rfl | ⟨d, rfl, hd⟩
    · exact .inl rfl
    · have e1 : s ++ (i ++ ((46 :: d) ++ x :: sg)) = (s ++ i) ++ (46 :: (d ++ x :: sg)) := by simp
      have e2 : s ++ (i ++ ((46 :: d) ++ x :: sg)) = (s ++ i ++ [46]) ++ (d ++ x :: sg) := by simp
      have hl : 0 < d.length := List.length_pos_iff.2 hd.1
      refine .inr ⟨by simp; try omega, ?_, by simp; try omega, ?_⟩
      · rw [e1, ← List.length_append, show (s ++ i).length = (s ++ i).length + 0 from rfl, getD_right]; rfl
      · rw [e2]
        have h := run_mid (x := s ++ i ++ [46]) (y := x :: sg) hd.2
        intro j h1 h2
        exact h j (by simp; omega) (by simp at h2 ⊢; omega)
  · rw [e1, el, show (s ++ i ++ f).length = (s ++ i ++ f).length + 0 from rfl, getD_right]; exact hx
  · rcases hsg with rfl | rfl | rfl
    · exact .inl (by simp; omega)
    · exact .inr ⟨by simp; omega, .inl (by rw [e1, el, getD_right]; rfl)⟩
    · exact .inr ⟨by simp; omega, .inr (by rw [e1, el, getD_right]; rfl)⟩
/-- A number that is cut is a number, or a sign alone, or cut behind its point or within its exponent. -/
theorem num_cut {zs t : List Int} (h : Num t) (hb : Beg zs t) (hz : zs ≠ []) : Num zs ∨ zs = [45] ∨ ∃ p0 p1 p2, NumC zs p0 p1 p2 := by
  cases h with
  | @mk s i f e hs hi hf he =>
  rw [List.append_assoc, List.append_assoc] at hb
  rcases hb.append with hb1 | ⟨z1, rfl, hb1⟩
  · rcases hs with rfl | rfl
    · exact hb1.nil.elim
    · exact absurd hb1.one hz
  clear hb
  rcases hb1.append with hb2 | ⟨z2, rfl, hb2⟩
  · by_cases h1 : z1 = []
    · subst h1
      rcases hs with rfl | rfl
      · exact absurd rfl hz
      · exact .inr (.inl rfl)
    · rcases hi with rfl | ⟨hi, c, t, rfl, hc⟩
      · exact absurd hb2.one h1
      · rcases hb2.cons with h | ⟨z, rfl, -⟩
        · exact absurd h h1
        · have := Num.mk (f := []) (e := []) hs (.inr ⟨digits_beg hb2 h1 hi, c, z, rfl, hc⟩) (.inl rfl) (.inl rfl)
          exact .inl (by simpa using this)
  clear hb1
  rcases hb2.append with hb3 | ⟨z3, rfl, hb3⟩
  · rcases hf with rfl | ⟨d, rfl, hd⟩
    · exact hb3.nil.elim
    · rcases hb3.cons with rfl | ⟨z, rfl, hb4⟩
      · have := Num.mk (f := []) (e := []) hs hi (.inl rfl) (.inl rfl)
        exact .inl (by simpa using this)
      · by_cases h1 : z = []
        · subst h1
          exact .inr (.inr ⟨_, _, _, numc_pt hs hi⟩)
        · have := Num.mk (e := []) hs hi (.inr ⟨z, rfl, digits_beg hb4 h1 hd⟩) (.inl rfl)
          exact .inl (by simpa using this)
  rcases he with rfl | ⟨x, sg, d, rfl, hx, hsg, hd⟩
  · exact hb3.nil.elim
  rcases hb3.cons with rfl | ⟨z, rfl, hb5⟩
  · have := Num.mk (e := []) hs hi hf (.inl rfl)
    exact .inl (by simpa using this)
  rcases hb5.append with hb6 | ⟨z4, rfl, hb6⟩
  · have : z = [] := by
      rcases hsg with rfl | rfl | rfl
      · exact hb6.nil.elim
      · exact hb6.one
      · exact hb6.one
    subst this
    exact .inr (.inr ⟨_, _, _, numc_ex hs hi hf hx (.inl rfl)⟩)
  by_cases h1 : z4 = []
  · subst h1
    rw [List.append_nil]
    exact .inr (.inr ⟨_, _, _, numc_ex hs hi hf hx hsg⟩)
  · have := Num.mk hs hi hf (.inr ⟨x, sg, z4, rfl, hx, hsg, digits_beg hb6 h1 hd⟩)
    exact .inl (by simpa using this)
/-- A string that is cut. -/
theorem str_cut {zs l : List Int} (h : Str l) (hb : Beg zs (34 :: (l ++ [34]))) (hz : zs ≠ []) : zs.getD 0 0 = 34 ∧ StrCut zs 1 l := by
  rcases hb.cons with e | ⟨z, rfl, hb1⟩
  · exact absurd e hz
  refine ⟨rfl, h, fun j hj => ?_⟩
  have hl := hb1.lt
  simp at hl hj
  have e1 : (34 :: z).getD (1 + j) 0 = z.getD j 0 := by rw [Nat.add_comm]; rfl
  refine ⟨by omega, ?_⟩
  rw [e1, hb1.getD j (by omega), getD_left _ _ _ (by omega)]
end Go.Proofs.YtekmminmgjoabaaDoor.Js

namespace Go.Proofs.YtekmminmgjoabaaDoor.Js
open Go.RowKit Go.Proofs.YtekmminmgjoabaaDoorW.PrintWords Go.Proofs.YtekmminmgjoabaaDoorW.PrintLast Go.Proofs.YtekmminmgjoabaaDoorW.PrintMore Go.Proofs.YtekmminmgjoabaaDoor.PFnJSTokens
set_option linter.unusedVariables false
set_option linter.unusedSimpArgs false
set_option maxHeartbeats 4000000 in
set_option maxRecDepth 100000 in
theorem cut_pre_null1 (w : World) (A : Option Addr) (c : Nat) : Calls Tryd.prog 118 #[.slice A 1 c] w fun e w' => e = .returned (.bool false) ∧ w = w' := by
  go_enter Tryd.func118, Tryd.ntmps118
  go_wp2
  go_ret
  exact ⟨rfl, rfl⟩
set_option maxHeartbeats 4000000 in
set_option maxRecDepth 100000 in
theorem cut_null1 (w : World) (B : Nat) (A : Option Addr) (c : Nat) (fl : Int) (zs : List Int) (h : Sl w B (.slice A 1 c) zs) : Calls Tryd.prog 81 #[.agg #[.int .u32 fl], .slice A 1 c] w (FailS w) := by
  obtain ⟨A', hcut, -⟩ := h.next 22 1 .i64 Tryd.underlying22 (Nat.le_refl _)
  have hcut3 : ∀ W : World, (Instr.slice 22 (.slice A 1 c) (some (.int .i64 1)) none none).run Tryd.prog W = .ok (.slice A' 0 (c - 1)) W := hcut
  clear h hcut
  go_enter Tryd.func81, Tryd.ntmps81
  go_upto_region 4 with (go_at_call 118; (with_reducible refine (cut_pre_null1 _ _ _).mono ?_); rintro e w2 ⟨rfl, rfl⟩)
  go_region_with (go_at_call 113; (with_reducible refine (eof_err _ _).mono ?_); rintro e w3 ⟨⟨g, rfl⟩, hb3⟩; have HB3 := Aside0.mk hb3; clear hb3)
  all_goals
    go_wp2_with fail
    go_returns
    exact ⟨_, _, _, g, rfl, by first | exact (below_drew (below_alloc (Below.refl _ _) _)).trans (HB3.out.mono (by simp)) | exact (below_alloc (Below.refl _ _) _).trans (HB3.out.mono (by simp)) | exact below_drew ((below_alloc (Below.refl _ _) _).trans (HB3.out.mono (by simp)))⟩
set_option maxHeartbeats 4000000 in
set_option maxRecDepth 100000 in
theorem cut_pre_null2 (w : World) (A : Option Addr) (c : Nat) : Calls Tryd.prog 118 #[.slice A 2 c] w fun e w' => e = .returned (.bool false) ∧ w = w' := by
  go_enter Tryd.func118, Tryd.ntmps118
  go_wp2
  go_ret
  exact ⟨rfl, rfl⟩
set_option maxHeartbeats 4000000 in
set_option maxRecDepth 100000 in
theorem cut_null2 (w : World) (B : Nat) (A : Option Addr) (c : Nat) (fl : Int) (zs : List Int) (h : Sl w B (.slice A 2 c) zs) : Calls Tryd.prog 81 #[.agg #[.int .u32 fl], .slice A 2 c] w (FailS w) := by
  obtain ⟨A', hcut, -⟩ := h.next 22 2 .i64 Tryd.underlying22 (Nat.le_refl _)
  have hcut3 : ∀ W : World, (Instr.slice 22 (.slice A 2 c) (some (.int .i64 2)) none none).run Tryd.prog W = .ok (.slice A' 0 (c - 2)) W := hcut
  clear h hcut
  go_enter Tryd.func81, Tryd.ntmps81
  go_upto_region 4 with (go_at_call 118; (with_reducible refine (cut_pre_null2 _ _ _).mono ?_); rintro e w2 ⟨rfl, rfl⟩)
  go_region_with (go_at_call 113; (with_reducible refine (eof_err _ _).mono ?_); rintro e w3 ⟨⟨g, rfl⟩, hb3⟩; have HB3 := Aside0.mk hb3; clear hb3)
  all_goals
    go_wp2_with fail
    go_returns
    exact ⟨_, _, _, g, rfl, by first | exact (below_drew (below_alloc (Below.refl _ _) _)).trans (HB3.out.mono (by simp)) | exact (below_alloc (Below.refl _ _) _).trans (HB3.out.mono (by simp)) | exact below_drew ((below_alloc (Below.refl _ _) _).trans (HB3.out.mono (by simp)))⟩
set_option maxHeartbeats 4000000 in
set_option maxRecDepth 100000 in
theorem cut_pre_null3 (w : World) (A : Option Addr) (c : Nat) : Calls Tryd.prog 118 #[.slice A 3 c] w fun e w' => e = .returned (.bool false) ∧ w = w' := by
  go_enter Tryd.func118, Tryd.ntmps118
  go_wp2
  go_ret
  exact ⟨rfl, rfl⟩
set_option maxHeartbeats 4000000 in
set_option maxRecDepth 100000 in
theorem cut_null3 (w : World) (B : Nat) (A : Option Addr) (c : Nat) (fl : Int) (zs : List Int) (h : Sl w B (.slice A 3 c) zs) : Calls Tryd.prog 81 #[.agg #[.int .u32 fl], .slice A 3 c] w (FailS w) := by
  obtain ⟨A', hcut, -⟩ := h.next 22 3 .i64 Tryd.underlying22 (Nat.le_refl _)
  have hcut3 : ∀ W : World, (Instr.slice 22 (.slice A 3 c) (some (.int .i64 3)) none none).run Tryd.prog W = .ok (.slice A' 0 (c - 3)) W := hcut
  clear h hcut
  go_enter Tryd.func81, Tryd.ntmps81
  go_upto_region 4 with (go_at_call 118; (with_reducible refine (cut_pre_null3 _ _ _).mono ?_); rintro e w2 ⟨rfl, rfl⟩)
  go_region_with (go_at_call 113; (with_reducible refine (eof_err _ _).mono ?_); rintro e w3 ⟨⟨g, rfl⟩, hb3⟩; have HB3 := Aside0.mk hb3; clear hb3)
  all_goals
    go_wp2_with fail
    go_returns
    exact ⟨_, _, _, g, rfl, by first | exact (below_drew (below_alloc (Below.refl _ _) _)).trans (HB3.out.mono (by simp)) | exact (below_alloc (Below.refl _ _) _).trans (HB3.out.mono (by simp)) | exact below_drew ((below_alloc (Below.refl _ _) _).trans (HB3.out.mono (by simp)))⟩
theorem cut_null (w : World) (B : Nat) (v : Value) (fl : Int) (zs : List Int) (h1 : 1 ≤ zs.length) (h2 : zs.length < 4) (h : Sl w B v zs) : Calls Tryd.prog 81 #[.agg #[.int .u32 fl], v] w (FailS w) := by
  obtain ⟨A, c, rfl, -⟩ := h.form
  obtain ⟨n, hn⟩ : ∃ n, n = zs.length := ⟨_, rfl⟩
  rw [← hn] at h ⊢
  rcases (by omega : n = 1 ∨ n = 2 ∨ n = 3) with e | e | e
  · subst e; exact cut_null1 w B A c fl zs h
  · subst e; exact cut_null2 w B A c fl zs h
  · subst e; exact cut_null3 w B A c fl zs h
set_option maxHeartbeats 4000000 in
set_option maxRecDepth 100000 in
theorem cut_pre_yes1 (w : World) (A : Option Addr) (c : Nat) : Calls Tryd.prog 119 #[.slice A 1 c] w fun e w' => e = .returned (.bool false) ∧ w = w' := by
  go_enter Tryd.func119, Tryd.ntmps119
  go_wp2
  go_ret
  exact ⟨rfl, rfl⟩
set_option maxHeartbeats 4000000 in
set_option maxRecDepth 100000 in
theorem cut_yes1 (w : World) (B : Nat) (A : Option Addr) (c : Nat) (fl : Int) (zs : List Int) (h : Sl w B (.slice A 1 c) zs) : Calls Tryd.prog 82 #[.agg #[.int .u32 fl], .slice A 1 c] w (FailS w) := by
  obtain ⟨A', hcut, -⟩ := h.next 22 1 .i64 Tryd.underlying22 (Nat.le_refl _)
  have hcut3 : ∀ W : World, (Instr.slice 22 (.slice A 1 c) (some (.int .i64 1)) none none).run Tryd.prog W = .ok (.slice A' 0 (c - 1)) W := hcut
  clear h hcut
  go_enter Tryd.func82, Tryd.ntmps82
  go_upto_region 4 with (go_at_call 119; (with_reducible refine (cut_pre_yes1 _ _ _).mono ?_); rintro e w2 ⟨rfl, rfl⟩)
  go_region_with (go_at_call 113; (with_reducible refine (eof_err _ _).mono ?_); rintro e w3 ⟨⟨g, rfl⟩, hb3⟩; have HB3 := Aside0.mk hb3; clear hb3)
  all_goals
    go_wp2_with fail
    go_returns
    exact ⟨_, _, _, g, rfl, by first | exact (below_drew (below_alloc (Below.refl _ _) _)).trans (HB3.out.mono (by simp)) | exact (below_alloc (Below.refl _ _) _).trans (HB3.out.mono (by simp)) | exact below_drew ((below_alloc (Below.refl _ _) _).trans (HB3.out.mono (by simp)))⟩
set_option maxHeartbeats 4000000 in
set_option maxRecDepth 100000 in
theorem cut_pre_yes2 (w : World) (A : Option Addr) (c : Nat) : Calls Tryd.prog 119 #[.slice A 2 c] w fun e w' => e = .returned (.bool false) ∧ w = w' := by
  go_enter Tryd.func119, Tryd.ntmps119
  go_wp2
  go_ret
  exact ⟨rfl, rfl⟩
set_option maxHeartbeats 4000000 in
set_option maxRecDepth 100000 in
theorem cut_yes2 (w : World) (B : Nat) (A : Option Addr) (c : Nat) (fl : Int) (zs : List Int) (h : Sl w B (.slice A 2 c) zs) : Calls Tryd.prog 82 #[.agg #[.int .u32 fl], .slice A 2 c] w (FailS w) := by
  obtain ⟨A', hcut, -⟩ := h.next 22 2 .i64 Tryd.underlying22 (Nat.le_refl _)
  have hcut3 : ∀ W : World, (Instr.slice 22 (.slice A 2 c) (some (.int .i64 2)) none none).run Tryd.prog W = .ok (.slice A' 0 (c - 2)) W := hcut
  clear h hcut
  go_enter Tryd.func82, Tryd.ntmps82
  go_upto_region 4 with (go_at_call 119; (with_reducible refine (cut_pre_yes2 _ _ _).mono ?_); rintro e w2 ⟨rfl, rfl⟩)
  go_region_with (go_at_call 113; (with_reducible refine (eof_err _ _).mono ?_); rintro e w3 ⟨⟨g, rfl⟩, hb3⟩; have HB3 := Aside0.mk hb3; clear hb3)
  all_goals
    go_wp2_with fail
    go_returns
    exact ⟨_, _, _, g, rfl, by first | exact (below_drew (below_alloc (Below.refl _ _) _)).trans (HB3.out.mono (by simp)) | exact (below_alloc (Below.refl _ _) _).trans (HB3.out.mono (by simp)) | exact below_drew ((below_alloc (Below.refl _ _) _).trans (HB3.out.mono (by simp)))⟩
set_option maxHeartbeats 4000000 in
set_option maxRecDepth 100000 in
theorem cut_pre_yes3 (w : World) (A : Option Addr) (c : Nat) : Calls Tryd.prog 119 #[.slice A 3 c] w fun e w' => e = .returned (.bool false) ∧ w = w' := by
  go_enter Tryd.func119, Tryd.ntmps119
  go_wp2
  go_ret
  exact ⟨rfl, rfl⟩
set_option maxHeartbeats 4000000 in
set_option maxRecDepth 100000 in
theorem cut_yes3 (w : World) (B : Nat) (A : Option Addr) (c : Nat) (fl : Int) (zs : List Int) (h : Sl w B (.slice A 3 c) zs) : Calls Tryd.prog 82 #[.agg #[.int .u32 fl], .slice A 3 c] w (FailS w) := by
  obtain ⟨A', hcut, -⟩ := h.next 22 3 .i64 Tryd.underlying22 (Nat.le_refl _)
  have hcut3 : ∀ W : World, (Instr.slice 22 (.slice A 3 c) (some (.int .i64 3)) none none).run Tryd.prog W = .ok (.slice A' 0 (c - 3)) W := hcut
  clear h hcut
  go_enter Tryd.func82, Tryd.ntmps82
  go_upto_region 4 with (go_at_call 119; (with_reducible refine (cut_pre_yes3 _ _ _).mono ?_); rintro e w2 ⟨rfl, rfl⟩)
  go_region_with (go_at_call 113; (with_reducible refine (eof_err _ _).mono ?_); rintro e w3 ⟨⟨g, rfl⟩, hb3⟩; have HB3 := Aside0.mk hb3; clear hb3)
  all_goals
    go_wp2_with fail
    go_returns
    exact ⟨_, _, _, g, rfl, by first | exact (below_drew (below_alloc (Below.refl _ _) _)).trans (HB3.out.mono (by simp)) | exact (below_alloc (Below.refl _ _) _).trans (HB3.out.mono (by simp)) | exact below_drew ((below_alloc (Below.refl _ _) _).trans (HB3.out.mono (by simp)))⟩
theorem cut_yes (w : World) (B : Nat) (v : Value) (fl : Int) (zs : List Int) (h1 : 1 ≤ zs.length) (h2 : zs.length < 4) (h : Sl w B v zs) : Calls Tryd.prog 82 #[.agg #[.int .u32 fl], v] w (FailS w) := by
  obtain ⟨A, c, rfl, -⟩ := h.form
  obtain ⟨n, hn⟩ : ∃ n, n = zs.length := ⟨_, rfl⟩
  rw [← hn] at h ⊢
  rcases (by omega : n = 1 ∨ n = 2 ∨ n = 3) with e | e | e
  · subst e; exact cut_yes1 w B A c fl zs h
  · subst e; exact cut_yes2 w B A c fl zs h
  · subst e; exact cut_yes3 w B A c fl zs h
set_option maxHeartbeats 4000000 in
set_option maxRecDepth 100000 in
theorem cut_pre_no1 (w : World) (A : Option Addr) (c : Nat) : Calls Tryd.prog 120 #[.slice A 1 c] w fun e w' => e = .returned (.bool false) ∧ w = w' := by
  go_enter Tryd.func120, Tryd.ntmps120
  go_wp2
  go_ret
  exact ⟨rfl, rfl⟩
set_option maxHeartbeats 4000000 in
set_option maxRecDepth 100000 in
theorem cut_no1 (w : World) (B : Nat) (A : Option Addr) (c : Nat) (fl : Int) (zs : List Int) (h : Sl w B (.slice A 1 c) zs) : Calls Tryd.prog 83 #[.agg #[.int .u32 fl], .slice A 1 c] w (FailS w) := by
  obtain ⟨A', hcut, -⟩ := h.next 22 1 .i64 Tryd.underlying22 (Nat.le_refl _)
  have hcut3 : ∀ W : World, (Instr.slice 22 (.slice A 1 c) (some (.int .i64 1)) none none).run Tryd.prog W = .ok (.slice A' 0 (c - 1)) W := hcut
  clear h hcut
  go_enter Tryd.func83, Tryd.ntmps83
  go_upto_region 4 with (go_at_call 120; (with_reducible refine (cut_pre_no1 _ _ _).mono ?_); rintro e w2 ⟨rfl, rfl⟩)
  go_region_with (go_at_call 113; (with_reducible refine (eof_err _ _).mono ?_); rintro e w3 ⟨⟨g, rfl⟩, hb3⟩; have HB3 := Aside0.mk hb3; clear hb3)
  all_goals
    go_wp2_with fail
    go_returns
    exact ⟨_, _, _, g, rfl, by first | exact (below_drew (below_alloc (Below.refl _ _) _)).trans (HB3.out.mono (by simp)) | exact (below_alloc (Below.refl _ _) _).trans (HB3.out.mono (by simp)) | exact below_drew ((below_alloc (Below.refl _ _) _).trans (HB3.out.mono (by simp)))⟩
set_option maxHeartbeats 4000000 in
set_option maxRecDepth 100000 in
theorem cut_pre_no2 (w : World) (A : Option Addr) (c : Nat) : Calls Tryd.prog 120 #[.slice A 2 c] w fun e w' => e = .returned (.bool false) ∧ w = w' := by
  go_enter Tryd.func120, Tryd.ntmps120
  go_wp2
  go_ret
  exact ⟨rfl, rfl⟩
set_option maxHeartbeats 4000000 in
set_option maxRecDepth 100000 in
theorem cut_no2 (w : World) (B : Nat) (A : Option Addr) (c : Nat) (fl : Int) (zs : List Int) (h : Sl w B (.slice A 2 c) zs) : Calls Tryd.prog 83 #[.agg #[.int .u32 fl], .slice A 2 c] w (FailS w) := by
  obtain ⟨A', hcut, -⟩ := h.next 22 2 .i64 Tryd.underlying22 (Nat.le_refl _)
  have hcut3 : ∀ W : World, (Instr.slice 22 (.slice A 2 c) (some (.int .i64 2)) none none).run Tryd.prog W = .ok (.slice A' 0 (c - 2)) W := hcut
  clear h hcut
  go_enter Tryd.func83, Tryd.ntmps83
  go_upto_region 4 with (go_at_call 120; (with_reducible refine (cut_pre_no2 _ _ _).mono ?_); rintro e w2 ⟨rfl, rfl⟩)
  go_region_with (go_at_call 113; (with_reducible refine (eof_err _ _).mono ?_); rintro e w3 ⟨⟨g, rfl⟩, hb3⟩; have HB3 := Aside0.mk hb3; clear hb3)
  all_goals
    go_wp2_with fail
    go_returns
    exact ⟨_, _, _, g, rfl, by first | exact (below_drew (below_alloc (Below.refl _ _) _)).trans (HB3.out.mono (by simp)) | exact (below_alloc (Below.refl _ _) _).trans (HB3.out.mono (by simp)) | exact below_drew ((below_alloc (Below.refl _ _) _).trans (HB3.out.mono (by simp)))⟩
set_option maxHeartbeats 4000000 in
set_option maxRecDepth 100000 in
theorem cut_pre_no3 (w : World) (A : Option Addr) (c : Nat) : Calls Tryd.prog 120 #[.slice A 3 c] w fun e w' => e = .returned (.bool false) ∧ w = w' := by
  go_enter Tryd.func120, Tryd.ntmps120
  go_wp2
  go_ret
  exact ⟨rfl, rfl⟩
set_option maxHeartbeats 4000000 in
set_option maxRecDepth 100000 in
theorem cut_no3 (w : World) (B : Nat) (A : Option Addr) (c : Nat) (fl : Int) (zs : List Int) (h : Sl w B (.slice A 3 c) zs) : Calls Tryd.prog 83 #[.agg #[.int .u32 fl], .slice A 3 c] w (FailS w) := by
  obtain ⟨A', hcut, -⟩ := h.next 22 3 .i64 Tryd.underlying22 (Nat.le_refl _)
  have hcut3 : ∀ W : World, (Instr.slice 22 (.slice A 3 c) (some (.int .i64 3)) none none).run Tryd.prog W = .ok (.slice A' 0 (c - 3)) W := hcut
  clear h hcut
  go_enter Tryd.func83, Tryd.ntmps83
  go_upto_region 4 with (go_at_call 120; (with_reducible refine (cut_pre_no3 _ _ _).mono ?_); rintro e w2 ⟨rfl, rfl⟩)
  go_region_with (go_at_call 113; (with_reducible refine (eof_err _ _).mono ?_); rintro e w3 ⟨⟨g, rfl⟩, hb3⟩; have HB3 := Aside0.mk hb3; clear hb3)
  all_goals
    go_wp2_with fail
    go_returns
    exact ⟨_, _, _, g, rfl, by first | exact (below_drew (below_alloc (Below.refl _ _) _)).trans (HB3.out.mono (by simp)) | exact (below_alloc (Below.refl _ _) _).trans (HB3.out.mono (by simp)) | exact below_drew ((below_alloc (Below.refl _ _) _).trans (HB3.out.mono (by simp)))⟩
set_option maxHeartbeats 4000000 in
set_option maxRecDepth 100000 in
theorem cut_pre_no4 (w : World) (A : Option Addr) (c : Nat) : Calls Tryd.prog 120 #[.slice A 4 c] w fun e w' => e = .returned (.bool false) ∧ w = w' := by
  go_enter Tryd.func120, Tryd.ntmps120
  go_wp2
  go_ret
  exact ⟨rfl, rfl⟩
set_option maxHeartbeats 4000000 in
set_option maxRecDepth 100000 in
theorem cut_no4 (w : World) (B : Nat) (A : Option Addr) (c : Nat) (fl : Int) (zs : List Int) (h : Sl w B (.slice A 4 c) zs) : Calls Tryd.prog 83 #[.agg #[.int .u32 fl], .slice A 4 c] w (FailS w) := by
  obtain ⟨A', hcut, -⟩ := h.next 22 4 .i64 Tryd.underlying22 (Nat.le_refl _)
  have hcut3 : ∀ W : World, (Instr.slice 22 (.slice A 4 c) (some (.int .i64 4)) none none).run Tryd.prog W = .ok (.slice A' 0 (c - 4)) W := hcut
  clear h hcut
  go_enter Tryd.func83, Tryd.ntmps83
  go_upto_region 4 with (go_at_call 120; (with_reducible refine (cut_pre_no4 _ _ _).mono ?_); rintro e w2 ⟨rfl, rfl⟩)
  go_region_with (go_at_call 113; (with_reducible refine (eof_err _ _).mono ?_); rintro e w3 ⟨⟨g, rfl⟩, hb3⟩; have HB3 := Aside0.mk hb3; clear hb3)
  all_goals
    go_wp2_with fail
    go_returns
    exact ⟨_, _, _, g, rfl, by first | exact (below_drew (below_alloc (Below.refl _ _) _)).trans (HB3.out.mono (by simp)) | exact (below_alloc (Below.refl _ _) _).trans (HB3.out.mono (by simp)) | exact below_drew ((below_alloc (Below.refl _ _) _).trans (HB3.out.mono (by simp)))⟩
theorem cut_no (w : World) (B : Nat) (v : Value) (fl : Int) (zs : List Int) (h1 : 1 ≤ zs.length) (h2 : zs.length < 5) (h : Sl w B v zs) : Calls Tryd.prog 83 #[.agg #[.int .u32 fl], v] w (FailS w) := by
  obtain ⟨A, c, rfl, -⟩ := h.form
  obtain ⟨n, hn⟩ : ∃ n, n = zs.length := ⟨_, rfl⟩
  rw [← hn] at h ⊢
  rcases (by omega : n = 1 ∨ n = 2 ∨ n = 3 ∨ n = 4) with e | e | e | e
  · subst e; exact cut_no1 w B A c fl zs h
  · subst e; exact cut_no2 w B A c fl zs h
  · subst e; exact cut_no3 w B A c fl zs h
  · subst e; exact cut_no4 w B A c fl zs h
set_option maxHeartbeats 4000000 in
set_option maxRecDepth 100000 in
theorem pc_str (w : World) (B : Nat) (ad : Addr) (m c : Nat) (fl : Int) (zs : List Int) (hm : 0 < m) (hJ : Sl w B (.slice (some ad) m c) zs) (b0 : Int) (hb0 : zs.getD 0 0 = b0) (hbn : b0 = 34) (HC : Aside0 (∀ W : World, Below w.heap.size w W → Calls Tryd.prog 80 #[.agg #[.int .u32 fl], .slice (some ad) m c] W (FailS W))) :
    Calls Tryd.prog 94 #[.agg #[.int .u32 fl], .slice (some ad) m c] w (FailS w) := by
  have hal := below_alloc (Below.refl w.heap.size w) (.cells #[.int .u32 fl] 116)
  obtain ⟨ad2, had, c0, -⟩ := hJ.at_ 0 hm
  obtain rfl : ad = ad2 := by injection had
  rw [hb0] at c0
  have e0 : ad.add 0 = ad := by simp [Addr.add]
  rw [e0] at c0
  have c1 := pw_cell_below hal c0
  have hz : ((m : Int) == 0) = false := by rw [beq_eq_false_iff_ne]; omega
  have HC1 := Aside0.mk (HC.out _ hal)
  have HAL := Aside0.mk hal
  clear had e0 hb0 hal HC hJ c0
  rcases hbn with rfl
  all_goals
    go_enter Tryd.func94, Tryd.ntmps94
    go_wp2_with (go_at_call 80; (with_reducible refine HC1.out.mono ?_); rintro e w2 ⟨v1, v2, K, g, rfl, hb2⟩; have HB2 := Aside0.mk hb2; clear hb2)
    go_returns
    exact ⟨_, _, _, g, rfl, HAL.out.trans (HB2.out.mono HAL.out.size)⟩
set_option maxHeartbeats 4000000 in
set_option maxRecDepth 100000 in
theorem pc_null (w : World) (B : Nat) (ad : Addr) (m c : Nat) (fl : Int) (zs : List Int) (hm : 0 < m) (hJ : Sl w B (.slice (some ad) m c) zs) (b0 : Int) (hb0 : zs.getD 0 0 = b0) (hbn : b0 = 110) (HC : Aside0 (∀ W : World, Below w.heap.size w W → Calls Tryd.prog 81 #[.agg #[.int .u32 fl], .slice (some ad) m c] W (FailS W))) :
    Calls Tryd.prog 94 #[.agg #[.int .u32 fl], .slice (some ad) m c] w (FailS w) := by
  have hal := below_alloc (Below.refl w.heap.size w) (.cells #[.int .u32 fl] 116)
  obtain ⟨ad2, had, c0, -⟩ := hJ.at_ 0 hm
  obtain rfl : ad = ad2 := by injection had
  rw [hb0] at c0
  have e0 : ad.add 0 = ad := by simp [Addr.add]
  rw [e0] at c0
  have c1 := pw_cell_below hal c0
  have hz : ((m : Int) == 0) = false := by rw [beq_eq_false_iff_ne]; omega
  have HC1 := Aside0.mk (HC.out _ hal)
  have HAL := Aside0.mk hal
  clear had e0 hb0 hal HC hJ c0
  rcases hbn with rfl
  all_goals
    go_enter Tryd.func94, Tryd.ntmps94
    go_wp2_with (go_at_call 81; (with_reducible refine HC1.out.mono ?_); rintro e w2 ⟨v1, v2, K, g, rfl, hb2⟩; have HB2 := Aside0.mk hb2; clear hb2)
    go_returns
    exact ⟨_, _, _, g, rfl, HAL.out.trans (HB2.out.mono HAL.out.size)⟩
set_option maxHeartbeats 4000000 in
set_option maxRecDepth 100000 in
theorem pc_yes (w : World) (B : Nat) (ad : Addr) (m c : Nat) (fl : Int) (zs : List Int) (hm : 0 < m) (hJ : Sl w B (.slice (some ad) m c) zs) (b0 : Int) (hb0 : zs.getD 0 0 = b0) (hbn : b0 = 116) (HC : Aside0 (∀ W : World, Below w.heap.size w W → Calls Tryd.prog 82 #[.agg #[.int .u32 fl], .slice (some ad) m c] W (FailS W))) :
    Calls Tryd.prog 94 #[.agg #[.int .u32 fl], .slice (some ad) m c] w (FailS w) := by
  have hal := below_alloc (Below.refl w.heap.size w) (.cells #[.int .u32 fl] 116)
  obtain ⟨ad2, had, c0, -⟩ := hJ.at_ 0 hm
  obtain rfl : ad = ad2 := by injection had
  rw [hb0] at c0
  have e0 : ad.add 0 = ad := by simp [Addr.add]
  rw [e0] at c0
  have c1 := pw_cell_below hal c0
  have hz : ((m : Int) == 0) = false := by rw [beq_eq_false_iff_ne]; omega
  have HC1 := Aside0.mk (HC.out _ hal)
  have HAL := Aside0.mk hal
  clear had e0 hb0 hal HC hJ c0
  rcases hbn with rfl
  all_goals
    go_enter Tryd.func94, Tryd.ntmps94
    go_wp2_with (go_at_call 82; (with_reducible refine HC1.out.mono ?_); rintro e w2 ⟨v1, v2, K, g, rfl, hb2⟩; have HB2 := Aside0.mk hb2; clear hb2)
    go_returns
    exact ⟨_, _, _, g, rfl, HAL.out.trans (HB2.out.mono HAL.out.size)⟩
set_option maxHeartbeats 4000000 in
set_option maxRecDepth 100000 in
theorem pc_no (w : World) (B : Nat) (ad : Addr) (m c : Nat) (fl : Int) (zs : List Int) (hm : 0 < m) (hJ : Sl w B (.slice (some ad) m c) zs) (b0 : Int) (hb0 : zs.getD 0 0 = b0) (hbn : b0 = 102) (HC : Aside0 (∀ W : World, Below w.heap.size w W → Calls Tryd.prog 83 #[.agg #[.int .u32 fl], .slice (some ad) m c] W (FailS W))) :
    Calls Tryd.prog 94 #[.agg #[.int .u32 fl], .slice (some ad) m c] w (FailS w) := by
  have hal := below_alloc (Below.refl w.heap.size w) (.cells #[.int .u32 fl] 116)
  obtain ⟨ad2, had, c0, -⟩ := hJ.at_ 0 hm
  obtain rfl : ad = ad2 := by injection had
  rw [hb0] at c0
  have e0 : ad.add 0 = ad := by simp [Addr.add]
  rw [e0] at c0
  have c1 := pw_cell_below hal c0
  have hz : ((m : Int) == 0) = false := by rw [beq_eq_false_iff_ne]; omega
  have HC1 := Aside0.mk (HC.out _ hal)
  have HAL := Aside0.mk hal
  clear had e0 hb0 hal HC hJ c0
  rcases hbn with rfl
  all_goals
    go_enter Tryd.func94, Tryd.ntmps94
    go_wp2_with (go_at_call 83; (with_reducible refine HC1.out.mono ?_); rintro e w2 ⟨v1, v2, K, g, rfl, hb2⟩; have HB2 := Aside0.mk hb2; clear hb2)
    go_returns
    exact ⟨_, _, _, g, rfl, HAL.out.trans (HB2.out.mono HAL.out.size)⟩
set_option maxHeartbeats 4000000 in
set_option maxRecDepth 100000 in
theorem pc_num (w : World) (B : Nat) (ad : Addr) (m c : Nat) (fl : Int) (zs : List Int) (hm : 0 < m) (hJ : Sl w B (.slice (some ad) m c) zs) (b0 : Int) (hb0 : zs.getD 0 0 = b0) (hbn : b0 = 45 ∨ b0 = 48 ∨ b0 = 49 ∨ b0 = 50 ∨ b0 = 51 ∨ b0 = 52 ∨ b0 = 53 ∨ b0 = 54 ∨ b0 = 55 ∨ b0 = 56 ∨ b0 = 57) (HC : Aside0 (∀ W : World, Below w.heap.size w W → Calls Tryd.prog 84 #[.agg #[.int .u32 fl], .slice (some ad) m c] W (FailS W))) :
    Calls Tryd.prog 94 #[.agg #[.int .u32 fl], .slice (some ad) m c] w (FailS w) := by
  have hal := below_alloc (Below.refl w.heap.size w) (.cells #[.int .u32 fl] 116)
  obtain ⟨ad2, had, c0, -⟩ := hJ.at_ 0 hm
  obtain rfl : ad = ad2 := by injection had
  rw [hb0] at c0
  have e0 : ad.add 0 = ad := by simp [Addr.add]
  rw [e0] at c0
  have c1 := pw_cell_below hal c0
  have hz : ((m : Int) == 0) = false := by rw [beq_eq_false_iff_ne]; omega
  have HC1 := Aside0.mk (HC.out _ hal)
  have HAL := Aside0.mk hal
  clear had e0 hb0 hal HC hJ c0
  rcases hbn with rfl | rfl | rfl | rfl | rfl | rfl | rfl | rfl | rfl | rfl | rfl
  all_goals
    go_enter Tryd.func94, Tryd.ntmps94
    go_wp2_with (go_at_call 84; (with_reducible refine HC1.out.mono ?_); rintro e w2 ⟨v1, v2, K, g, rfl, hb2⟩; have HB2 := Aside0.mk hb2; clear hb2)
    go_returns
    exact ⟨_, _, _, g, rfl, HAL.out.trans (HB2.out.mono HAL.out.size)⟩
set_option maxHeartbeats 4000000 in
set_option maxRecDepth 100000 in
theorem pc_obj (w : World) (B : Nat) (ad : Addr) (m c : Nat) (fl : Int) (zs : List Int) (hm : 0 < m) (hJ : Sl w B (.slice (some ad) m c) zs) (b0 : Int) (hb0 : zs.getD 0 0 = b0) (hbn : b0 = 123) (HC : Aside0 (∀ W : World, Below w.heap.size w W → Calls Tryd.prog 132 #[.agg #[.int .u32 fl], .slice (some ad) m c] W (FailS W))) :
    Calls Tryd.prog 94 #[.agg #[.int .u32 fl], .slice (some ad) m c] w (FailS w) := by
  have hal := below_alloc (Below.refl w.heap.size w) (.cells #[.int .u32 fl] 116)
  obtain ⟨ad2, had, c0, -⟩ := hJ.at_ 0 hm
  obtain rfl : ad = ad2 := by injection had
  rw [hb0] at c0
  have e0 : ad.add 0 = ad := by simp [Addr.add]
  rw [e0] at c0
  have c1 := pw_cell_below hal c0
  have hz : ((m : Int) == 0) = false := by rw [beq_eq_false_iff_ne]; omega
  have HC1 := Aside0.mk (HC.out _ hal)
  have HAL := Aside0.mk hal
  clear had e0 hb0 hal HC hJ c0
  rcases hbn with rfl
  all_goals
    go_enter Tryd.func94, Tryd.ntmps94
    go_wp2_with (go_at_call 132; (with_reducible refine HC1.out.mono ?_); rintro e w2 ⟨v1, v2, K, g, rfl, hb2⟩; have HB2 := Aside0.mk hb2; clear hb2)
    go_returns
    exact ⟨_, _, _, g, rfl, HAL.out.trans (HB2.out.mono HAL.out.size)⟩
set_option maxHeartbeats 4000000 in
set_option maxRecDepth 100000 in
theorem pc_arr (w : World) (B : Nat) (ad : Addr) (m c : Nat) (fl : Int) (zs : List Int) (hm : 0 < m) (hJ : Sl w B (.slice (some ad) m c) zs) (b0 : Int) (hb0 : zs.getD 0 0 = b0) (hbn : b0 = 91) (HC : Aside0 (∀ W : World, Below w.heap.size w W → Calls Tryd.prog 133 #[.agg #[.int .u32 fl], .slice (some ad) m c] W (FailS W))) :
    Calls Tryd.prog 94 #[.agg #[.int .u32 fl], .slice (some ad) m c] w (FailS w) := by
  have hal := below_alloc (Below.refl w.heap.size w) (.cells #[.int .u32 fl] 116)
  obtain ⟨ad2, had, c0, -⟩ := hJ.at_ 0 hm
  obtain rfl : ad = ad2 := by injection had
  rw [hb0] at c0
  have e0 : ad.add 0 = ad := by simp [Addr.add]
  rw [e0] at c0
  have c1 := pw_cell_below hal c0
  have hz : ((m : Int) == 0) = false := by rw [beq_eq_false_iff_ne]; omega
  have HC1 := Aside0.mk (HC.out _ hal)
  have HAL := Aside0.mk hal
  clear had e0 hb0 hal HC hJ c0
  rcases hbn with rfl
  all_goals
    go_enter Tryd.func94, Tryd.ntmps94
    go_wp2_with (go_at_call 133; (with_reducible refine HC1.out.mono ?_); rintro e w2 ⟨v1, v2, K, g, rfl, hb2⟩; have HB2 := Aside0.mk hb2; clear hb2)
    go_returns
    exact ⟨_, _, _, g, rfl, HAL.out.trans (HB2.out.mono HAL.out.size)⟩
set_option maxHeartbeats 4000000 in
set_option maxRecDepth 100000 in
theorem pv_empty (w : World) (B : Nat) (v : Value) (fl : Int) (h : Sl w B v []) : Calls Tryd.prog 94 #[.agg #[.int .u32 fl], v] w (FailS w) := by
  obtain ⟨A, c, rfl, -⟩ := h.form
  have HAL := Aside0.mk (below_alloc (Below.refl w.heap.size w) (.cells #[.int .u32 fl] 116))
  have hz : (((0 : Nat) : Int) == 0) = true := rfl
  clear h
  show Calls Tryd.prog 94 #[.agg #[.int .u32 fl], .slice A 0 c] w (FailS w)
  go_enter Tryd.func94, Tryd.ntmps94
  go_wp2_with (go_at_call 85; (with_reducible refine (syntax_err _ _ _ _).mono ?_); rintro en w4 ⟨⟨g, rfl⟩, hb4⟩; have HB4 := Aside0.mk hb4; clear hb4)
  go_returns
  exact ⟨_, _, _, g, rfl, HAL.out.trans (HB4.out.mono HAL.out.size)⟩
end Go.Proofs.YtekmminmgjoabaaDoor.Js

namespace Go.Proofs.YtekmminmgjoabaaDoor.Js
open Go.RowKit Go.Proofs.YtekmminmgjoabaaDoorW.PrintWords Go.Proofs.YtekmminmgjoabaaDoorW.PrintLast Go.Proofs.YtekmminmgjoabaaDoorW.PrintMore Go.Proofs.YtekmminmgjoabaaDoor.PFnJSTokens
set_option linter.unusedVariables false
set_option linter.unusedSimpArgs false
/-- parseValue refuses the text. -/
def FailC (zs : List Int) : Prop := ∀ (w : World) (B : Nat) (v : Value) (p q : Bool) (K0 : Int), 0 ≤ K0 → K0 < 64 → Sl w B v zs → Bytes zs → zs.length < 4000000000 → (q = true → 92 ∉ zs) → Tab w → 3 < B → B ≤ w.heap.size →
  Calls Tryd.prog 94 #[.agg #[.int .u32 (flK p q K0)], v] w (FailS w)
/-- parseValue takes the text as a whole. -/
def OverC (zs : List Int) : Prop := ∀ (w : World) (B : Nat) (v : Value) (p q : Bool) (K0 : Int), 0 ≤ K0 → K0 < 64 → Sl w B v zs → Bytes zs → zs.length < 4000000000 → (q = true → 92 ∉ zs) → Tab w → 3 < B → B ≤ w.heap.size →
  Calls Tryd.prog 94 #[.agg #[.int .u32 (flK p q K0)], v] w (ParsePost w B zs [] (fun _ => True))
theorem fail_nil : FailC [] := fun w B v p q K0 _ _ h _ _ _ _ _ _ => pv_empty w B v _ h
/-- A beginning of a value is refused, or it is a number itself. -/
def CutC (n : JN) : Prop := ∀ zs, Beg zs n.txt → FailC zs ∨ (n.kind = 3 ∧ OverC zs)
theorem num_over {zs : List Int} (h : Num zs) : OverC zs := by
  intro w B v p q K0 hK0 hK1 hs hby hl hq ht h3 hB
  have hv := val_leaf (k := 3) (items := []) (keys := []) (.num h) w B v [] p q K0 hK0 hK1
  have e : (JN.mk 3 zs [] []).txt = zs := by rw [JN.txt, if_pos (by omega)]
  rw [e, List.append_nil] at hv
  exact (hv hs hby hl hq (fun _ c t e => by cases e) ht h3 hB).mono fun _ _ h => h.imp fun _ _ => trivial
theorem cut_leaf {k : Int} {t : List Int} {items : List JN} {keys : List (List Int)} (hp : Plain k t) : CutC (.mk k t items keys) := by
  intro zs hb
  have hk5 := hp.kind
  have htx : (JN.mk k t items keys).txt = t := by rw [JN.txt, if_pos (by omega)]
  rw [htx] at hb
  by_cases hz : zs = []
  · subst hz; exact .inl fail_nil
  have hl1 : 1 ≤ zs.length := List.length_pos_iff.2 hz
  have hlt := hb.lt
  have h0 := hb.getD 0 hl1
  cases hp with
  | null =>
    refine .inl fun w B v p q K0 hK0 hK1 hs hby hl hq ht h3 hB => ?_
    obtain ⟨A, m, c, rfl, hm⟩ := hs.formv
    obtain ⟨ad, rfl, -⟩ := hs.at_ 0 (by omega)
    exact pc_null w B ad m c _ zs (by omega) hs 110 h0 rfl ⟨fun W hW => cut_null W B _ _ zs hl1 hlt (hs.below (hW.mono hB))⟩
  | yes =>
    refine .inl fun w B v p q K0 hK0 hK1 hs hby hl hq ht h3 hB => ?_
    obtain ⟨A, m, c, rfl, hm⟩ := hs.formv
    obtain ⟨ad, rfl, -⟩ := hs.at_ 0 (by omega)
    exact pc_yes w B ad m c _ zs (by omega) hs 116 h0 rfl ⟨fun W hW => cut_yes W B _ _ zs hl1 hlt (hs.below (hW.mono hB))⟩
  | no =>
    refine .inl fun w B v p q K0 hK0 hK1 hs hby hl hq ht h3 hB => ?_
    obtain ⟨A, m, c, rfl, hm⟩ := hs.formv
    obtain ⟨ad, rfl, -⟩ := hs.at_ 0 (by omega)
    exact pc_no w B ad m c _ zs (by omega) hs 102 h0 rfl ⟨fun W hW => cut_no W B _ _ zs hl1 hlt (hs.below (hW.mono hB))⟩
  | num h =>
    rcases num_cut h hb hz with h | rfl | ⟨p0, p1, p2, hn⟩
    · exact .inr ⟨rfl, num_over h⟩
    · refine .inl fun w B v p q K0 hK0 hK1 hs hby hl hq ht h3 hB => ?_
      obtain ⟨A, m, c, rfl, hm⟩ := hs.formv
      obtain ⟨ad, rfl, -⟩ := hs.at_ 0 (by simp at hm; omega)
      exact pc_num w B ad m c _ _ (by simp at hm; omega) hs 45 rfl (.inl rfl) ⟨fun W hW => cutn_minus W B _ _ _ _ (hs.below (hW.mono hB)) (Nat.le_trans hB hW.size)⟩
    · refine .inl fun w B v p q K0 hK0 hK1 hs hby hl hq ht h3 hB => ?_
      obtain ⟨A, m, c, rfl, hm⟩ := hs.formv
      obtain ⟨ad, rfl, -⟩ := hs.at_ 0 (by omega)
      have hb : zs.getD 0 0 = 45 ∨ zs.getD 0 0 = 48 ∨ zs.getD 0 0 = 49 ∨ zs.getD 0 0 = 50 ∨ zs.getD 0 0 = 51 ∨ zs.getD 0 0 = 52 ∨ zs.getD 0 0 = 53 ∨ zs.getD 0 0 = 54 ∨ zs.getD 0 0 = 55 ∨ zs.getD 0 0 = 56 ∨ zs.getD 0 0 = 57 := by
        rcases hn.sign with ⟨-, h⟩ | ⟨-, h⟩
        · unfold Digit at h
          generalize zs.getD 0 0 = x at *
          omega
        · exact .inl h
      exact pc_num w B ad m c _ zs (by omega) hs _ rfl hb ⟨fun W hW => cutn_calls W B _ _ _ _ zs p0 p1 p2 hn (hs.below (hW.mono hB)) (Nat.le_trans hB hW.size)⟩
  | @str l h =>
    obtain ⟨h34, hc⟩ := str_cut h hb hz
    refine .inl fun w B v p q K0 hK0 hK1 hs hby hl hq ht h3 hB => ?_
    obtain ⟨A, m, c, rfl, hm⟩ := hs.formv
    obtain ⟨ad, rfl, -⟩ := hs.at_ 0 (by omega)
    exact pc_str w B ad m c _ zs (by omega) hs 34 h34 rfl ⟨fun W hW => pcut W B _ _ _ _ zs l p q (by omega) hby (hs.below (hW.mono hB)) (Nat.le_trans hB hW.size) h34 hl1 hc (flK_fl p q K0 hK0 hK1) hq (ht.base h3 (hW.mono hB))⟩
end Go.Proofs.YtekmminmgjoabaaDoor.Js

namespace Go.Proofs.YtekmminmgjoabaaDoor.Js
open Go.RowKit Go.Proofs.YtekmminmgjoabaaDoorW.PrintWords Go.Proofs.YtekmminmgjoabaaDoorW.PrintLast Go.Proofs.YtekmminmgjoabaaDoorW.PrintMore Go.Proofs.YtekmminmgjoabaaDoor.PFnJSTokens
set_option linter.unusedVariables false
set_option linter.unusedSimpArgs false
/-- parseValue takes a beginning of the text, of which the rest is left. -/
def Went (w : World) (B : Nat) (rest : List Int) (en : Ending) (w' : World) : Prop := ∃ v1 v2 K, en = .returned (.tuple #[v1, v2, .int .u64 K, .nilIface]) ∧ Sl w' B v2 rest ∧ Below w.heap.size w w'
def GoC (zs rest : List Int) : Prop := ∀ (w : World) (B : Nat) (v : Value) (p q : Bool) (K0 : Int), 0 ≤ K0 → K0 < 64 → Sl w B v zs → Bytes zs → zs.length < 4000000000 → (q = true → 92 ∉ zs) → Tab w → 3 < B → B ≤ w.heap.size →
  Calls Tryd.prog 94 #[.agg #[.int .u32 (flK p q K0)], v] w (Went w B rest)
theorem item_cut {x : JN} (hok : JOk x) (hc : CutC x) {zs R : List Int} {b : Int} {l : List Int} (hR : R = b :: l) (hb : b = 44 ∨ b = 93 ∨ b = 125) (hz : zs ≠ []) (h : Beg zs (x.txt ++ R)) : FailC zs ∨ ∃ rest, Beg rest R ∧ rest.length < zs.length ∧ (∀ c ∈ rest, c ∈ zs) ∧ GoC zs rest := by
  rcases h.append with h1 | ⟨z, rfl, h1⟩
  · rcases hc zs h1 with h2 | ⟨-, h2⟩
    · exact .inl h2
    · refine .inr ⟨[], ⟨R, rfl, by rw [hR]; simp⟩, List.length_pos_iff.2 hz, fun c hc => absurd hc (by simp), ?_⟩
      intro w B v p q K0 a1 a2 a3 a4 a5 a6 a7 a8 a9
      exact (h2 w B v p q K0 a1 a2 a3 a4 a5 a6 a7 a8 a9).mono (by rintro e w' ⟨v1, v2, K, rfl, -, -, h2, h3⟩; exact ⟨v1, v2, K, rfl, h2, h3⟩)
  · obtain ⟨b0, l0, hbl, -⟩ := txt_begins hok
    refine .inr ⟨z, h1, by rw [hbl]; simp; omega, fun c hc => List.mem_append_right _ hc, ?_⟩
    intro w B v p q K0 a1 a2 a3 a4 a5 a6 a7 a8 a9
    refine (val_all hok w B v z p q K0 a1 a2 a3 a4 a5 a6 (fun _ => ?_) a7 a8 a9).mono (by rintro e w' ⟨v1, v2, K, rfl, -, -, h2, h3⟩; exact ⟨v1, v2, K, rfl, h2, h3⟩)
    rw [hR] at h1
    rcases h1.cons with rfl | ⟨y, rfl, -⟩
    · exact fun c t e => by cases e
    · exact numEnd_of hb
theorem Rest.of {all zs rest : List Int} {q : Bool} (h : Rest all zs q) (hs : ∀ c ∈ rest, c ∈ zs) (hl : rest.length ≤ zs.length) : Rest all rest q := ⟨h.bytes.sub hs, fun hq hc => h.noesc hq (hs _ hc), Nat.le_trans hl h.long⟩
set_option maxHeartbeats 4000000 in
set_option maxRecDepth 100000 in
theorem arr_one (w : World) (B : Nat) (v : Value) (fl : Int) (h : Sl w B v [91]) : Calls Tryd.prog 133 #[.agg #[.int .u32 fl], v] w (FailS w) := by
  obtain ⟨A, c, rfl, -⟩ := h.form
  obtain ⟨A', hcut, -⟩ := h.next 22 1 .i64 Tryd.underlying22 (Nat.le_refl _)
  have hcut3 : ∀ W : World, (Instr.slice 22 (.slice A 1 c) (some (.int .i64 1)) none none).run Tryd.prog W = .ok (.slice A' 0 (c - 1)) W := hcut
  clear h hcut
  show Calls Tryd.prog 133 #[.agg #[.int .u32 fl], .slice A 1 c] w (FailS w)
  go_enter Tryd.func133, Tryd.ntmps133
  go_upto_region 2 with (fail)
  go_region_with (go_at_call 113; (with_reducible refine (eof_err _ _).mono ?_); rintro e w3 ⟨⟨g, rfl⟩, hb3⟩; have HB3 := Aside0.mk hb3; clear hb3)
  all_goals
    go_wp2_with fail
    go_returns
    exact ⟨_, _, _, g, rfl, by first | exact (below_drew (below_alloc (Below.refl _ _) _)).trans (HB3.out.mono (by simp)) | exact (below_alloc (Below.refl _ _) _).trans (HB3.out.mono (by simp)) | exact below_drew ((below_alloc (Below.refl _ _) _).trans (HB3.out.mono (by simp)))⟩
set_option maxHeartbeats 4000000 in
set_option maxRecDepth 100000 in
theorem arr_cut (items : List JN) (keys : List (List Int)) (hok : ∀ x ∈ items, JOk x) (ih : ∀ x ∈ items, CutC x) (w : World) (B : Nat) (ad : Addr) (m c : Nat) (zs0 : List Int) (hbeg : Beg zs0 (91 :: (JN.itxt items keys false 0 ++ [93]))) (hl2 : 2 ≤ zs0.length) (p q : Bool) (K0 : Int) (hK0 : 0 ≤ K0) (hK1 : K0 < 64) (hJ : Sl w B (.slice (some ad) m c) zs0) (hby : Bytes zs0) (hlen : zs0.length < 4000000000) (hq : q = true → 92 ∉ zs0) (ht : Tab w) (h3 : 3 < B) (hB : B ≤ w.heap.size) :
    Calls Tryd.prog 133 #[.agg #[.int .u32 (flK p q K0)], .slice (some ad) m c] w (FailS w) := by
  rcases hbeg.cons with hz | ⟨rest0, rfl, hbeg1⟩
  · rw [hz] at hl2; simp at hl2
  have hml := hJ.len.1
  have hm2 : 2 ≤ m := by rw [hml]; exact hl2
  have hmx : m < 4000000000 := by rw [hml]; exact hlen
  obtain ⟨A1, hcut, hd⟩ := hJ.next 22 1 .i64 Tryd.underlying22 (by omega)
  obtain ⟨ad2, had, c0, -⟩ := hJ.at_ 0 (by omega)
  obtain rfl : ad = ad2 := by injection had
  have e0 : ad.add 0 = ad := by simp [Addr.add]
  rw [e0] at c0
  obtain ⟨fl, hfl⟩ : ∃ fl, fl = flK p q K0 := ⟨_, rfl⟩
  rw [← hfl]
  have HFL := Aside0.mk hfl
  obtain ⟨w0, hw0⟩ : ∃ w0, w0 = w.alloc (.cells #[.int .u32 fl] 116) := ⟨_, rfl⟩
  have hal : Below w.heap.size w w0 := by rw [hw0]; exact below_alloc (Below.refl w.heap.size w) _
  have HBX := Aside0.mk (show w0.heap[w.heap.size]? = some (.cells #[.int .u32 fl] 116 (0, 0)) by rw [hw0]; exact blk_new w _)
  have c1 : w0.cell? ad = some (.int .u8 91) := (pw_cell_below hal c0).trans rfl
  have HAL := Aside0.mk hal
  have HR0 := Aside0.mk (show Rest (91 :: rest0) rest0 q from (⟨hby, hq, Nat.le_refl _⟩ : Rest (91 :: rest0) ([91] ++ rest0) q).back)
  have HD := Aside0.mk (show Sl w0 B (.slice A1 (m - 1) (c - 1)) rest0 from (show Sl w B (.slice A1 (m - 1) (c - 1)) rest0 from hd).below (hal.mono hB))
  have HBEG := Aside0.mk hbeg1
  have HM := Aside0.mk (show m = rest0.length + 1 by rw [hml]; rfl)
  have HT := Aside0.mk ht
  have H3 := Aside0.mk (And.intro h3 hB)
  have HIH := Aside0.mk (fun x hx => And.intro (hok x hx) (ih x hx))
  have HKB := Aside0.mk (And.intro hK0 hK1)
  have hcut1 : ∀ W : World, (Instr.slice 22 (.slice (some ad) m c) (some (.int .i64 1)) none none).run Tryd.prog W = .ok (.slice A1 (m - 1) (c - 1)) W := hcut
  clear hbeg hbeg1 hJ hby hlen hq hd hml ht h3 hB hok ih hK0 hK1 had e0 c0 hal hfl hcut hl2
  have hn2 : ¬ ((m : Int) < 2) := by omega
  go_enter Tryd.func133, Tryd.ntmps133
  go_upto_region 3 with (fail)
  rw [← hw0]
  clear hw0
  go_upto_region 10 with (fail)
  clear hcut1 c1 hn2
  obtain ⟨mm, hmm⟩ : ∃ mm, mm = m - 1 := ⟨_, rfl⟩
  obtain ⟨cc1, hcc1⟩ : ∃ cc1, cc1 = c - 1 := ⟨_, rfl⟩
  rw [← hmm, ← hcc1] at HD ⊢
  clear hmm hcc1
  have HBG0 := Aside0.mk (show Beg rest0 (JN.itxt items keys false ((0 : Nat) : Int) ++ [93]) from HBEG.out)
  go_loopg [1, 8, 11] items.length (fun gk v1 v8 v11 w' => ∃ (j : Nat) (xs : List JN) (ks : List (List Int)) (rest : List Int), v8 = .nilIface ∧ v11 = .int .i64 (j : Int) ∧ Aside0 (xs.length = gk ∧ (∀ x ∈ xs, x ∈ items)) ∧ Aside0 (Beg rest (JN.itxt xs ks false (j : Int) ++ [93])) ∧ Aside0 (Rest (91 :: rest0) rest q ∧ rest.length + j ≤ rest0.length) ∧ Aside0 (Sl w' B v1 rest) ∧ Aside0 (Below w0.heap.size w0 w'))
  case atStart => exact ⟨0, items, keys, rest0, rfl, rfl, ⟨rfl, fun x hx => hx⟩, HBG0, ⟨HR0.out, Nat.le_refl _⟩, HD, ⟨Below.refl _ _⟩⟩
  case round =>
    obtain ⟨j, xs, ks, rest, rfl, rfl, HXS, HBG, HRR, HDr, HBr⟩ := hrel
    have HS := Aside0.mk (fun (W : World) (v : Value) (zs : List Int) (hW : Below w0.heap.size w0 W) (h : Sl W B v zs) (hz : Bytes zs) => (show Calls Tryd.prog 95 #[v] W fun e w' => ∃ v', e = .returned v' ∧ Sl w' B v' (skipF zs) ∧ Below W.heap.size W w' by
      obtain ⟨A, c, rfl, -⟩ := h.form
      exact skip_calls W B A _ c zs h hz (Nat.le_trans H3.out.2 (Nat.le_trans HAL.out.size hW.size))))
    by_cases hre : rest = []
    · subst hre
      have HSK := Aside0.mk (HS.out wr _ _ HBr.out HDr.out HRR.out.1.bytes)
      obtain ⟨A2, m2, c2, rfl, hm2⟩ := HDr.out.formv
      clear hm2
      go_upto_region 11 with (go_at_call 95; (with_reducible refine HSK.out.mono ?_); rintro e w2 ⟨v2, rfl, hs, hb⟩; have HD2 := Aside0.mk (show Sl w2 B v2 [] from hs); have HB2 := Aside0.mk (HBr.out.trans (hb.mono HBr.out.size)); clear hs hb)
      obtain ⟨A3, m3, c3, rfl, hm3⟩ := HD2.out.formv
      obtain rfl : m3 = 0 := hm3
      have hz3 : (((0 : Nat) : Int) == 0) = true := rfl
      go_wp2_with (go_at_call 85; (with_reducible refine (syntax_err _ _ _ _).mono ?_); rintro en w9 ⟨⟨g, rfl⟩, hb9⟩; have HB9 := Aside0.mk hb9; clear hb9)
      (try rw [Exit.noGoto_ret])
      go_returns
      exact ⟨_, _, _, g, rfl, HAL.out.trans ((HB2.out.trans (HB9.out.mono HB2.out.size)).mono HAL.out.size)⟩
    cases gk with
    | zero =>
      obtain rfl : xs = [] := List.eq_nil_of_length_eq_zero HXS.out.1
      exact absurd (show Beg rest [93] from HBG.out).one hre
    | succ k1 =>
      cases xs with
      | nil => exact absurd HXS.out.1 (by simp)
      | cons x xs =>
      obtain ⟨hxok, hxv⟩ := HIH.out x (HXS.out.2 x List.mem_cons_self)
      obtain ⟨R, hR⟩ : ∃ R, R = JN.itxt xs ks.tail false ((j : Int) + 1) ++ [93] := ⟨_, rfl⟩
      have hbg : Beg rest ((if (0 : Int) < (j : Int) then [44] else []) ++ (x.txt ++ R)) := by
        have h := HBG.out
        rw [JN.itxt] at h
        rw [hR]; simpa using h
      have HRE' := Aside0.mk hR
      obtain ⟨bb, ll, hbb, hbe⟩ := itxt_behind false 93 (.inl rfl) xs ks.tail ((j : Int) + 1) (by omega) []
      rw [← hR] at hbb
      obtain ⟨b0, l0, hbl, hbeg⟩ := txt_begins hxok
      have hsp := hbeg.sp
      have h93 : ¬ b0 = 93 := hbeg.2.2.1
      rcases Nat.eq_zero_or_pos j with rfl | hj
      · rw [if_neg (by decide), List.nil_append] at hbg
        have hitem := item_cut hxok hxv hbb hbe hre hbg
        rw [hbl, List.cons_append] at hbg
        obtain ⟨l1, rfl, -⟩ := hbg.cons.resolve_left hre
        have HSK := Aside0.mk (HS.out wr _ _ HBr.out HDr.out HRR.out.1.bytes)
        rw [skip_none hsp] at HSK
        obtain ⟨A2, m2, c2, rfl, hm2⟩ := HDr.out.formv
        have HIT := Aside0.mk hitem
        clear hm2 hre hitem hbg hbl hbeg hxok hxv hbb hbe hR
        go_upto_region 11 with (go_at_call 95; (with_reducible refine HSK.out.mono ?_); rintro e w2 ⟨v2, rfl, hs, hb⟩; have HD2 := Aside0.mk hs; have HB2 := Aside0.mk (HBr.out.trans (hb.mono HBr.out.size)); clear hs hb)
        obtain ⟨ad3, m3, c3, rfl, hm3, k3⟩ := HD2.out.first
        have hm3p : 0 < m3 := by omega
        have hz3 : ((m3 : Int) == 0) = false := by rw [beq_eq_false_iff_ne]; omega
        have k6 := blk116 HBX.out HB2.out
        clear hm3
        rcases HIT.out with hf | ⟨rest2, hb2, hl2, hm2, hg⟩
        · have HVV := Aside0.mk (show Calls Tryd.prog 94 #[.agg #[.int .u32 fl], .slice (some ad3) m3 c3] w2 (FailS w2) by
            have hl := HRR.out.1.long
            have hm := HM.out
            rw [HFL.out]
            exact hf w2 B _ p q K0 HKB.out.1 HKB.out.2 HD2.out HRR.out.1.bytes (by simp only [List.length_cons] at hl ⊢; omega) HRR.out.1.noesc (HT.out.base H3.out.1 ((HAL.out.trans (HB2.out.mono HAL.out.size)).mono H3.out.2)) H3.out.1 (Nat.le_trans H3.out.2 (Nat.le_trans HAL.out.size HB2.out.size)))
          clear hf
          go_wp2_with (go_at_call 94; (with_reducible refine HVV.out.mono ?_); rintro e w9 ⟨v6, v7, K, g, rfl, hb9⟩; have HB9 := Aside0.mk hb9; clear hb9)
          (try rw [Exit.noGoto_ret])
          go_returns
          exact ⟨_, _, _, g, rfl, HAL.out.trans ((HB2.out.trans (HB9.out.mono HB2.out.size)).mono HAL.out.size)⟩
        · have HVV := Aside0.mk (show Calls Tryd.prog 94 #[.agg #[.int .u32 fl], .slice (some ad3) m3 c3] w2 (Went w2 B rest2) by
            have hl := HRR.out.1.long
            have hm := HM.out
            rw [HFL.out]
            exact hg w2 B _ p q K0 HKB.out.1 HKB.out.2 HD2.out HRR.out.1.bytes (by simp only [List.length_cons] at hl ⊢; omega) HRR.out.1.noesc (HT.out.base H3.out.1 ((HAL.out.trans (HB2.out.mono HAL.out.size)).mono H3.out.2)) H3.out.1 (Nat.le_trans H3.out.2 (Nat.le_trans HAL.out.size HB2.out.size)))
          have HRN := Aside0.mk (show Rest (91 :: rest0) rest2 q ∧ rest2.length + 1 ≤ rest0.length from ⟨HRR.out.1.of hm2 (by omega), by have := HRR.out.2; omega⟩)
          have HB3 := Aside0.mk hb2
          clear hg hb2 hl2 hm2
          go_wp2_with (go_at_call 94; (with_reducible refine HVV.out.mono ?_); rintro e w5 ⟨v6, v7, K, rfl, hv7, hb5⟩; have HV7 := Aside0.mk hv7; have HB5 := Aside0.mk (HB2.out.trans (hb5.mono HB2.out.size)); clear hv7 hb5)
          go_roundg k1
          case measure => omega
          case rel => exact ⟨1, xs, ks.tail, rest2, rfl, by go_num, ⟨by have := HXS.out.1; simpa using this, fun y hy => HXS.out.2 y (List.mem_cons_of_mem _ hy)⟩, ⟨by have h := HB3.out; rw [HRE'.out] at h; simpa using h⟩, HRN, HV7, HB5⟩
      · rw [if_pos (by omega), List.cons_append, List.nil_append] at hbg
        obtain ⟨zs, rfl, hbg1⟩ := hbg.cons.resolve_left hre
        have hjz : ((j : Int) != 0) = true := by rw [bne_iff_ne]; omega
        have hjb : j < 4000000000 := by have h1 := HRR.out.2; have h2 := HM.out; omega
        have HRZ := Aside0.mk (show Rest (91 :: rest0) zs q from (show Rest (91 :: rest0) ([44] ++ zs) q from HRR.out.1).back)
        have HSK := Aside0.mk (HS.out wr _ _ HBr.out HDr.out HRR.out.1.bytes)
        rw [skip_none (by rfl)] at HSK
        obtain ⟨A2, m2, c2, rfl, hm2⟩ := HDr.out.formv
        have HIT := Aside0.mk (fun hz => item_cut hxok hxv hbb hbe hz hbg1)
        have HFB := Aside0.mk (show zs = [] ∨ ∃ l1, zs = b0 :: l1 by
          rw [hbl, List.cons_append] at hbg1
          rcases hbg1.cons with h | ⟨z, h, -⟩
          · exact .inl h
          · exact .inr ⟨z, h⟩)
        clear hm2 hre hbg hbg1 hbl hbeg hxok hxv hbb hbe hR
        go_upto_region 11 with (go_at_call 95; (with_reducible refine HSK.out.mono ?_); rintro e w2 ⟨v2, rfl, hs, hb⟩; have HD2 := Aside0.mk hs; have HB2 := Aside0.mk (HBr.out.trans (hb.mono HBr.out.size)); clear hs hb)
        obtain ⟨ad3, m3, c3, rfl, hm3, k3⟩ := HD2.out.first
        have hm3p : 0 < m3 := by omega
        have hz3 : ((m3 : Int) == 0) = false := by rw [beq_eq_false_iff_ne]; omega
        obtain ⟨A4, hcut4, hd4⟩ := HD2.out.next 22 1 .i64 Tryd.underlying22 (by omega)
        have hcut5 : ∀ W : World, (Instr.slice 22 (.slice (some ad3) m3 c3) (some (.int .i64 1)) none none).run Tryd.prog W = .ok (.slice A4 (m3 - 1) (c3 - 1)) W := hcut4
        have HD4 := Aside0.mk (show Sl w2 B (.slice A4 (m3 - 1) (c3 - 1)) zs from hd4)
        have HSK2 := Aside0.mk (HS.out w2 _ _ HB2.out HD4.out HRZ.out.bytes)
        clear hm3 hcut4 hd4
        rcases HFB.out with rfl | ⟨l1, rfl⟩
        · go_upto_region 22 with (go_at_call 95; (with_reducible refine HSK2.out.mono ?_); rintro e w3 ⟨v3, rfl, hs, hb⟩; have HD5 := Aside0.mk (show Sl w3 B v3 [] from hs); have HB3 := Aside0.mk (HB2.out.trans (hb.mono HB2.out.size)); clear hs hb)
          obtain ⟨A6, m6, c6, rfl, hm6⟩ := HD5.out.formv
          obtain rfl : m6 = 0 := hm6
          have hz6 : (((0 : Nat) : Int) == 0) = true := rfl
          clear k3 hcut5
          go_wp2_with (go_at_call 113; (with_reducible refine (eof_err _ _).mono ?_); rintro en w9 ⟨⟨g, rfl⟩, hb9⟩; have HB9 := Aside0.mk hb9; clear hb9)
          (try rw [Exit.noGoto_ret])
          go_returns
          exact ⟨_, _, _, g, rfl, HAL.out.trans ((HB3.out.trans (HB9.out.mono HB3.out.size)).mono HAL.out.size)⟩
        · rw [skip_none hsp] at HSK2
          go_upto_region 22 with (go_at_call 95; (with_reducible refine HSK2.out.mono ?_); rintro e w3 ⟨v3, rfl, hs, hb⟩; have HD5 := Aside0.mk hs; have HB3 := Aside0.mk (HB2.out.trans (hb.mono HB2.out.size)); clear hs hb)
          obtain ⟨ad6, m6, c6, rfl, hm6, k7⟩ := HD5.out.first
          have hm6p : 0 < m6 := by omega
          have hz6 : ((m6 : Int) == 0) = false := by rw [beq_eq_false_iff_ne]; omega
          have k6 := blk116 HBX.out HB3.out
          clear hm6 k3 hcut5
          rcases HIT.out (by simp) with hf | ⟨rest2, hb2, hl2, hm2, hg⟩
          · have HVV := Aside0.mk (show Calls Tryd.prog 94 #[.agg #[.int .u32 fl], .slice (some ad6) m6 c6] w3 (FailS w3) by
              have hl := HRZ.out.long
              have hm := HM.out
              rw [HFL.out]
              exact hf w3 B _ p q K0 HKB.out.1 HKB.out.2 HD5.out HRZ.out.bytes (by simp only [List.length_cons] at hl ⊢; omega) HRZ.out.noesc (HT.out.base H3.out.1 ((HAL.out.trans (HB3.out.mono HAL.out.size)).mono H3.out.2)) H3.out.1 (Nat.le_trans H3.out.2 (Nat.le_trans HAL.out.size HB3.out.size)))
            clear hf
            go_wp2_with (go_at_call 94; (with_reducible refine HVV.out.mono ?_); rintro e w9 ⟨v6, v7, K, g, rfl, hb9⟩; have HB9 := Aside0.mk hb9; clear hb9)
            (try rw [Exit.noGoto_ret])
            go_returns
            exact ⟨_, _, _, g, rfl, HAL.out.trans ((HB3.out.trans (HB9.out.mono HB3.out.size)).mono HAL.out.size)⟩
          · have HVV := Aside0.mk (show Calls Tryd.prog 94 #[.agg #[.int .u32 fl], .slice (some ad6) m6 c6] w3 (Went w3 B rest2) by
              have hl := HRZ.out.long
              have hm := HM.out
              rw [HFL.out]
              exact hg w3 B _ p q K0 HKB.out.1 HKB.out.2 HD5.out HRZ.out.bytes (by simp only [List.length_cons] at hl ⊢; omega) HRZ.out.noesc (HT.out.base H3.out.1 ((HAL.out.trans (HB3.out.mono HAL.out.size)).mono H3.out.2)) H3.out.1 (Nat.le_trans H3.out.2 (Nat.le_trans HAL.out.size HB3.out.size)))
            have HRN := Aside0.mk (show Rest (91 :: rest0) rest2 q ∧ rest2.length + (j + 1) ≤ rest0.length from ⟨HRZ.out.of hm2 (by omega), by have := HRR.out.2; simp only [List.length_cons] at this hl2; omega⟩)
            have HB4 := Aside0.mk hb2
            clear hg hb2 hl2 hm2
            go_wp2_with (go_at_call 94; (with_reducible refine HVV.out.mono ?_); rintro e w5 ⟨v6, v7, K, rfl, hv7, hb5⟩; have HV7 := Aside0.mk hv7; have HB5 := Aside0.mk (HB3.out.trans (hb5.mono HB3.out.size)); clear hv7 hb5)
            go_roundg k1
            case measure => omega
            case rel => exact ⟨j + 1, xs, ks.tail, rest2, rfl, by go_num, ⟨by have := HXS.out.1; simpa using this, fun y hy => HXS.out.2 y (List.mem_cons_of_mem _ hy)⟩, ⟨by have h := HB4.out; rw [HRE'.out] at h; simpa using h⟩, HRN, HV7, HB5⟩
end Go.Proofs.YtekmminmgjoabaaDoor.Js

namespace Go.Proofs.YtekmminmgjoabaaDoor.Js
open Go.RowKit Go.Proofs.YtekmminmgjoabaaDoorW.PrintWords Go.Proofs.YtekmminmgjoabaaDoorW.PrintLast Go.Proofs.YtekmminmgjoabaaDoorW.PrintMore Go.Proofs.YtekmminmgjoabaaDoor.PFnJSTokens
set_option linter.unusedVariables false
set_option linter.unusedSimpArgs false
/-- parseString refuses a key that is cut. -/
theorem key_cut {key zs : List Int} (hk : Plain 4 key) (hb : Beg zs key) (hz : zs ≠ []) (w : World) (B : Nat) (v : Value) (p q : Bool) (K0 : Int) (hK0 : 0 ≤ K0) (hK1 : K0 < 64) (hs : Sl w B v zs) (hby : Bytes zs) (hl : zs.length < 4000000000) (hq : q = true → 92 ∉ zs) (ht : Tab w) (hB : B ≤ w.heap.size) :
    Calls Tryd.prog 80 #[.agg #[.int .u32 (flK p q K0)], v] w (FailS w) := by
  cases hk with
  | @str l h =>
    obtain ⟨h34, hc⟩ := str_cut h hb hz
    have hl1 : 1 ≤ zs.length := List.length_pos_iff.2 hz
    obtain ⟨A, m, c, rfl, hm⟩ := hs.formv
    exact pcut w B _ _ _ _ zs l p q (by omega) hby hs hB h34 hl1 hc (flK_fl p q K0 hK0 hK1) hq ht
theorem key_beg {key zs t : List Int} (hk : Plain 4 key) (hb : Beg zs (key ++ t)) (hz : zs ≠ []) : ∃ l, zs = 34 :: l := by
  obtain ⟨kb, kr, rfl, rfl⟩ : ∃ kb kr, key = kb :: kr ∧ kb = 34 := by cases hk; exact ⟨_, _, rfl, rfl⟩
  rw [List.cons_append] at hb
  obtain ⟨l, rfl, -⟩ := hb.cons.resolve_left hz
  exact ⟨l, rfl⟩
set_option maxHeartbeats 4000000 in
set_option maxRecDepth 100000 in
theorem obj_one (w : World) (B : Nat) (v : Value) (fl : Int) (h : Sl w B v [123]) : Calls Tryd.prog 132 #[.agg #[.int .u32 fl], v] w (FailS w) := by
  obtain ⟨A, c, rfl, -⟩ := h.form
  obtain ⟨A', hcut, -⟩ := h.next 22 1 .i64 Tryd.underlying22 (Nat.le_refl _)
  have hcut3 : ∀ W : World, (Instr.slice 22 (.slice A 1 c) (some (.int .i64 1)) none none).run Tryd.prog W = .ok (.slice A' 0 (c - 1)) W := hcut
  clear h hcut
  show Calls Tryd.prog 132 #[.agg #[.int .u32 fl], .slice A 1 c] w (FailS w)
  go_enter Tryd.func132, Tryd.ntmps132
  go_upto_region 2 with (fail)
  go_region_with (go_at_call 113; (with_reducible refine (eof_err _ _).mono ?_); rintro e w3 ⟨⟨g, rfl⟩, hb3⟩; have HB3 := Aside0.mk hb3; clear hb3)
  all_goals
    go_wp2_with fail
    go_returns
    exact ⟨_, _, _, g, rfl, by first | exact (below_drew (below_alloc (Below.refl _ _) _)).trans (HB3.out.mono (by simp)) | exact (below_alloc (Below.refl _ _) _).trans (HB3.out.mono (by simp)) | exact below_drew ((below_alloc (Below.refl _ _) _).trans (HB3.out.mono (by simp)))⟩
set_option maxHeartbeats 4000000 in
set_option maxRecDepth 100000 in
theorem obj_cut (items : List JN) (keys : List (List Int)) (hkl : keys.length = items.length) (hks : ∀ s ∈ keys, Plain 4 s) (hok : ∀ x ∈ items, JOk x) (ih : ∀ x ∈ items, CutC x) (w : World) (B : Nat) (ad : Addr) (m c : Nat) (zs0 : List Int) (hbeg : Beg zs0 (123 :: (JN.itxt items keys true 0 ++ [125]))) (hl2 : 2 ≤ zs0.length) (p q : Bool) (K0 : Int) (hK0 : 0 ≤ K0) (hK1 : K0 < 64) (hJ : Sl w B (.slice (some ad) m c) zs0) (hby : Bytes zs0) (hlen : zs0.length < 4000000000) (hq : q = true → 92 ∉ zs0) (ht : Tab w) (h3 : 3 < B) (hB : B ≤ w.heap.size) :
    Calls Tryd.prog 132 #[.agg #[.int .u32 (flK p q K0)], .slice (some ad) m c] w (FailS w) := by
  rcases hbeg.cons with hz | ⟨rest0, rfl, hbeg1⟩
  · rw [hz] at hl2; simp at hl2
  have hml := hJ.len.1
  have hm2 : 2 ≤ m := by rw [hml]; exact hl2
  have hmx : m < 4000000000 := by rw [hml]; exact hlen
  obtain ⟨A1, hcut, hd⟩ := hJ.next 22 1 .i64 Tryd.underlying22 (by omega)
  obtain ⟨ad2, had, c0, -⟩ := hJ.at_ 0 (by omega)
  obtain rfl : ad = ad2 := by injection had
  have e0 : ad.add 0 = ad := by simp [Addr.add]
  rw [e0] at c0
  obtain ⟨fl, hfl⟩ : ∃ fl, fl = flK p q K0 := ⟨_, rfl⟩
  rw [← hfl]
  have HFL := Aside0.mk hfl
  obtain ⟨w0, hw0⟩ : ∃ w0, w0 = w.alloc (.cells #[.int .u32 fl] 116) := ⟨_, rfl⟩
  have hal : Below w.heap.size w w0 := by rw [hw0]; exact below_alloc (Below.refl w.heap.size w) _
  have HBX := Aside0.mk (show w0.heap[w.heap.size]? = some (.cells #[.int .u32 fl] 116 (0, 0)) by rw [hw0]; exact blk_new w _)
  have c1 : w0.cell? ad = some (.int .u8 123) := (pw_cell_below hal c0).trans rfl
  have HAL := Aside0.mk hal
  have HR0 := Aside0.mk (show Rest (123 :: rest0) rest0 q from (⟨hby, hq, Nat.le_refl _⟩ : Rest (123 :: rest0) ([123] ++ rest0) q).back)
  have HD := Aside0.mk (show Sl w0 B (.slice A1 (m - 1) (c - 1)) rest0 from (show Sl w B (.slice A1 (m - 1) (c - 1)) rest0 from hd).below (hal.mono hB))
  have HBEG := Aside0.mk hbeg1
  have HM := Aside0.mk (show m = rest0.length + 1 by rw [hml]; rfl)
  have HT := Aside0.mk ht
  have H3 := Aside0.mk (And.intro h3 hB)
  have HIH := Aside0.mk (fun x hx => And.intro (hok x hx) (ih x hx))
  have HKB := Aside0.mk (And.intro hK0 hK1)
  have HKY := Aside0.mk (And.intro hkl hks)
  have hcut1 : ∀ W : World, (Instr.slice 22 (.slice (some ad) m c) (some (.int .i64 1)) none none).run Tryd.prog W = .ok (.slice A1 (m - 1) (c - 1)) W := hcut
  clear hbeg hbeg1 hJ hby hlen hq hd hml ht h3 hB hok ih hkl hks hK0 hK1 had e0 c0 hal hfl hcut hl2
  have hn2 : ¬ ((m : Int) < 2) := by omega
  go_enter Tryd.func132, Tryd.ntmps132
  go_upto_region 3 with (fail)
  rw [← hw0]
  clear hw0
  go_upto_region 10 with (fail)
  clear hcut1 c1 hn2
  obtain ⟨mm, hmm⟩ : ∃ mm, mm = m - 1 := ⟨_, rfl⟩
  obtain ⟨cc1, hcc1⟩ : ∃ cc1, cc1 = c - 1 := ⟨_, rfl⟩
  rw [← hmm, ← hcc1] at HD ⊢
  clear hmm hcc1
  have HBG0 := Aside0.mk (show Beg rest0 (JN.itxt items keys true ((0 : Nat) : Int) ++ [125]) from HBEG.out)
  go_loopg [1, 8, 11] items.length (fun gk v1 v8 v11 w' => ∃ (j : Nat) (xs : List JN) (ks : List (List Int)) (rest : List Int), v8 = .nilIface ∧ v11 = .int .i64 (j : Int) ∧ Aside0 (xs.length = gk ∧ (∀ x ∈ xs, x ∈ items)) ∧ Aside0 (ks.length = xs.length ∧ ∀ s ∈ ks, Plain 4 s) ∧ Aside0 (Beg rest (JN.itxt xs ks true (j : Int) ++ [125])) ∧ Aside0 (Rest (123 :: rest0) rest q ∧ rest.length + j ≤ rest0.length) ∧ Aside0 (Sl w' B v1 rest) ∧ Aside0 (Below w0.heap.size w0 w'))
  case atStart => exact ⟨0, items, keys, rest0, rfl, rfl, ⟨rfl, fun x hx => hx⟩, HKY, HBG0, ⟨HR0.out, Nat.le_refl _⟩, HD, ⟨Below.refl _ _⟩⟩
  case round =>
    obtain ⟨j, xs, ks, rest, rfl, rfl, HXS, HKS, HBG, HRR, HDr, HBr⟩ := hrel
    have HS := Aside0.mk (fun (W : World) (v : Value) (zs : List Int) (hW : Below w0.heap.size w0 W) (h : Sl W B v zs) (hz : Bytes zs) => (show Calls Tryd.prog 95 #[v] W fun e w' => ∃ v', e = .returned v' ∧ Sl w' B v' (skipF zs) ∧ Below W.heap.size W w' by
      obtain ⟨A, c, rfl, -⟩ := h.form
      exact skip_calls W B A _ c zs h hz (Nat.le_trans H3.out.2 (Nat.le_trans HAL.out.size hW.size))))
    by_cases hre : rest = []
    · subst hre
      have HSK := Aside0.mk (HS.out wr _ _ HBr.out HDr.out HRR.out.1.bytes)
      obtain ⟨A2, m2, c2, rfl, hm2⟩ := HDr.out.formv
      clear hm2
      go_upto_region 11 with (go_at_call 95; (with_reducible refine HSK.out.mono ?_); rintro e w2 ⟨v2, rfl, hs, hb⟩; have HD2 := Aside0.mk (show Sl w2 B v2 [] from hs); have HB2 := Aside0.mk (HBr.out.trans (hb.mono HBr.out.size)); clear hs hb)
      obtain ⟨A3, m3, c3, rfl, hm3⟩ := HD2.out.formv
      obtain rfl : m3 = 0 := hm3
      have hz3 : (((0 : Nat) : Int) == 0) = true := rfl
      go_wp2_with (go_at_call 85; (with_reducible refine (syntax_err _ _ _ _).mono ?_); rintro en w9 ⟨⟨g, rfl⟩, hb9⟩; have HB9 := Aside0.mk hb9; clear hb9)
      (try rw [Exit.noGoto_ret])
      go_returns
      exact ⟨_, _, _, g, rfl, HAL.out.trans ((HB2.out.trans (HB9.out.mono HB2.out.size)).mono HAL.out.size)⟩
    cases gk with
    | zero =>
      obtain rfl : xs = [] := List.eq_nil_of_length_eq_zero HXS.out.1
      exact absurd (show Beg rest [125] from HBG.out).one hre
    | succ k1 =>
      cases xs with
      | nil => exact absurd HXS.out.1 (by simp)
      | cons x xs =>
      cases ks with
      | nil => exact absurd HKS.out.1 (by simp)
      | cons key ks =>
      have HKP := Aside0.mk (HKS.out.2 key List.mem_cons_self)
      obtain ⟨hxok, hxv⟩ := HIH.out x (HXS.out.2 x List.mem_cons_self)
      obtain ⟨R, hR⟩ : ∃ R, R = JN.itxt xs ks true ((j : Int) + 1) ++ [125] := ⟨_, rfl⟩
      have hbg : Beg rest ((if (0 : Int) < (j : Int) then [44] else []) ++ (key ++ 58 :: (x.txt ++ R))) := by
        have h := HBG.out
        rw [JN.itxt] at h
        rw [hR]; simpa using h
      have HRE' := Aside0.mk hR
      obtain ⟨bb, ll, hbb, hbe⟩ := itxt_behind true 125 (.inr rfl) xs ks ((j : Int) + 1) (by omega) []
      rw [← hR] at hbb
      obtain ⟨b0, l0, hbl, hbeg⟩ := txt_begins hxok
      have HSP := Aside0.mk hbeg.sp
      have HIT := Aside0.mk (fun (zs : List Int) (hb : Beg zs (x.txt ++ R)) => (show FailC zs ∨ ∃ rest, Beg rest R ∧ rest.length ≤ zs.length ∧ (∀ c ∈ rest, c ∈ zs) ∧ GoC zs rest by
        by_cases hz : zs = []
        · subst hz; exact .inl fail_nil
        · exact (item_cut hxok hxv hbb hbe hz hb).imp id (fun ⟨r, h1, h2, h3⟩ => ⟨r, h1, Nat.le_of_lt h2, h3⟩)))
      have HFB := Aside0.mk (fun (zs : List Int) (hb : Beg zs (x.txt ++ R)) => (show zs = [] ∨ ∃ l1, zs = b0 :: l1 by
        rw [hbl, List.cons_append] at hb
        rcases hb.cons with h | ⟨z, h, -⟩
        · exact .inl h
        · exact .inr ⟨z, h⟩))
      rcases Nat.eq_zero_or_pos j with rfl | hj
      · rw [if_neg (by decide), List.nil_append] at hbg
        obtain ⟨yl, hyl⟩ := key_beg HKP.out hbg hre
        have HKX := Aside0.mk hbg.append
        have HRY := Aside0.mk HRR.out.1
        subst hyl
        have HSK := Aside0.mk (HS.out wr _ _ HBr.out HDr.out HRR.out.1.bytes)
        rw [skip_none (by rfl)] at HSK
        obtain ⟨A2, m2, c2, rfl, hm2⟩ := HDr.out.formv
        clear hm2 hre hbg hbl hbeg hxok hxv hbb hbe hR
        go_upto_region 11 with (go_at_call 95; (with_reducible refine HSK.out.mono ?_); rintro e w2 ⟨v2, rfl, hs, hb⟩; have HD2 := Aside0.mk hs; have HB2 := Aside0.mk (HBr.out.trans (hb.mono HBr.out.size)); clear hs hb)
        obtain ⟨ad3, m3, c3, rfl, hm3, k3⟩ := HD2.out.first
        have hm3p : 0 < m3 := by omega
        have hz3 : ((m3 : Int) == 0) = false := by rw [beq_eq_false_iff_ne]; omega
        have k6 := blk116 HBX.out HB2.out
        clear hm3
        rcases HKX.out with hk | ⟨z, hz, hbz⟩
        · have HVV := Aside0.mk (show Calls Tryd.prog 80 #[.agg #[.int .u32 fl], .slice (some ad3) m3 c3] w2 (FailS w2) by
            have hl := HRY.out.long
            have hm := HM.out
            rw [HFL.out]
            exact key_cut HKP.out hk (by simp) w2 B _ p q K0 HKB.out.1 HKB.out.2 HD2.out HRY.out.bytes (by first | omega | (simp only [List.length_cons] at hl ⊢; omega)) HRY.out.noesc (HT.out.base H3.out.1 ((HAL.out.trans (HB2.out.mono HAL.out.size)).mono H3.out.2)) (Nat.le_trans H3.out.2 (Nat.le_trans HAL.out.size HB2.out.size)))
          clear hk
          go_wp2_with (go_at_call 80; (with_reducible refine HVV.out.mono ?_); rintro e w9 ⟨v6, v7, K, g, rfl, hb9⟩; have HB9 := Aside0.mk hb9; clear hb9)
          (try rw [Exit.noGoto_ret])
          go_returns
          exact ⟨_, _, _, g, rfl, HAL.out.trans ((HB2.out.trans (HB9.out.mono HB2.out.size)).mono HAL.out.size)⟩
        · have HRC := Aside0.mk (show Rest (123 :: rest0) z q by have h := HRY.out; rw [hz] at h; exact h.back)
          have HLZ := Aside0.mk (show z.length < (34 :: yl).length by rw [hz]; cases HKP.out; simp; omega)
          have HVV := Aside0.mk (show Calls Tryd.prog 80 #[.agg #[.int .u32 fl], .slice (some ad3) m3 c3] w2 (ParsePost w2 B key z (KSet 4 key)) by
            have hs := HD2.out
            have hb := HRY.out
            rw [hz] at hs hb
            have hl := hb.long
            have hm := HM.out
            rw [HFL.out]
            exact str_parse w2 B _ key z p q K0 HKB.out.1 HKB.out.2 HKP.out hs hb.bytes (by first | omega | (simp only [List.length_cons] at hl ⊢; omega)) hb.noesc (HT.out.base H3.out.1 ((HAL.out.trans (HB2.out.mono HAL.out.size)).mono H3.out.2)) (Nat.le_trans H3.out.2 (Nat.le_trans HAL.out.size HB2.out.size)))
          have HBZ := Aside0.mk hbz
          clear hz hbz
          go_upto_region 29 with (go_at_call 80; (with_reducible refine HVV.out.mono ?_); rintro e w4 ⟨v6, v7, K, rfl, -, -, hv7, hb5⟩; have HV7 := Aside0.mk hv7; have HB4 := Aside0.mk (HB2.out.trans (hb5.mono HB2.out.size)); clear hv7 hb5)
          have HSK3 := Aside0.mk (HS.out w4 _ _ HB4.out HV7.out HRC.out.bytes)
          obtain ⟨A7, m7, c7, rfl, hm7⟩ := HV7.out.formv
          clear hm7 k6 k3
          rcases HBZ.out.cons with rfl | ⟨zs, rfl, hbzs⟩
          · -- the colon is missing
            go_upto_region 30 with (go_at_call 95; (with_reducible refine HSK3.out.mono ?_); rintro e w5 ⟨v8, rfl, hs, hb⟩; have HD8 := Aside0.mk (show Sl w5 B v8 [] from hs); have HB5 := Aside0.mk (HB4.out.trans (hb.mono HB4.out.size)); clear hs hb)
            obtain ⟨A8, m8, c8, rfl, hm8⟩ := HD8.out.formv
            obtain rfl : m8 = 0 := hm8
            have hz8 : (((0 : Nat) : Int) == 0) = true := rfl
            go_wp2_with (go_at_call 85; (with_reducible refine (syntax_err _ _ _ _).mono ?_); rintro en w9 ⟨⟨g, rfl⟩, hb9⟩; have HB9 := Aside0.mk hb9; clear hb9)
            (try rw [Exit.noGoto_ret])
            go_returns
            exact ⟨_, _, _, g, rfl, HAL.out.trans ((HB5.out.trans (HB9.out.mono HB5.out.size)).mono HAL.out.size)⟩
          · have HBZS := Aside0.mk hbzs
            rw [skip_none (by rfl)] at HSK3
            have HRZ := Aside0.mk (show Rest (123 :: rest0) zs q from (show Rest (123 :: rest0) ([58] ++ zs) q from HRC.out).back)
            go_upto_region 30 with (go_at_call 95; (with_reducible refine HSK3.out.mono ?_); rintro e w5 ⟨v8, rfl, hs, hb⟩; have HD8 := Aside0.mk hs; have HB5 := Aside0.mk (HB4.out.trans (hb.mono HB4.out.size)); clear hs hb)
            obtain ⟨ad8, m8, c8, rfl, hm8, k8⟩ := HD8.out.first
            have hm8p : 0 < m8 := by omega
            have hz8 : ((m8 : Int) == 0) = false := by rw [beq_eq_false_iff_ne]; omega
            obtain ⟨A9, hcut9, hd9⟩ := HD8.out.next 22 1 .i64 Tryd.underlying22 (by omega)
            have hcut10 : ∀ W : World, (Instr.slice 22 (.slice (some ad8) m8 c8) (some (.int .i64 1)) none none).run Tryd.prog W = .ok (.slice A9 (m8 - 1) (c8 - 1)) W := hcut9
            have HD9 := Aside0.mk (show Sl w5 B (.slice A9 (m8 - 1) (c8 - 1)) zs from hd9)
            have HSK4 := Aside0.mk (show Calls Tryd.prog 95 #[.slice A9 (m8 - 1) (c8 - 1)] w5 fun e w' => ∃ v', e = .returned v' ∧ Sl w' B v' zs ∧ Below w5.heap.size w5 w' by
              have h := HS.out w5 _ _ HB5.out HD9.out HRZ.out.bytes
              rcases HFB.out zs HBZS.out with e | ⟨l1, e⟩
              · rw [e] at h ⊢; exact h
              · rw [e, skip_none HSP.out] at h; rw [e]; exact h)
            clear hm8 hcut9 hd9 hbzs
            go_upto_region 35 with (go_at_call 95; (with_reducible refine HSK4.out.mono ?_); rintro e w6 ⟨v9, rfl, hs, hb⟩; have HD10 := Aside0.mk hs; have HB6 := Aside0.mk (HB5.out.trans (hb.mono HB5.out.size)); clear hs hb)
            obtain ⟨A11, m11, c11, rfl, hm11⟩ := HD10.out.formv
            have k10 := blk116 HBX.out HB6.out
            clear hm11 k8 hcut10
            rcases HIT.out zs HBZS.out with hf | ⟨rest2, hb2, hl2, hm2, hg⟩
            · have HVV := Aside0.mk (show Calls Tryd.prog 94 #[.agg #[.int .u32 fl], .slice A11 m11 c11] w6 (FailS w6) by
                have hl := HRZ.out.long
                have hm := HM.out
                rw [HFL.out]
                exact hf w6 B _ p q K0 HKB.out.1 HKB.out.2 HD10.out HRZ.out.bytes (by first | omega | (simp only [List.length_cons] at hl ⊢; omega)) HRZ.out.noesc (HT.out.base H3.out.1 ((HAL.out.trans (HB6.out.mono HAL.out.size)).mono H3.out.2)) H3.out.1 (Nat.le_trans H3.out.2 (Nat.le_trans HAL.out.size HB6.out.size)))
              clear hf
              go_wp2_with (go_at_call 94; (with_reducible refine HVV.out.mono ?_); rintro e w9 ⟨v6, v7, K, g, rfl, hb9⟩; have HB9 := Aside0.mk hb9; clear hb9)
              (try rw [Exit.noGoto_ret])
              go_returns
              exact ⟨_, _, _, g, rfl, HAL.out.trans ((HB6.out.trans (HB9.out.mono HB6.out.size)).mono HAL.out.size)⟩
            · have HVV := Aside0.mk (show Calls Tryd.prog 94 #[.agg #[.int .u32 fl], .slice A11 m11 c11] w6 (Went w6 B rest2) by
                have hl := HRZ.out.long
                have hm := HM.out
                rw [HFL.out]
                exact hg w6 B _ p q K0 HKB.out.1 HKB.out.2 HD10.out HRZ.out.bytes (by first | omega | (simp only [List.length_cons] at hl ⊢; omega)) HRZ.out.noesc (HT.out.base H3.out.1 ((HAL.out.trans (HB6.out.mono HAL.out.size)).mono H3.out.2)) H3.out.1 (Nat.le_trans H3.out.2 (Nat.le_trans HAL.out.size HB6.out.size)))
              have HRN := Aside0.mk (show Rest (123 :: rest0) rest2 q ∧ rest2.length + (0 + 1) ≤ rest0.length from ⟨HRZ.out.of hm2 (by omega), by have := HRR.out.2; have := HLZ.out; simp only [List.length_cons] at *; omega⟩)
              have HB3' := Aside0.mk hb2
              clear hg hb2 hl2 hm2
              go_wp2_with (go_at_call 94; (with_reducible refine HVV.out.mono ?_); rintro e w7 ⟨v12, v13, K2, rfl, hv13, hb7⟩; have HV13 := Aside0.mk hv13; have HB7 := Aside0.mk (HB6.out.trans (hb7.mono HB6.out.size)); clear hv13 hb7)
              go_roundg k1
              case measure => omega
              case rel => exact ⟨1, xs, ks, rest2, rfl, by go_num, ⟨by have := HXS.out.1; simpa using this, fun y hy => HXS.out.2 y (List.mem_cons_of_mem _ hy)⟩, ⟨by have := HKS.out.1; simpa using this, fun s hs => HKS.out.2 s (List.mem_cons_of_mem _ hs)⟩, ⟨by have h := HB3'.out; rw [HRE'.out] at h; simpa using h⟩, HRN, HV13, HB7⟩
      · rw [if_pos (by omega), List.cons_append, List.nil_append] at hbg
        obtain ⟨ys, rfl, hbg1⟩ := hbg.cons.resolve_left hre
        have hjz : ((j : Int) != 0) = true := by rw [bne_iff_ne]; omega
        have hjb : j < 4000000000 := by have h1 := HRR.out.2; have h2 := HM.out; omega
        have HRY := Aside0.mk (show Rest (123 :: rest0) ys q from (show Rest (123 :: rest0) ([44] ++ ys) q from HRR.out.1).back)
        have HSK := Aside0.mk (HS.out wr _ _ HBr.out HDr.out HRR.out.1.bytes)
        rw [skip_none (by rfl)] at HSK
        obtain ⟨A2, m2, c2, rfl, hm2⟩ := HDr.out.formv
        have HKX := Aside0.mk hbg1.append
        have HYB := Aside0.mk (fun hz => key_beg HKP.out hbg1 hz)
        clear hm2 hre hbg hbg1 hbl hbeg hxok hxv hbb hbe hR
        go_upto_region 11 with (go_at_call 95; (with_reducible refine HSK.out.mono ?_); rintro e w2 ⟨v2, rfl, hs, hb⟩; have HD2 := Aside0.mk hs; have HB2 := Aside0.mk (HBr.out.trans (hb.mono HBr.out.size)); clear hs hb)
        obtain ⟨ad3, m3, c3, rfl, hm3, k3⟩ := HD2.out.first
        have hm3p : 0 < m3 := by omega
        have hz3 : ((m3 : Int) == 0) = false := by rw [beq_eq_false_iff_ne]; omega
        obtain ⟨A4, hcut4, hd4⟩ := HD2.out.next 22 1 .i64 Tryd.underlying22 (by omega)
        have hcut5 : ∀ W : World, (Instr.slice 22 (.slice (some ad3) m3 c3) (some (.int .i64 1)) none none).run Tryd.prog W = .ok (.slice A4 (m3 - 1) (c3 - 1)) W := hcut4
        have HD4 := Aside0.mk (show Sl w2 B (.slice A4 (m3 - 1) (c3 - 1)) ys from hd4)
        have HSK2 := Aside0.mk (HS.out w2 _ _ HB2.out HD4.out HRY.out.bytes)
        clear hm3 hcut4 hd4
        by_cases hys : ys = []
        · subst hys
          go_upto_region 22 with (go_at_call 95; (with_reducible refine HSK2.out.mono ?_); rintro e w3 ⟨v3, rfl, hs, hb⟩; have HD5 := Aside0.mk (show Sl w3 B v3 [] from hs); have HB3 := Aside0.mk (HB2.out.trans (hb.mono HB2.out.size)); clear hs hb)
          obtain ⟨A6, m6, c6, rfl, hm6⟩ := HD5.out.formv
          obtain rfl : m6 = 0 := hm6
          have hz6 : (((0 : Nat) : Int) == 0) = true := rfl
          clear k3 hcut5
          go_wp2_with (go_at_call 113; (with_reducible refine (eof_err _ _).mono ?_); rintro en w9 ⟨⟨g, rfl⟩, hb9⟩; have HB9 := Aside0.mk hb9; clear hb9)
          (try rw [Exit.noGoto_ret])
          go_returns
          exact ⟨_, _, _, g, rfl, HAL.out.trans ((HB3.out.trans (HB9.out.mono HB3.out.size)).mono HAL.out.size)⟩
        · obtain ⟨yl, rfl⟩ := HYB.out hys
          rw [skip_none (by rfl)] at HSK2
          go_upto_region 22 with (go_at_call 95; (with_reducible refine HSK2.out.mono ?_); rintro e w3 ⟨v3, rfl, hs, hb⟩; have HD5 := Aside0.mk hs; have HB3 := Aside0.mk (HB2.out.trans (hb.mono HB2.out.size)); clear hs hb)
          obtain ⟨ad6, m6, c6, rfl, hm6, k7⟩ := HD5.out.first
          have hm6p : 0 < m6 := by omega
          have hz6 : ((m6 : Int) == 0) = false := by rw [beq_eq_false_iff_ne]; omega
          have k6 := blk116 HBX.out HB3.out
          clear hm6 k3 hcut5
          rcases HKX.out with hk | ⟨z, hz, hbz⟩
          · have HVV := Aside0.mk (show Calls Tryd.prog 80 #[.agg #[.int .u32 fl], .slice (some ad6) m6 c6] w3 (FailS w3) by
              have hl := HRY.out.long
              have hm := HM.out
              rw [HFL.out]
              exact key_cut HKP.out hk (by simp) w3 B _ p q K0 HKB.out.1 HKB.out.2 HD5.out HRY.out.bytes (by first | omega | (simp only [List.length_cons] at hl ⊢; omega)) HRY.out.noesc (HT.out.base H3.out.1 ((HAL.out.trans (HB3.out.mono HAL.out.size)).mono H3.out.2)) (Nat.le_trans H3.out.2 (Nat.le_trans HAL.out.size HB3.out.size)))
            clear hk
            go_wp2_with (go_at_call 80; (with_reducible refine HVV.out.mono ?_); rintro e w9 ⟨v6, v7, K, g, rfl, hb9⟩; have HB9 := Aside0.mk hb9; clear hb9)
            (try rw [Exit.noGoto_ret])
            go_returns
            exact ⟨_, _, _, g, rfl, HAL.out.trans ((HB3.out.trans (HB9.out.mono HB3.out.size)).mono HAL.out.size)⟩
          · have HRC := Aside0.mk (show Rest (123 :: rest0) z q by have h := HRY.out; rw [hz] at h; exact h.back)
            have HLZ := Aside0.mk (show z.length < (34 :: yl).length by rw [hz]; cases HKP.out; simp; omega)
            have HVV := Aside0.mk (show Calls Tryd.prog 80 #[.agg #[.int .u32 fl], .slice (some ad6) m6 c6] w3 (ParsePost w3 B key z (KSet 4 key)) by
              have hs := HD5.out
              have hb := HRY.out
              rw [hz] at hs hb
              have hl := hb.long
              have hm := HM.out
              rw [HFL.out]
              exact str_parse w3 B _ key z p q K0 HKB.out.1 HKB.out.2 HKP.out hs hb.bytes (by first | omega | (simp only [List.length_cons] at hl ⊢; omega)) hb.noesc (HT.out.base H3.out.1 ((HAL.out.trans (HB3.out.mono HAL.out.size)).mono H3.out.2)) (Nat.le_trans H3.out.2 (Nat.le_trans HAL.out.size HB3.out.size)))
            have HBZ := Aside0.mk hbz
            clear hz hbz
            go_upto_region 29 with (go_at_call 80; (with_reducible refine HVV.out.mono ?_); rintro e w4 ⟨v6, v7, K, rfl, -, -, hv7, hb5⟩; have HV7 := Aside0.mk hv7; have HB4 := Aside0.mk (HB3.out.trans (hb5.mono HB3.out.size)); clear hv7 hb5)
            have HSK3 := Aside0.mk (HS.out w4 _ _ HB4.out HV7.out HRC.out.bytes)
            obtain ⟨A7, m7, c7, rfl, hm7⟩ := HV7.out.formv
            clear hm7 k6 k7
            rcases HBZ.out.cons with rfl | ⟨zs, rfl, hbzs⟩
            · -- the colon is missing
              go_upto_region 30 with (go_at_call 95; (with_reducible refine HSK3.out.mono ?_); rintro e w5 ⟨v8, rfl, hs, hb⟩; have HD8 := Aside0.mk (show Sl w5 B v8 [] from hs); have HB5 := Aside0.mk (HB4.out.trans (hb.mono HB4.out.size)); clear hs hb)
              obtain ⟨A8, m8, c8, rfl, hm8⟩ := HD8.out.formv
              obtain rfl : m8 = 0 := hm8
              have hz8 : (((0 : Nat) : Int) == 0) = true := rfl
              go_wp2_with (go_at_call 85; (with_reducible refine (syntax_err _ _ _ _).mono ?_); rintro en w9 ⟨⟨g, rfl⟩, hb9⟩; have HB9 := Aside0.mk hb9; clear hb9)
              (try rw [Exit.noGoto_ret])
              go_returns
              exact ⟨_, _, _, g, rfl, HAL.out.trans ((HB5.out.trans (HB9.out.mono HB5.out.size)).mono HAL.out.size)⟩
            · have HBZS := Aside0.mk hbzs
              rw [skip_none (by rfl)] at HSK3
              have HRZ := Aside0.mk (show Rest (123 :: rest0) zs q from (show Rest (123 :: rest0) ([58] ++ zs) q from HRC.out).back)
              go_upto_region 30 with (go_at_call 95; (with_reducible refine HSK3.out.mono ?_); rintro e w5 ⟨v8, rfl, hs, hb⟩; have HD8 := Aside0.mk hs; have HB5 := Aside0.mk (HB4.out.trans (hb.mono HB4.out.size)); clear hs hb)
              obtain ⟨ad8, m8, c8, rfl, hm8, k8⟩ := HD8.out.first
              have hm8p : 0 < m8 := by omega
              have hz8 : ((m8 : Int) == 0) = false := by rw [beq_eq_false_iff_ne]; omega
              obtain ⟨A9, hcut9, hd9⟩ := HD8.out.next 22 1 .i64 Tryd.underlying22 (by omega)
              have hcut10 : ∀ W : World, (Instr.slice 22 (.slice (some ad8) m8 c8) (some (.int .i64 1)) none none).run Tryd.prog W = .ok (.slice A9 (m8 - 1) (c8 - 1)) W := hcut9
              have HD9 := Aside0.mk (show Sl w5 B (.slice A9 (m8 - 1) (c8 - 1)) zs from hd9)
              have HSK4 := Aside0.mk (show Calls Tryd.prog 95 #[.slice A9 (m8 - 1) (c8 - 1)] w5 fun e w' => ∃ v', e = .returned v' ∧ Sl w' B v' zs ∧ Below w5.heap.size w5 w' by
                have h := HS.out w5 _ _ HB5.out HD9.out HRZ.out.bytes
                rcases HFB.out zs HBZS.out with e | ⟨l1, e⟩
                · rw [e] at h ⊢; exact h
                · rw [e, skip_none HSP.out] at h; rw [e]; exact h)
              clear hm8 hcut9 hd9 hbzs
              go_upto_region 35 with (go_at_call 95; (with_reducible refine HSK4.out.mono ?_); rintro e w6 ⟨v9, rfl, hs, hb⟩; have HD10 := Aside0.mk hs; have HB6 := Aside0.mk (HB5.out.trans (hb.mono HB5.out.size)); clear hs hb)
              obtain ⟨A11, m11, c11, rfl, hm11⟩ := HD10.out.formv
              have k10 := blk116 HBX.out HB6.out
              clear hm11 k8 hcut10
              rcases HIT.out zs HBZS.out with hf | ⟨rest2, hb2, hl2, hm2, hg⟩
              · have HVV := Aside0.mk (show Calls Tryd.prog 94 #[.agg #[.int .u32 fl], .slice A11 m11 c11] w6 (FailS w6) by
                  have hl := HRZ.out.long
                  have hm := HM.out
                  rw [HFL.out]
                  exact hf w6 B _ p q K0 HKB.out.1 HKB.out.2 HD10.out HRZ.out.bytes (by first | omega | (simp only [List.length_cons] at hl ⊢; omega)) HRZ.out.noesc (HT.out.base H3.out.1 ((HAL.out.trans (HB6.out.mono HAL.out.size)).mono H3.out.2)) H3.out.1 (Nat.le_trans H3.out.2 (Nat.le_trans HAL.out.size HB6.out.size)))
                clear hf
                go_wp2_with (go_at_call 94; (with_reducible refine HVV.out.mono ?_); rintro e w9 ⟨v6, v7, K, g, rfl, hb9⟩; have HB9 := Aside0.mk hb9; clear hb9)
                (try rw [Exit.noGoto_ret])
                go_returns
                exact ⟨_, _, _, g, rfl, HAL.out.trans ((HB6.out.trans (HB9.out.mono HB6.out.size)).mono HAL.out.size)⟩
              · have HVV := Aside0.mk (show Calls Tryd.prog 94 #[.agg #[.int .u32 fl], .slice A11 m11 c11] w6 (Went w6 B rest2) by
                  have hl := HRZ.out.long
                  have hm := HM.out
                  rw [HFL.out]
                  exact hg w6 B _ p q K0 HKB.out.1 HKB.out.2 HD10.out HRZ.out.bytes (by first | omega | (simp only [List.length_cons] at hl ⊢; omega)) HRZ.out.noesc (HT.out.base H3.out.1 ((HAL.out.trans (HB6.out.mono HAL.out.size)).mono H3.out.2)) H3.out.1 (Nat.le_trans H3.out.2 (Nat.le_trans HAL.out.size HB6.out.size)))
                have HRN := Aside0.mk (show Rest (123 :: rest0) rest2 q ∧ rest2.length + (j + 1) ≤ rest0.length from ⟨HRZ.out.of hm2 (by omega), by have := HRR.out.2; have := HLZ.out; simp only [List.length_cons] at *; omega⟩)
                have HB3' := Aside0.mk hb2
                clear hg hb2 hl2 hm2
                go_wp2_with (go_at_call 94; (with_reducible refine HVV.out.mono ?_); rintro e w7 ⟨v12, v13, K2, rfl, hv13, hb7⟩; have HV13 := Aside0.mk hv13; have HB7 := Aside0.mk (HB6.out.trans (hb7.mono HB6.out.size)); clear hv13 hb7)
                go_roundg k1
                case measure => omega
                case rel => exact ⟨j + 1, xs, ks, rest2, rfl, by go_num, ⟨by have := HXS.out.1; simpa using this, fun y hy => HXS.out.2 y (List.mem_cons_of_mem _ hy)⟩, ⟨by have := HKS.out.1; simpa using this, fun s hs => HKS.out.2 s (List.mem_cons_of_mem _ hs)⟩, ⟨by have h := HB3'.out; rw [HRE'.out] at h; simpa using h⟩, HRN, HV13, HB7⟩
end Go.Proofs.YtekmminmgjoabaaDoor.Js

namespace Go.Proofs.YtekmminmgjoabaaDoor.Js
open Go.RowKit Go.Proofs.YtekmminmgjoabaaDoorW.PrintWords Go.Proofs.YtekmminmgjoabaaDoorW.PrintLast Go.Proofs.YtekmminmgjoabaaDoorW.PrintMore Go.Proofs.YtekmminmgjoabaaDoor.PFnJSTokens
set_option linter.unusedVariables false
set_option linter.unusedSimpArgs false
theorem cut_all {n : JN} (h : JOk n) : CutC n := by
  induction h with
  | leaf hp => exact cut_leaf hp
  | @arr t items keys hx ih =>
    intro zs hb
    have htx : (JN.mk 5 t items keys).txt = 91 :: (JN.itxt items keys false 0 ++ [93]) := by rw [JN.txt, if_neg (by omega), if_neg (by omega)]
    rw [htx] at hb
    rcases hb.cons with rfl | ⟨z, rfl, -⟩
    · exact .inl fail_nil
    refine .inl fun w B v p q K0 hK0 hK1 hs hby hl hq ht h3 hB => ?_
    obtain ⟨ad, m, c, rfl, hm, -⟩ := hs.first
    refine pc_arr w B ad m c _ _ (by omega) hs 91 rfl rfl ⟨fun W hW => ?_⟩
    by_cases hz : z = []
    · subst hz; exact arr_one W B _ _ (hs.below (hW.mono hB))
    · exact arr_cut items keys hx ih W B ad m c _ hb (by have := List.length_pos_iff.2 hz; simp; omega) p q K0 hK0 hK1 (hs.below (hW.mono hB)) hby hl hq (ht.base h3 (hW.mono hB)) h3 (Nat.le_trans hB hW.size)
  | @obj t items keys hne hl0 hks hx ih =>
    intro zs hb
    have htx : (JN.mk 6 t items keys).txt = 123 :: (JN.itxt items keys true 0 ++ [125]) := by rw [JN.txt, if_neg (by omega), if_pos rfl]
    rw [htx] at hb
    rcases hb.cons with rfl | ⟨z, rfl, -⟩
    · exact .inl fail_nil
    refine .inl fun w B v p q K0 hK0 hK1 hs hby hl hq ht h3 hB => ?_
    obtain ⟨ad, m, c, rfl, hm, -⟩ := hs.first
    refine pc_obj w B ad m c _ _ (by omega) hs 123 rfl rfl ⟨fun W hW => ?_⟩
    by_cases hz : z = []
    · subst hz; exact obj_one W B _ _ (hs.below (hW.mono hB))
    · exact obj_cut items keys hl0 hks hx ih W B ad m c _ hb (by have := List.length_pos_iff.2 hz; simp; omega) p q K0 hK0 hK1 (hs.below (hW.mono hB)) hby hl hq (ht.base h3 (hW.mono hB)) h3 (Nat.le_trans hB hW.size)
theorem cut_fail {n : JN} (h : JOk n) (hk : n.kind ≠ 3) {zs : List Int} (hb : Beg zs n.txt) : FailC zs := (cut_all h zs hb).resolve_right fun h => hk h.1
theorem skip_beg {n : JN} (h : JOk n) {zs : List Int} (hb : Beg zs n.txt) : skipF zs = zs := by
  obtain ⟨b0, l0, hbl, hbeg⟩ := txt_begins h
  rw [hbl] at hb
  rcases hb.cons with rfl | ⟨z, rfl, -⟩
  · rfl
  · exact skip_none hbeg.sp
set_option maxHeartbeats 4000000 in
set_option maxRecDepth 100000 in
theorem cut60 {n : JN} (hok : JOk n) (hk3 : n.kind ≠ 3) (w : World) (B : Nat) (h3 : 3 < B) (hB : B ≤ w.heap.size) (v : Value) (zs : List Int) (hbg : Beg zs n.txt) (hs : Sl w B v zs) (hby : Bytes zs) (hl : zs.length < 4000000000) (ht : Tab w) :
    Calls Tryd.prog 60 #[v] w fun e w' => (∃ v1 v2 K, e = .returned (.tuple #[v1, v2, .int .u64 K, .bool false])) ∧ Below w.heap.size w w' := by
  obtain ⟨A, m, c, rfl, hm⟩ := hs.formv
  have hsk := skip_beg hok hbg
  have hfc := cut_fail hok hk3 hbg
  have HF := Aside0.mk (flags_calls w B A m c zs hs hby hB (by omega))
  have HS := Aside0.mk (fun (W : World) (hW : Below w.heap.size w W) => (show Calls Tryd.prog 95 #[.slice A m c] W fun e w' => ∃ v, e = .returned v ∧ Sl w' B v zs ∧ Below W.heap.size W w' by
    have h := skip_calls W B A m c zs (hs.below (hW.mono hB)) hby (Nat.le_trans hB hW.size)
    rw [hsk] at h
    exact h))
  have HV := Aside0.mk (fun (W : World) (v : Value) (p q : Bool) (hW : Below w.heap.size w W) (hv : Sl W B v zs) (hf : FlagsOk zs p q) => hfc W B v p q 0 (by decide) (by decide) hv hby hl hf.2 (ht.base h3 (hW.mono hB)) h3 (Nat.le_trans hB hW.size))
  clear hs hby hl hm hsk hfc hbg h3 ht hok
  go_enter Tryd.func60, Tryd.ntmps60
  go_upto_region 2 with (go_at_call 79; (with_reducible refine HF.out.mono ?_); rintro e W1 ⟨p, q, he, hf, hb1⟩; rw [flK_zero] at he; obtain ⟨fl, hfl⟩ : ∃ fl, fl = flK p q 0 := ⟨_, rfl⟩; rw [← hfl] at he; subst he; have HF1 := Aside0.mk hf; have HFL := Aside0.mk hfl; have HB1 := Aside0.mk hb1; clear hf hb1 hfl)
  obtain ⟨W2, hW2⟩ : ∃ W2, W2 = W1.alloc (.cells #[.int .u32 fl] 116) := ⟨_, rfl⟩
  have HBX := Aside0.mk (show W2.heap[W1.heap.size]? = some (.cells #[.int .u32 fl] 116 (0, 0)) by rw [hW2]; exact blk_new W1 _)
  have HB2 := Aside0.mk (show Below w.heap.size w W2 by rw [hW2]; exact below_alloc HB1.out _)
  rw [← hW2]
  clear hW2
  have k6 := blk116 HBX.out (Below.refl _ _)
  go_region_with (first
    | (go_at_call 95; (with_reducible refine (HS.out _ ?_).mono ?_); (first | exact HB2.out | exact below_drew HB2.out); rintro e W3 ⟨v3, rfl, hs3, hb3⟩; have HS3 := Aside0.mk hs3; have HB23 := Aside0.mk (show Below W2.heap.size W2 W3 from (below_drew (Below.refl _ _)).trans hb3); have k7 := blk116 HBX.out HB23.out; clear hs3 hb3)
    | (go_at_call 94; rw [HFL.out]; (with_reducible refine (HV.out _ _ _ _ (HB2.out.trans (HB23.out.mono HB2.out.size)) HS3.out HF1.out).mono ?_); rintro e W4 ⟨v1, v2, K, g, rfl, hb4⟩; have HB4 := Aside0.mk (show Below w.heap.size w W4 from (HB2.out.trans (HB23.out.mono HB2.out.size)).trans (hb4.mono (HB2.out.trans (HB23.out.mono HB2.out.size)).size)); clear hb4))
  all_goals
    go_upto_region 3 with (fail)
    go_region
    all_goals
      go_wp2_with fail
      go_returns
      refine ⟨⟨v1, v2, K, rfl⟩, ?_⟩
      first | exact HB4.out | exact below_drew HB4.out
set_option maxHeartbeats 4000000 in
set_option maxRecDepth 100000 in
theorem cut30 {n : JN} (hok : JOk n) (hk3 : n.kind ≠ 3) (w : World) (v : Value) (zs : List Int) (hbg : Beg zs n.txt) (hs : Sl w w.heap.size v zs) (hby : Bytes zs) (hl : zs.length < 4000000000) (ht : Tab w) :
    Calls Tryd.prog 30 #[v] w fun e w' => e = .returned (.tuple #[.slice none 0 0, .slice none 0 0, .int .i64 0, .bool false]) ∧ Below w.heap.size w w' := by
  have h3 := tab_lt ht
  have hal := below_alloc (Below.refl w.heap.size w) (.cells #[.bool false] 4)
  have HOK := Aside0.mk (blk_new w (.cells #[.bool false] 4))
  have HAL := Aside0.mk hal
  have HN := Aside0.mk (cut60 hok hk3 (w.alloc (.cells #[.bool false] 4)) w.heap.size h3 (by simp) v zs hbg (hs.below hal) hby hl (ht.base h3 hal))
  clear hal hs hby hl ht h3 hbg hok
  go_enter_defers Tryd.func30, Tryd.ntmps30
  go_upto_region 3 with (first
    | (go_at_call 60; (with_reducible refine HN.out.mono ?_); rintro e W1 ⟨⟨v1, v2, K, rfl⟩, hb1⟩; have HB1 := Aside0.mk (HAL.out.trans (hb1.mono HAL.out.size)); have HOK1 := Aside0.mk (blk_below HOK.out hb1); clear hb1)
    | ((with_reducible refine gate_st rfl ?_); refine store_any _ _ _ rfl rfl rfl HOK1.out rfl (by simp) rfl rfl rfl (by kernel_rfl) ?_; intro W2 hb1 hk1 hg1; have HS2 := Aside0.mk (show W2.heap[w.heap.size]? = some (.cells #[.bool false] 4 (0, 0)) from hb1); have HB2 := Aside0.mk (HB1.out.trans hg1); clear hb1 hk1 hg1))
  have hcc : W2.cell? ⟨w.heap.size, 0, none⟩ = some (.bool false) := (blk_cell HS2.out 0).trans rfl
  go_upto_region 4 with (fail)
  clear hcc
  go_wp2_with ((with_reducible refine gate_st rfl ?_); refine store_any _ _ _ rfl rfl rfl HS2.out rfl (by simp) rfl rfl rfl (by kernel_rfl) ?_; intro W6 hb1 hk1 hg1; have HS6 := Aside0.mk (show W6.heap[w.heap.size]? = some (.cells #[.bool false] 4 (0, 0)) from hb1); have HB6 := Aside0.mk (HB2.out.trans hg1); clear hb1 hk1 hg1)
  refine leaves_cons (f := 53) (args := #[.pointer (some ⟨w.heap.size, 0, none⟩)]) (by simp) (by simp [go_sem]) ?_
  refine (caught_idle _ _).mono ?_
  rintro e u' w'' ⟨rfl, rfl, rfl⟩
  have hcc : w''.cell? ⟨w.heap.size, 0, none⟩ = some (.bool false) := (blk_cell HS6.out 0).trans rfl
  refine ⟨.tuple #[.slice none 0 0, .slice none 0 0, .int .i64 0, .bool false], ?_, ?_⟩
  · simp [results, Tryd.results30, go_sem, hcc]
  · exact ⟨rfl, HB6.out⟩
end Go.Proofs.YtekmminmgjoabaaDoor.Js

