/- The tokens of a text, one step after the other. The text of a value is a row of tokens. -/
import Derived.Test.YtekmminmgjoabaaDoorYRs
import Derived.Test.YtekmminmgjoabaaDoorYRr
import Derived.Test.YtekmminmgjoabaaDoorYKh
import Derived.Defers
import Derived.Recover
import Derived.Deep.RegionLaw
namespace Go.Proofs.YtekmminmgjoabaaDoor.Js
open Go.RowKit Go.Proofs.YtekmminmgjoabaaDoorW.PrintWords Go.Proofs.YtekmminmgjoabaaDoorW.PrintLast Go.Proofs.YtekmminmgjoabaaDoorW.PrintMore Go.Proofs.YtekmminmgjoabaaDoor.PFnJSTokens
set_option linter.unusedVariables false
set_option linter.unusedSimpArgs false
theorem caught_idle (p : Addr) (w : World) :
    CallsD Tryd.prog 53 #[.pointer (some p)] .returning w fun e u' w' => e = .returned (.tuple #[]) ∧ u' = .returning ∧ w' = w := by
  refine callsD_of_wpS Tryd.func53 rfl fun c₀ cs hu => ?_
  apply wpS_seq
  apply wpS_region
  simp [wpOpsS, go_sem, recoverD, hu, Tryd.ntmps53, Exit.thenS]
  refine wpS_cond (t := false) (by simp [Act.eval, Array.replicate]) ?_
  simp only [Bool.false_eq_true, if_false]
  refine wpS_of_wp (wp_skip ?_)
  cases c₀
  simp_all [bodyPostS, results, Tryd.results53]
theorem R_tk {B base : Nat} {w w' : World} {v : Value} {xs : List S37} (h : k37.R 37 w base (fun _ => True) v xs) (hk : TK TokT B w w') : k37.R 37 w' base (fun _ => True) v xs := by
  have ht := Kd.R_typed h
  have hE : k37.E = [] := rfl
  refine Kd.R_reok hE (Kd.R_step (Kd.R_tight hE h) (fun k ho hlt => ?_)) (fun _ _ => trivial)
  obtain ⟨cells, hc⟩ := ht k ho.symm
  rw [hc]
  exact hk.keep k cells 37 hc (by rintro (h | h | h) <;> cases h)
/-- A step of a tokenizer, whichever token. -/
structure TokSt (w : World) (B T : Nat) (st : St) (zs : List Int) (p q : Bool) : Prop where
  out : ∃ d vv dp ix ik js sp K, (0 ≤ K ∧ K < 64) ∧ w.heap[T]? = some (.cells (tzr d vv .nilIface dp ix ik st.isKey js sp (flK p q K)) 118 (0, 0)) ∧ Sl w B js zs ∧ Stk w B sp st.stack
/-- What a step leaves, where it goes well. -/
def OkPost (w : World) (B T : Nat) (st st1 : St) (c : Int) (v r : List Int) (k : Int) (p q : Bool) (e : Ending) (w' : World) : Prop :=
  e = .returned (.bool true) ∧ (∃ vv js sp K, (0 ≤ K ∧ K < 64) ∧ Cls K k ∧ (K = 9 → 92 ∉ v) ∧ w'.heap[T]? = some (.cells (tzr c vv .nilIface (st.tok st1 c v k).depth (st.tok st1 c v k).index (st.tok st1 c v k).key st1.isKey js sp (flK p q K)) 118 (0, 0)) ∧ Sl w' B vv v ∧ Sl w' B js r ∧ Stk w' B sp st1.stack) ∧ TK TokT B w w'
/-- Behind a token stands nothing that belongs to it. -/
def Behind (k : Int) (r : List Int) : Prop := k = 3 → NumEnd r
theorem next_ok (w : World) (B T : Nat) (st st1 : St) (zs bs v r : List Int) (c k : Int) (p q : Bool) (hB : B ≤ T) (h3 : 3 < B) (hs : TokSt w B T st zs p q) (hz : zs = bs ++ (v ++ r)) (hbs : ∀ c ∈ bs, isSp c = true) (ha : st.after c = some st1) (hg : Good c v k) (hr : Behind k r) (hL : StOk st.stack zs.length) (ht : Tab w) (hby : Bytes zs) (hq : q = true → 92 ∉ zs) :
    Calls Tryd.prog 54 #[.pointer (some ⟨T, 0, none⟩)] w (OkPost w B T st st1 c v r k p q) := by
  obtain ⟨d, vv, dp, ix, ik, js, sp, K, ⟨k0, k1⟩, hT, hJ, hS⟩ := hs.out
  have hdel : ∀ cc kk, IsDelim cc → c = cc → v = [cc] → k = kk → Cls (delK cc) kk → Calls Tryd.prog 54 #[.pointer (some ⟨T, 0, none⟩)] w (OkPost w B T st st1 c v r k p q) := by
    intro cc kk hcc e1 e2 e3 hcl
    subst e1 e2 e3
    refine (next_delim w B T st st1 d dp ix ik vv js sp p q K k0 k1 zs bs r c hcc hz hbs ha hB hT hJ hS hL).mono ?_
    rintro e w' ⟨rfl, ⟨vv', js', sp', h1, h2, h3, h4⟩, h5⟩
    exact ⟨rfl, ⟨vv', js', sp', delK c, delK_bd c, hcl, (by intro h9; unfold delK at h9; split at h9; cases h9; split at h9 <;> cases h9), h1, h2, h3, h4⟩, h5⟩
  cases hg with
  | plain hp =>
    obtain rfl : st = st1 := by simpa [St.after] using ha
    refine (next_plain w B T st d dp ix ik vv js sp p q K k0 k1 zs bs v r k hz hbs hp hr hB h3 hT hJ hS hL ht hby hq).mono ?_
    rintro e w' ⟨K', ⟨hk1, hk2, hk3⟩, rfl, ⟨vv', js', sp', h1, h2, h3, h4⟩, h5⟩
    exact ⟨rfl, ⟨vv', js', sp', K', hk1, hk2, hk3, h1, h2, h3, h4⟩, h5⟩
  | obj => exact hdel 123 6 (.inl rfl) rfl rfl rfl (by unfold Cls delK; decide)
  | arr => exact hdel 91 5 (.inr (.inr (.inl rfl))) rfl rfl rfl (by unfold Cls delK; decide)
  | eobj => exact hdel 125 0 (.inr (.inl rfl)) rfl rfl rfl (by unfold Cls delK; decide)
  | earr => exact hdel 93 0 (.inr (.inr (.inr (.inl rfl)))) rfl rfl rfl (by unfold Cls delK; decide)
  | colon => exact hdel 58 0 (.inr (.inr (.inr (.inr (.inl rfl))))) rfl rfl rfl (by unfold Cls delK; decide)
  | comma => exact hdel 44 0 (.inr (.inr (.inr (.inr (.inr rfl))))) rfl rfl rfl (by unfold Cls delK; decide)
/-- A row of tokens ahead of a rest. -/
inductive TokRun : St → List Int → List (Tk × Int) → St → List Int → Prop
  | nil (st : St) (zs : List Int) : TokRun st zs [] st zs
  | cons {st st1 st2 : St} {zs bs v r rest : List Int} {c k : Int} {l : List (Tk × Int)} : zs = bs ++ (v ++ r) → (∀ c ∈ bs, isSp c = true) → st.after c = some st1 → Good c v k → Behind k r → TokRun st1 r l st2 rest → TokRun st zs ((st.tok st1 c v k, (r.length : Int)) :: l) st2 rest
theorem Good.pos {c : Int} {v : List Int} {k : Int} (h : Good c v k) : 0 < v.length := by
  cases h with
  | plain h => exact List.length_pos_iff.2 h.ne
  | _ => simp
theorem StOk.after {st st1 : St} {c : Int} {m m' : Nat} (h : StOk st.stack m) (hm : m' < m) (ha : st.after c = some st1) : StOk st1.stack m' := by
  obtain ⟨h1, h2⟩ := h
  obtain ⟨l, nk⟩ := st
  simp only at h1 h2
  unfold St.after at ha
  by_cases e0 : c = 0
  · rw [if_pos e0] at ha
    obtain rfl : (⟨l, nk⟩ : St) = st1 := by simpa using ha
    exact ⟨by simp only; omega, fun x hx => by have := h2 x hx; omega⟩
  rw [if_neg e0] at ha
  by_cases e1 : c = 123
  · rw [if_pos e1] at ha
    obtain rfl : (⟨(true, 1) :: l, true⟩ : St) = st1 := by simpa using ha
    refine ⟨by simp only [List.length_cons]; omega, fun x hx => ?_⟩
    rcases List.mem_cons.1 hx with rfl | hx
    · simp only; omega
    · have := h2 x hx; omega
  rw [if_neg e1] at ha
  by_cases e2 : c = 91
  · rw [if_pos e2] at ha
    obtain rfl : (⟨(false, 1) :: l, nk⟩ : St) = st1 := by simpa using ha
    refine ⟨by simp only [List.length_cons]; omega, fun x hx => ?_⟩
    rcases List.mem_cons.1 hx with rfl | hx
    · simp only; omega
    · have := h2 x hx; omega
  rw [if_neg e2] at ha
  have hpop : ∀ (o : Bool) (n : Int) (r : List (Bool × Int)), l = (o, n) :: r → StOk r m' := fun o n r e => by
    subst e
    simp only [List.length_cons] at h1
    exact ⟨by omega, fun x hx => by have := h2 x (List.mem_cons_of_mem _ hx); omega⟩
  by_cases e3 : c = 125
  · rw [if_pos e3] at ha
    match l, ha with
    | (true, n) :: r, ha =>
      obtain rfl : (⟨r, nk⟩ : St) = st1 := by simpa using ha
      exact hpop true n r rfl
  rw [if_neg e3] at ha
  by_cases e4 : c = 93
  · rw [if_pos e4] at ha
    match l, ha with
    | (false, n) :: r, ha =>
      obtain rfl : (⟨r, nk⟩ : St) = st1 := by simpa using ha
      exact hpop false n r rfl
  rw [if_neg e4] at ha
  by_cases e5 : c = 58
  · rw [if_pos e5] at ha
    obtain rfl : (⟨l, false⟩ : St) = st1 := by simpa using ha
    exact ⟨by simp only; omega, fun x hx => by have := h2 x hx; omega⟩
  rw [if_neg e5] at ha
  by_cases e6 : c = 44
  · rw [if_pos e6] at ha
    match l, ha with
    | (o, n) :: r, ha =>
      obtain rfl : (⟨(o, n + 1) :: r, if o then true else nk⟩ : St) = st1 := by simpa using ha
      simp only [List.length_cons] at h1
      refine ⟨by simp only [List.length_cons]; omega, fun x hx => ?_⟩
      rcases List.mem_cons.1 hx with rfl | hx
      · have := h2 (o, n) List.mem_cons_self
        simp only at this ⊢
        omega
      · have := h2 x (List.mem_cons_of_mem _ hx); omega
  rw [if_neg e6] at ha
  cases ha
end Go.Proofs.YtekmminmgjoabaaDoor.Js

namespace Go.Proofs.YtekmminmgjoabaaDoor.Js
open Go.RowKit Go.Proofs.YtekmminmgjoabaaDoorW.PrintWords Go.Proofs.YtekmminmgjoabaaDoorW.PrintLast Go.Proofs.YtekmminmgjoabaaDoorW.PrintMore Go.Proofs.YtekmminmgjoabaaDoor.PFnJSTokens
set_option linter.unusedVariables false
set_option linter.unusedSimpArgs false
/-- No plain token stands beside a plain one; p: the one ahead is plain. -/
def Sp : Bool → List Tk → Prop
  | _, [] => True
  | p, t :: l => (p = true → t.delim ≠ 0) ∧ Sp (t.delim == 0) l
def lastP : Bool → List Tk → Bool
  | p, [] => p
  | _, t :: l => lastP (t.delim == 0) l
theorem Sp_append : ∀ (a b : List Tk) (p : Bool), Sp p (a ++ b) ↔ Sp p a ∧ Sp (lastP p a) b := by
  intro a
  induction a with
  | nil => intro b p; simp [Sp, lastP]
  | cons t a ih => intro b p; simp [Sp, lastP, ih, and_assoc]
theorem sp_items (ob : Bool) : ∀ (items : List JN) (keys : List (List Int)) (d j : Int) (p : Bool), 0 ≤ j → (j = 0 → p = false) → (∀ x ∈ items, ∀ d i, Sp false (x.toks d i)) → Sp p (JN.itoks items keys ob d j) := by
  intro items
  induction items with
  | nil => intro keys d j p h0 hj hx; trivial
  | cons x xs ih =>
    intro keys d j p h0 hj hx
    have hr := ih keys.tail d (j + 1)
    have hxx := hx x List.mem_cons_self (d + 1) j
    rw [JN.itoks]
    have hcom : Sp p (if 0 < j then [tkDelim 44 (d + 1) (j - 1) 0] else []) ∧ lastP p (if 0 < j then [tkDelim 44 (d + 1) (j - 1) 0] else []) = false := by
      by_cases h : 0 < j
      · rw [if_pos h]; exact ⟨⟨fun _ => by simp [tkDelim], trivial⟩, rfl⟩
      · rw [if_neg h]; exact ⟨trivial, hj (by omega)⟩
    have hkey : Sp false (if ob then [⟨0, keys.headD [], d + 1, j, true, 4⟩, tkDelim 58 (d + 1) j 0] else []) ∧ lastP false (if ob then [⟨0, keys.headD [], d + 1, j, true, 4⟩, tkDelim 58 (d + 1) j 0] else []) = false := by
      cases ob with
      | false => exact ⟨trivial, rfl⟩
      | true => exact ⟨⟨(fun h => by cases h), ⟨fun _ => by simp [tkDelim], trivial⟩⟩, rfl⟩
    rw [Sp_append]
    refine ⟨hcom.1, ?_⟩
    rw [hcom.2, Sp_append]
    refine ⟨hkey.1, ?_⟩
    rw [hkey.2, Sp_append]
    exact ⟨hxx, hr _ (by omega) (fun h => by omega) (fun y hy => hx y (List.mem_cons_of_mem _ hy))⟩
theorem sp_toks {n : JN} (h : JOk n) : ∀ d i, Sp false (n.toks d i) := by
  induction h with
  | leaf hp =>
    intro d i
    have := hp.kind
    rw [JN.toks, if_pos (by omega)]
    exact ⟨(fun h => by cases h), trivial⟩
  | arr hx ih =>
    intro d i
    rw [JN.toks, if_neg (by omega), if_neg (by omega)]
    refine ⟨(fun h => by cases h), ?_⟩
    rw [Sp_append]
    exact ⟨sp_items false _ _ d 0 _ (Int.le_refl _) (fun _ => rfl) ih, fun _ => by simp [tkDelim], trivial⟩
  | obj hne hl hks hx ih =>
    intro d i
    rw [JN.toks, if_neg (by omega), if_pos rfl]
    refine ⟨(fun h => by cases h), ?_⟩
    rw [Sp_append]
    exact ⟨sp_items true _ _ d 0 _ (Int.le_refl _) (fun _ => rfl) ih, fun _ => by simp [tkDelim], trivial⟩
theorem blank_end {c : Int} (h : Blank c) : ¬ Digit c ∧ c ≠ 46 ∧ c ≠ 101 ∧ c ≠ 69 := by
  unfold Digit; rcases h with rfl | rfl | rfl | rfl <;> decide
theorem blank_sp {c : Int} (h : Blank c) : isSp c = true := by rcases h with rfl | rfl | rfl | rfl <;> rfl
theorem delim_end {c k : Int} {v : List Int} (h : Good c v k) (hc : c ≠ 0) : v = [c] ∧ (¬ Digit c ∧ c ≠ 46 ∧ c ≠ 101 ∧ c ≠ 69) := by
  cases h with
  | plain h => exact absurd rfl hc
  | _ => exact ⟨rfl, by unfold Digit; decide⟩
theorem numEnd_append {a r : List Int} (ha : ∀ c ∈ a, Blank c) (h : a = [] → NumEnd r) : NumEnd (a ++ r) := by
  intro c t e
  cases a with
  | nil => exact h rfl c t (by simpa using e)
  | cons x a =>
    obtain ⟨rfl, -⟩ : x = c ∧ _ := by simpa using e
    exact blank_end (ha x List.mem_cons_self)
/-- The tokens, each with how many bytes stand behind it: tail behind the last one. -/
def wrun (bl tail : List Int) : List Tk → Nat → List (Tk × Int)
  | [], _ => []
  | t :: ts, k => (t, ((wtext bl ts (k + 1) ++ tail).length : Int)) :: wrun bl tail ts (k + 1)
theorem wrun_tail (bl : List Int) : ∀ (ts : List Tk) (k : Nat) (m : Nat), m = k + ts.length → wrun bl (blk bl m) ts k = btoks bl ts k := by
  intro ts
  induction ts with
  | nil => intro k m h; rfl
  | cons t ts ih =>
    intro k m h
    rw [wrun, btoks, ih (k + 1) m (by simp only [List.length_cons] at h; omega)]
    congr 3
    unfold sfx
    rw [h]
    simp only [List.length_cons]
    rw [show k + (ts.length + 1) = k + 1 + ts.length by omega]
/-- A row of tokens with blanks between them, and a rest that no number goes on with. -/
theorem run_text (bl tail : List Int) (ht : NumEnd tail) {st st2 : St} {ts : List Tk} (h : Steps st ts st2) : ∀ (k : Nat) (p : Bool), Sp p ts → TokRun st (wtext bl ts k ++ tail) (wrun bl tail ts k) st2 tail := by
  induction h with
  | nil st => intro k p hp; exact .nil _ _
  | @cons st st1 st2 c v kk ts ha hg hst ih =>
    intro k p hp
    have hs := hp.2
    have hr := ih (k + 1) _ hs
    refine TokRun.cons (bs := blk bl k) (v := v) (r := wtext bl ts (k + 1) ++ tail) ?_ (fun c hc => blank_sp (blk_blank bl k c hc)) ha hg ?_ hr
    · show blk bl k ++ (v ++ wtext bl ts (k + 1)) ++ tail = _
      simp [List.append_assoc]
    · intro h3
      have h0 : c = 0 := by
        subst h3
        cases hg with
        | plain _ => rfl
      cases hst with
      | nil st => simpa [wtext] using ht
      | @cons _ st3 _ c' v' k' ts' ha' hg' hst' =>
        have hc' : c' ≠ 0 := by
          have h4 := hs.1
          exact h4 (by subst h0; rfl)
        show NumEnd (blk bl (k + 1) ++ (v' ++ wtext bl ts' (k + 1 + 1)) ++ tail)
        rw [List.append_assoc]
        refine numEnd_append (fun c hc => blk_blank bl _ c hc) (fun _ => ?_)
        obtain ⟨rfl, he⟩ := delim_end hg' hc'
        intro c t e
        obtain ⟨rfl, -⟩ : c' = c ∧ _ := by simpa using e
        exact he
theorem numEnd_blanks {a : List Int} (ha : ∀ c ∈ a, Blank c) : NumEnd a := by
  have := numEnd_append (r := []) ha (fun _ c t e => by cases e)
  simpa using this
/-- A value's text. -/
theorem run_node {n : JN} (h : JOk n) (bl : List Int) : TokRun ⟨[], false⟩ (sfx bl (n.toks 0 0) 0) (btoks bl (n.toks 0 0) 0) ⟨[], false⟩ (blk bl (n.toks 0 0).length) := by
  have hst := steps_node h ⟨[], false⟩ 0 0 rfl rfl rfl
  have := run_text bl (blk bl (n.toks 0 0).length) (numEnd_blanks (fun c hc => blk_blank bl _ c hc)) hst 0 false (sp_toks h 0 0)
  rw [wrun_tail bl _ 0 _ (by omega)] at this
  unfold sfx
  rw [Nat.zero_add]
  exact this
end Go.Proofs.YtekmminmgjoabaaDoor.Js

