/- Written by iobent.py (wip/): what the program's test tells of a text of a time with a letter in it, or cut within its date. -/
import Derived.Test.YtmhngpihkaignaaIoAnswer
namespace Go.Proofs.Ytmhngpihkaignaa.IoBentP
open Go.RowKit Go.Proofs.Ytmhngpihkaignaa.PFnIOValid Go.Proofs.YtmhngpihkaignaaW.PrintWords Go.Proofs.YtmhngpihkaignaaW.PrintLast Go.Proofs.YtmhngpihkaignaaW.PrintMore Go.Proofs.Ytmhngpihkaignaa.IoText Go.Proofs.Ytmhngpihkaignaa.IoPure Go.Proofs.Ytmhngpihkaignaa.IoAnswer
set_option linter.unusedVariables false
set_option linter.unusedSimpArgs false

theorem ok_set {l : List Int} (h : okB l) (k : Nat) {c : Int} (hc : 0 ≤ c ∧ c < 256) : okB (l.set k c) := fun x hx => by
  rcases List.mem_or_eq_of_mem_set hx with hx | rfl
  · exact h x hx
  · exact hc
theorem ok_take {l : List Int} (h : okB l) (k : Nat) : okB (l.take k) := fun x hx => h x (List.mem_of_mem_take hx)
theorem ok_zone (z o : Int) : okB (zone z o) := by
  unfold zone d2
  split
  · exact ok_cons (by omega) ok_nil
  · split
    · split <;> (simp only [List.cons_append, List.nil_append, List.append_assoc]; repeat (first | exact ok_nil | refine ok_cons (by omega) ?_))
    · split
      · split <;> (simp only [List.cons_append, List.nil_append, List.append_assoc]; repeat (first | exact ok_nil | refine ok_cons (by omega) ?_))
      · exact ok_nil
theorem ok_frac {dl : List Int} (h : ∀ x ∈ dl, dig x = true) : okB (frac dl) := by
  unfold frac
  split
  · exact ok_nil
  · exact ok_cons (by omega) (ok_dig h)
theorem ok_date (Y M D : Int) : okB (date Y M D) := by
  unfold date d2
  simp only [List.cons_append, List.nil_append, List.append_assoc]
  repeat (first | exact ok_nil | refine ok_cons (by omega) ?_)
theorem ok_clock (h m s : Int) : okB (clock h m s) := by
  unfold clock d2
  simp only [List.cons_append, List.nil_append, List.append_assoc]
  repeat (first | exact ok_nil | refine ok_cons (by omega) ?_)
theorem ok_text (Y M D h m s : Int) (bl tm : Bool) (z o : Int) {dl : List Int} (hd : ∀ x ∈ dl, dig x = true) :
    okB (date Y M D ++ if tm = true then [if bl = true then 32 else 84] ++ clock h m s ++ frac dl ++ zone z o else []) := by
  refine ok_app (ok_date _ _ _) ?_
  split
  · refine ok_app (ok_app (ok_app (ok_cons ?_ ok_nil) (ok_clock _ _ _)) (ok_frac hd)) (ok_zone _ _)
    split <;> omega
  · exact ok_nil
theorem two62 : (Go.bits .and .i64 62 2 == 0) = false := by decide +kernel
def Bad (l : List Int) : Prop := ∀ w : World, Calls Try.prog 59 #[.string (strOfNums l), .int .i64 62] w fun e w' => e = .returned (.bool false) ∧ Drawn0 w w'
theorem letter {c : Int} (h0 : 97 ≤ c) (h1 : c ≤ 121) : dig c = false ∧ (∀ x : Int, x ≤ 96 → c ≠ x) := by
  refine ⟨?_, fun x hx => by omega⟩
  unfold dig
  rw [decide_eq_false_iff_not]
  omega
theorem bd_0 (Y M D : Int) (r : List Int) (c : Int) (h0 : 97 ≤ c) (h1 : c ≤ 121) (hok : okB (date Y M D ++ r)) : Bad ((date Y M D ++ r).set 0 c) := by
  have hk : okB ((date Y M D ++ r).set 0 c) := ok_set hok 0 (by omega)
  exact fun w => bent_0 62 w _ _ _ _ _ _ _ (e2 _) (e1 _) (e2 _) (e1 _) (e2 _) (e1 _) (e2 _) c (letter h0 h1).1 (letter h0 h1).2 two62 r hk
theorem bd_1 (Y M D : Int) (r : List Int) (c : Int) (h0 : 97 ≤ c) (h1 : c ≤ 121) (hok : okB (date Y M D ++ r)) : Bad ((date Y M D ++ r).set 1 c) := by
  have hk : okB ((date Y M D ++ r).set 1 c) := ok_set hok 1 (by omega)
  exact fun w => bent_1 62 w _ _ _ _ _ _ _ (e1 _) (e1 _) (e2 _) (e1 _) (e2 _) (e1 _) (e2 _) c (letter h0 h1).1 (letter h0 h1).2 two62 r hk
theorem bd_2 (Y M D : Int) (r : List Int) (c : Int) (h0 : 97 ≤ c) (h1 : c ≤ 121) (hok : okB (date Y M D ++ r)) : Bad ((date Y M D ++ r).set 2 c) := by
  have hk : okB ((date Y M D ++ r).set 2 c) := ok_set hok 2 (by omega)
  exact fun w => bent_2 62 w _ _ _ _ _ _ _ (e1 _) (e2 _) (e2 _) (e1 _) (e2 _) (e1 _) (e2 _) c (letter h0 h1).1 (letter h0 h1).2 two62 r hk
theorem bd_3 (Y M D : Int) (r : List Int) (c : Int) (h0 : 97 ≤ c) (h1 : c ≤ 121) (hok : okB (date Y M D ++ r)) : Bad ((date Y M D ++ r).set 3 c) := by
  have hk : okB ((date Y M D ++ r).set 3 c) := ok_set hok 3 (by omega)
  exact fun w => bent_3 62 w _ _ _ _ _ _ _ (e1 _) (e2 _) (e1 _) (e1 _) (e2 _) (e1 _) (e2 _) c (letter h0 h1).1 (letter h0 h1).2 two62 r hk
theorem bd_4 (Y M D : Int) (r : List Int) (c : Int) (h0 : 97 ≤ c) (h1 : c ≤ 121) (hok : okB (date Y M D ++ r)) : Bad ((date Y M D ++ r).set 4 c) := by
  have hk : okB ((date Y M D ++ r).set 4 c) := ok_set hok 4 (by omega)
  exact fun w => bent_4 62 w _ _ _ _ _ _ _ _ (e1 _) (e2 _) (e1 _) (e2 _) (e1 _) (e2 _) (e1 _) (e2 _) c (letter h0 h1).1 (letter h0 h1).2 two62 r hk
theorem bd_5 (Y M D : Int) (r : List Int) (c : Int) (h0 : 97 ≤ c) (h1 : c ≤ 121) (hok : okB (date Y M D ++ r)) : Bad ((date Y M D ++ r).set 5 c) := by
  have hk : okB ((date Y M D ++ r).set 5 c) := ok_set hok 5 (by omega)
  exact fun w => bent_5 62 w _ _ _ _ _ _ _ (e1 _) (e2 _) (e1 _) (e2 _) (e2 _) (e1 _) (e2 _) c (letter h0 h1).1 (letter h0 h1).2 two62 r hk
theorem bd_6 (Y M D : Int) (r : List Int) (c : Int) (h0 : 97 ≤ c) (h1 : c ≤ 121) (hok : okB (date Y M D ++ r)) : Bad ((date Y M D ++ r).set 6 c) := by
  have hk : okB ((date Y M D ++ r).set 6 c) := ok_set hok 6 (by omega)
  exact fun w => bent_6 62 w _ _ _ _ _ _ _ (e1 _) (e2 _) (e1 _) (e2 _) (e1 _) (e1 _) (e2 _) c (letter h0 h1).1 (letter h0 h1).2 two62 r hk
theorem bd_7 (Y M D : Int) (r : List Int) (c : Int) (h0 : 97 ≤ c) (h1 : c ≤ 121) (hok : okB (date Y M D ++ r)) : Bad ((date Y M D ++ r).set 7 c) := by
  have hk : okB ((date Y M D ++ r).set 7 c) := ok_set hok 7 (by omega)
  exact fun w => bent_7 62 w _ _ _ _ _ _ _ _ (e1 _) (e2 _) (e1 _) (e2 _) (e1 _) (e2 _) (e1 _) (e2 _) c (letter h0 h1).1 (letter h0 h1).2 two62 r hk
theorem bd_8 (Y M D : Int) (r : List Int) (c : Int) (h0 : 97 ≤ c) (h1 : c ≤ 121) (hok : okB (date Y M D ++ r)) : Bad ((date Y M D ++ r).set 8 c) := by
  have hk : okB ((date Y M D ++ r).set 8 c) := ok_set hok 8 (by omega)
  exact fun w => bent_8 62 w _ _ _ _ _ _ _ (e1 _) (e2 _) (e1 _) (e2 _) (e1 _) (e2 _) (e2 _) c (letter h0 h1).1 (letter h0 h1).2 two62 r hk
theorem bd_9 (Y M D : Int) (r : List Int) (c : Int) (h0 : 97 ≤ c) (h1 : c ≤ 121) (hok : okB (date Y M D ++ r)) : Bad ((date Y M D ++ r).set 9 c) := by
  have hk : okB ((date Y M D ++ r).set 9 c) := ok_set hok 9 (by omega)
  exact fun w => bent_9 62 w _ _ _ _ _ _ _ (e1 _) (e2 _) (e1 _) (e2 _) (e1 _) (e2 _) (e1 _) c (letter h0 h1).1 (letter h0 h1).2 two62 r hk
theorem bd_10 (Y M D : Int) (sp : Int) (r : List Int) (c : Int) (h0 : 97 ≤ c) (h1 : c ≤ 121) (hok : okB (date Y M D ++ sp :: r)) : Bad ((date Y M D ++ sp :: r).set 10 c) := by
  have hk : okB ((date Y M D ++ sp :: r).set 10 c) := ok_set hok 10 (by omega)
  exact fun w => bent_10 62 w _ _ _ _ _ _ _ _ (e1 _) (e2 _) (e1 _) (e2 _) (e1 _) (e2 _) (e1 _) (e2 _) c (letter h0 h1).1 (letter h0 h1).2 two62 r hk
theorem bd_t11 (Y M D h m s : Int) (r : List Int) (c : Int) (h0 : 97 ≤ c) (h1 : c ≤ 121) (hok : okB (date Y M D ++ 84 :: (clock h m s ++ r))) : Bad ((date Y M D ++ 84 :: (clock h m s ++ r)).set 11 c) := by
  have hk : okB ((date Y M D ++ 84 :: (clock h m s ++ r)).set 11 c) := ok_set hok 11 (by omega)
  exact fun w => bent_t11 62 w _ _ _ _ _ _ _ _ _ _ _ _ _ (e1 _) (e2 _) (e1 _) (e2 _) (e1 _) (e2 _) (e1 _) (e2 _) (e2 _) (e1 _) (e2 _) (e1 _) (e2 _) c (letter h0 h1).1 (letter h0 h1).2 two62 r hk
theorem bd_t12 (Y M D h m s : Int) (r : List Int) (c : Int) (h0 : 97 ≤ c) (h1 : c ≤ 121) (hok : okB (date Y M D ++ 84 :: (clock h m s ++ r))) : Bad ((date Y M D ++ 84 :: (clock h m s ++ r)).set 12 c) := by
  have hk : okB ((date Y M D ++ 84 :: (clock h m s ++ r)).set 12 c) := ok_set hok 12 (by omega)
  exact fun w => bent_t12 62 w _ _ _ _ _ _ _ _ _ _ _ _ _ (e1 _) (e2 _) (e1 _) (e2 _) (e1 _) (e2 _) (e1 _) (e2 _) (e1 _) (e1 _) (e2 _) (e1 _) (e2 _) c (letter h0 h1).1 (letter h0 h1).2 two62 r hk
theorem bd_t13 (Y M D h m s : Int) (r : List Int) (c : Int) (h0 : 97 ≤ c) (h1 : c ≤ 121) (hok : okB (date Y M D ++ 84 :: (clock h m s ++ r))) : Bad ((date Y M D ++ 84 :: (clock h m s ++ r)).set 13 c) := by
  have hk : okB ((date Y M D ++ 84 :: (clock h m s ++ r)).set 13 c) := ok_set hok 13 (by omega)
  exact fun w => bent_t13 62 w _ _ _ _ _ _ _ _ _ _ _ _ _ _ (e1 _) (e2 _) (e1 _) (e2 _) (e1 _) (e2 _) (e1 _) (e2 _) (e1 _) (e2 _) (e1 _) (e2 _) (e1 _) (e2 _) c (letter h0 h1).1 (letter h0 h1).2 two62 r hk
theorem bd_t14 (Y M D h m s : Int) (r : List Int) (c : Int) (h0 : 97 ≤ c) (h1 : c ≤ 121) (hok : okB (date Y M D ++ 84 :: (clock h m s ++ r))) : Bad ((date Y M D ++ 84 :: (clock h m s ++ r)).set 14 c) := by
  have hk : okB ((date Y M D ++ 84 :: (clock h m s ++ r)).set 14 c) := ok_set hok 14 (by omega)
  exact fun w => bent_t14 62 w _ _ _ _ _ _ _ _ _ _ _ _ _ (e1 _) (e2 _) (e1 _) (e2 _) (e1 _) (e2 _) (e1 _) (e2 _) (e1 _) (e2 _) (e2 _) (e1 _) (e2 _) c (letter h0 h1).1 (letter h0 h1).2 two62 r hk
theorem bd_t15 (Y M D h m s : Int) (r : List Int) (c : Int) (h0 : 97 ≤ c) (h1 : c ≤ 121) (hok : okB (date Y M D ++ 84 :: (clock h m s ++ r))) : Bad ((date Y M D ++ 84 :: (clock h m s ++ r)).set 15 c) := by
  have hk : okB ((date Y M D ++ 84 :: (clock h m s ++ r)).set 15 c) := ok_set hok 15 (by omega)
  exact fun w => bent_t15 62 w _ _ _ _ _ _ _ _ _ _ _ _ _ (e1 _) (e2 _) (e1 _) (e2 _) (e1 _) (e2 _) (e1 _) (e2 _) (e1 _) (e2 _) (e1 _) (e1 _) (e2 _) c (letter h0 h1).1 (letter h0 h1).2 two62 r hk
theorem bd_t16 (Y M D h m s : Int) (r : List Int) (c : Int) (h0 : 97 ≤ c) (h1 : c ≤ 121) (hok : okB (date Y M D ++ 84 :: (clock h m s ++ r))) : Bad ((date Y M D ++ 84 :: (clock h m s ++ r)).set 16 c) := by
  have hk : okB ((date Y M D ++ 84 :: (clock h m s ++ r)).set 16 c) := ok_set hok 16 (by omega)
  exact fun w => bent_t16 62 w _ _ _ _ _ _ _ _ _ _ _ _ _ _ (e1 _) (e2 _) (e1 _) (e2 _) (e1 _) (e2 _) (e1 _) (e2 _) (e1 _) (e2 _) (e1 _) (e2 _) (e1 _) (e2 _) c (letter h0 h1).1 (letter h0 h1).2 two62 r hk
theorem bd_t17 (Y M D h m s : Int) (r : List Int) (c : Int) (h0 : 97 ≤ c) (h1 : c ≤ 121) (hok : okB (date Y M D ++ 84 :: (clock h m s ++ r))) : Bad ((date Y M D ++ 84 :: (clock h m s ++ r)).set 17 c) := by
  have hk : okB ((date Y M D ++ 84 :: (clock h m s ++ r)).set 17 c) := ok_set hok 17 (by omega)
  exact fun w => bent_t17 62 w _ _ _ _ _ _ _ _ _ _ _ _ _ (e1 _) (e2 _) (e1 _) (e2 _) (e1 _) (e2 _) (e1 _) (e2 _) (e1 _) (e2 _) (e1 _) (e2 _) (e2 _) c (letter h0 h1).1 (letter h0 h1).2 two62 r hk
theorem bd_t18 (Y M D h m s : Int) (r : List Int) (c : Int) (h0 : 97 ≤ c) (h1 : c ≤ 121) (hok : okB (date Y M D ++ 84 :: (clock h m s ++ r))) : Bad ((date Y M D ++ 84 :: (clock h m s ++ r)).set 18 c) := by
  have hk : okB ((date Y M D ++ 84 :: (clock h m s ++ r)).set 18 c) := ok_set hok 18 (by omega)
  exact fun w => bent_t18 62 w _ _ _ _ _ _ _ _ _ _ _ _ _ (e1 _) (e2 _) (e1 _) (e2 _) (e1 _) (e2 _) (e1 _) (e2 _) (e1 _) (e2 _) (e1 _) (e2 _) (e1 _) c (letter h0 h1).1 (letter h0 h1).2 two62 r hk
theorem bd_b11 (Y M D h m s : Int) (r : List Int) (c : Int) (h0 : 97 ≤ c) (h1 : c ≤ 121) (hok : okB (date Y M D ++ 32 :: (clock h m s ++ r))) : Bad ((date Y M D ++ 32 :: (clock h m s ++ r)).set 11 c) := by
  have hk : okB ((date Y M D ++ 32 :: (clock h m s ++ r)).set 11 c) := ok_set hok 11 (by omega)
  exact fun w => bent_b11 62 w _ _ _ _ _ _ _ _ _ _ _ _ _ (e1 _) (e2 _) (e1 _) (e2 _) (e1 _) (e2 _) (e1 _) (e2 _) (e2 _) (e1 _) (e2 _) (e1 _) (e2 _) c (letter h0 h1).1 (letter h0 h1).2 two62 r hk
theorem bd_b12 (Y M D h m s : Int) (r : List Int) (c : Int) (h0 : 97 ≤ c) (h1 : c ≤ 121) (hok : okB (date Y M D ++ 32 :: (clock h m s ++ r))) : Bad ((date Y M D ++ 32 :: (clock h m s ++ r)).set 12 c) := by
  have hk : okB ((date Y M D ++ 32 :: (clock h m s ++ r)).set 12 c) := ok_set hok 12 (by omega)
  exact fun w => bent_b12 62 w _ _ _ _ _ _ _ _ _ _ _ _ _ (e1 _) (e2 _) (e1 _) (e2 _) (e1 _) (e2 _) (e1 _) (e2 _) (e1 _) (e1 _) (e2 _) (e1 _) (e2 _) c (letter h0 h1).1 (letter h0 h1).2 two62 r hk
theorem bd_b13 (Y M D h m s : Int) (r : List Int) (c : Int) (h0 : 97 ≤ c) (h1 : c ≤ 121) (hok : okB (date Y M D ++ 32 :: (clock h m s ++ r))) : Bad ((date Y M D ++ 32 :: (clock h m s ++ r)).set 13 c) := by
  have hk : okB ((date Y M D ++ 32 :: (clock h m s ++ r)).set 13 c) := ok_set hok 13 (by omega)
  exact fun w => bent_b13 62 w _ _ _ _ _ _ _ _ _ _ _ _ _ _ (e1 _) (e2 _) (e1 _) (e2 _) (e1 _) (e2 _) (e1 _) (e2 _) (e1 _) (e2 _) (e1 _) (e2 _) (e1 _) (e2 _) c (letter h0 h1).1 (letter h0 h1).2 two62 r hk
theorem bd_b14 (Y M D h m s : Int) (r : List Int) (c : Int) (h0 : 97 ≤ c) (h1 : c ≤ 121) (hok : okB (date Y M D ++ 32 :: (clock h m s ++ r))) : Bad ((date Y M D ++ 32 :: (clock h m s ++ r)).set 14 c) := by
  have hk : okB ((date Y M D ++ 32 :: (clock h m s ++ r)).set 14 c) := ok_set hok 14 (by omega)
  exact fun w => bent_b14 62 w _ _ _ _ _ _ _ _ _ _ _ _ _ (e1 _) (e2 _) (e1 _) (e2 _) (e1 _) (e2 _) (e1 _) (e2 _) (e1 _) (e2 _) (e2 _) (e1 _) (e2 _) c (letter h0 h1).1 (letter h0 h1).2 two62 r hk
theorem bd_b15 (Y M D h m s : Int) (r : List Int) (c : Int) (h0 : 97 ≤ c) (h1 : c ≤ 121) (hok : okB (date Y M D ++ 32 :: (clock h m s ++ r))) : Bad ((date Y M D ++ 32 :: (clock h m s ++ r)).set 15 c) := by
  have hk : okB ((date Y M D ++ 32 :: (clock h m s ++ r)).set 15 c) := ok_set hok 15 (by omega)
  exact fun w => bent_b15 62 w _ _ _ _ _ _ _ _ _ _ _ _ _ (e1 _) (e2 _) (e1 _) (e2 _) (e1 _) (e2 _) (e1 _) (e2 _) (e1 _) (e2 _) (e1 _) (e1 _) (e2 _) c (letter h0 h1).1 (letter h0 h1).2 two62 r hk
theorem bd_b16 (Y M D h m s : Int) (r : List Int) (c : Int) (h0 : 97 ≤ c) (h1 : c ≤ 121) (hok : okB (date Y M D ++ 32 :: (clock h m s ++ r))) : Bad ((date Y M D ++ 32 :: (clock h m s ++ r)).set 16 c) := by
  have hk : okB ((date Y M D ++ 32 :: (clock h m s ++ r)).set 16 c) := ok_set hok 16 (by omega)
  exact fun w => bent_b16 62 w _ _ _ _ _ _ _ _ _ _ _ _ _ _ (e1 _) (e2 _) (e1 _) (e2 _) (e1 _) (e2 _) (e1 _) (e2 _) (e1 _) (e2 _) (e1 _) (e2 _) (e1 _) (e2 _) c (letter h0 h1).1 (letter h0 h1).2 two62 r hk
theorem bd_b17 (Y M D h m s : Int) (r : List Int) (c : Int) (h0 : 97 ≤ c) (h1 : c ≤ 121) (hok : okB (date Y M D ++ 32 :: (clock h m s ++ r))) : Bad ((date Y M D ++ 32 :: (clock h m s ++ r)).set 17 c) := by
  have hk : okB ((date Y M D ++ 32 :: (clock h m s ++ r)).set 17 c) := ok_set hok 17 (by omega)
  exact fun w => bent_b17 62 w _ _ _ _ _ _ _ _ _ _ _ _ _ (e1 _) (e2 _) (e1 _) (e2 _) (e1 _) (e2 _) (e1 _) (e2 _) (e1 _) (e2 _) (e1 _) (e2 _) (e2 _) c (letter h0 h1).1 (letter h0 h1).2 two62 r hk
theorem bd_b18 (Y M D h m s : Int) (r : List Int) (c : Int) (h0 : 97 ≤ c) (h1 : c ≤ 121) (hok : okB (date Y M D ++ 32 :: (clock h m s ++ r))) : Bad ((date Y M D ++ 32 :: (clock h m s ++ r)).set 18 c) := by
  have hk : okB ((date Y M D ++ 32 :: (clock h m s ++ r)).set 18 c) := ok_set hok 18 (by omega)
  exact fun w => bent_b18 62 w _ _ _ _ _ _ _ _ _ _ _ _ _ (e1 _) (e2 _) (e1 _) (e2 _) (e1 _) (e2 _) (e1 _) (e2 _) (e1 _) (e2 _) (e1 _) (e2 _) (e1 _) c (letter h0 h1).1 (letter h0 h1).2 two62 r hk
theorem ct_0 (Y M D : Int) (r : List Int) (hok : okB (date Y M D ++ r)) : Bad ((date Y M D ++ r).take 0) := by
  have hk : okB ((date Y M D ++ r).take 0) := ok_take hok 0
  exact fun w => cut_0 62 w   hk
theorem ct_1 (Y M D : Int) (r : List Int) (hok : okB (date Y M D ++ r)) : Bad ((date Y M D ++ r).take 1) := by
  have hk : okB ((date Y M D ++ r).take 1) := ok_take hok 1
  exact fun w => cut_1 62 w _ (e1 _) hk
theorem ct_2 (Y M D : Int) (r : List Int) (hok : okB (date Y M D ++ r)) : Bad ((date Y M D ++ r).take 2) := by
  have hk : okB ((date Y M D ++ r).take 2) := ok_take hok 2
  exact fun w => cut_2 62 w _ _ (e1 _) (e2 _) hk
theorem ct_3 (Y M D : Int) (r : List Int) (hok : okB (date Y M D ++ r)) : Bad ((date Y M D ++ r).take 3) := by
  have hk : okB ((date Y M D ++ r).take 3) := ok_take hok 3
  exact fun w => cut_3 62 w _ _ _ (e1 _) (e2 _) (e1 _) hk
theorem ct_4 (Y M D : Int) (r : List Int) (hok : okB (date Y M D ++ r)) : Bad ((date Y M D ++ r).take 4) := by
  have hk : okB ((date Y M D ++ r).take 4) := ok_take hok 4
  exact fun w => cut_4 62 w _ _ _ _ (e1 _) (e2 _) (e1 _) (e2 _) hk
theorem ct_5 (Y M D : Int) (r : List Int) (hok : okB (date Y M D ++ r)) : Bad ((date Y M D ++ r).take 5) := by
  have hk : okB ((date Y M D ++ r).take 5) := ok_take hok 5
  exact fun w => cut_5 62 w _ _ _ _ (e1 _) (e2 _) (e1 _) (e2 _) hk
theorem ct_6 (Y M D : Int) (r : List Int) (hok : okB (date Y M D ++ r)) : Bad ((date Y M D ++ r).take 6) := by
  have hk : okB ((date Y M D ++ r).take 6) := ok_take hok 6
  exact fun w => cut_6 62 w _ _ _ _ _ (e1 _) (e2 _) (e1 _) (e2 _) (e1 _) hk
theorem ct_7 (Y M D : Int) (r : List Int) (hok : okB (date Y M D ++ r)) : Bad ((date Y M D ++ r).take 7) := by
  have hk : okB ((date Y M D ++ r).take 7) := ok_take hok 7
  exact fun w => cut_7 62 w _ _ _ _ _ _ (e1 _) (e2 _) (e1 _) (e2 _) (e1 _) (e2 _) hk
theorem ct_8 (Y M D : Int) (r : List Int) (hok : okB (date Y M D ++ r)) : Bad ((date Y M D ++ r).take 8) := by
  have hk : okB ((date Y M D ++ r).take 8) := ok_take hok 8
  exact fun w => cut_8 62 w _ _ _ _ _ _ (e1 _) (e2 _) (e1 _) (e2 _) (e1 _) (e2 _) hk
theorem ct_9 (Y M D : Int) (r : List Int) (hok : okB (date Y M D ++ r)) : Bad ((date Y M D ++ r).take 9) := by
  have hk : okB ((date Y M D ++ r).take 9) := ok_take hok 9
  exact fun w => cut_9 62 w _ _ _ _ _ _ _ (e1 _) (e2 _) (e1 _) (e2 _) (e1 _) (e2 _) (e1 _) hk

theorem len_text (Y M D h m s : Int) (bl tm : Bool) (z o : Int) (dl : List Int) (h9 : dl.length ≤ 9) :
    10 ≤ (date Y M D ++ if tm = true then [if bl = true then 32 else 84] ++ clock h m s ++ frac dl ++ zone z o else []).length ∧
      (date Y M D ++ if tm = true then [if bl = true then 32 else 84] ++ clock h m s ++ frac dl ++ zone z o else []).length ≤ 100 ∧ (tm = false → (date Y M D ++ if tm = true then [if bl = true then 32 else 84] ++ clock h m s ++ frac dl ++ zone z o else []).length = 10) := by
  have hd : (date Y M D).length = 10 := rfl
  have hc : (clock h m s).length = 8 := rfl
  have hf : (frac dl).length ≤ 10 := by unfold frac; split <;> simp <;> omega
  have hz : (zone z o).length ≤ 6 := by unfold zone d2; split <;> (try split) <;> (try split) <;> (try split) <;> simp
  cases tm <;> simp [hd, hc] <;> omega
/-- A letter in the text. -/
theorem bent (Y M D h m s : Int) (bl tm : Bool) (z o : Int) (dl : List Int) (hd : ∀ x ∈ dl, dig x = true) (h9 : dl.length ≤ 9) (k : Nat) (hk : k < 19)
    (hkl : k < (date Y M D ++ if tm = true then [if bl = true then 32 else 84] ++ clock h m s ++ frac dl ++ zone z o else []).length) (c : Int) (h0 : 97 ≤ c) (h1 : c ≤ 121) :
    Bad ((date Y M D ++ if tm = true then [if bl = true then 32 else 84] ++ clock h m s ++ frac dl ++ zone z o else []).set k c) := by
  have hok := ok_text Y M D h m s bl tm z o hd
  have hlen := (len_text Y M D h m s bl tm z o dl h9).2.2
  by_cases h10 : k < 10
  · rcases (by omega : k = 0 ∨ k = 1 ∨ k = 2 ∨ k = 3 ∨ k = 4 ∨ k = 5 ∨ k = 6 ∨ k = 7 ∨ k = 8 ∨ k = 9) with rfl | rfl | rfl | rfl | rfl | rfl | rfl | rfl | rfl | rfl
    · exact bd_0 _ _ _ _ c h0 h1 hok
    · exact bd_1 _ _ _ _ c h0 h1 hok
    · exact bd_2 _ _ _ _ c h0 h1 hok
    · exact bd_3 _ _ _ _ c h0 h1 hok
    · exact bd_4 _ _ _ _ c h0 h1 hok
    · exact bd_5 _ _ _ _ c h0 h1 hok
    · exact bd_6 _ _ _ _ c h0 h1 hok
    · exact bd_7 _ _ _ _ c h0 h1 hok
    · exact bd_8 _ _ _ _ c h0 h1 hok
    · exact bd_9 _ _ _ _ c h0 h1 hok
  · cases tm with
    | false => have := hlen rfl; omega
    | true =>
      clear hkl hlen
      rw [if_pos rfl] at hok ⊢
      cases bl with
      | false =>
        have e : (date Y M D ++ ([if false = true then 32 else 84] ++ clock h m s ++ frac dl ++ zone z o)) = date Y M D ++ 84 :: (clock h m s ++ (frac dl ++ zone z o)) := by simp
        rw [e] at hok ⊢
        rcases (by omega : k = 10 ∨ k = 11 ∨ k = 12 ∨ k = 13 ∨ k = 14 ∨ k = 15 ∨ k = 16 ∨ k = 17 ∨ k = 18) with rfl | rfl | rfl | rfl | rfl | rfl | rfl | rfl | rfl
        · exact bd_10 _ _ _ _ _ c h0 h1 hok
        · exact bd_t11 _ _ _ _ _ _ _ c h0 h1 hok
        · exact bd_t12 _ _ _ _ _ _ _ c h0 h1 hok
        · exact bd_t13 _ _ _ _ _ _ _ c h0 h1 hok
        · exact bd_t14 _ _ _ _ _ _ _ c h0 h1 hok
        · exact bd_t15 _ _ _ _ _ _ _ c h0 h1 hok
        · exact bd_t16 _ _ _ _ _ _ _ c h0 h1 hok
        · exact bd_t17 _ _ _ _ _ _ _ c h0 h1 hok
        · exact bd_t18 _ _ _ _ _ _ _ c h0 h1 hok
      | true =>
        have e : (date Y M D ++ ([if true = true then 32 else 84] ++ clock h m s ++ frac dl ++ zone z o)) = date Y M D ++ 32 :: (clock h m s ++ (frac dl ++ zone z o)) := by simp
        rw [e] at hok ⊢
        rcases (by omega : k = 10 ∨ k = 11 ∨ k = 12 ∨ k = 13 ∨ k = 14 ∨ k = 15 ∨ k = 16 ∨ k = 17 ∨ k = 18) with rfl | rfl | rfl | rfl | rfl | rfl | rfl | rfl | rfl
        · exact bd_10 _ _ _ _ _ c h0 h1 hok
        · exact bd_b11 _ _ _ _ _ _ _ c h0 h1 hok
        · exact bd_b12 _ _ _ _ _ _ _ c h0 h1 hok
        · exact bd_b13 _ _ _ _ _ _ _ c h0 h1 hok
        · exact bd_b14 _ _ _ _ _ _ _ c h0 h1 hok
        · exact bd_b15 _ _ _ _ _ _ _ c h0 h1 hok
        · exact bd_b16 _ _ _ _ _ _ _ c h0 h1 hok
        · exact bd_b17 _ _ _ _ _ _ _ c h0 h1 hok
        · exact bd_b18 _ _ _ _ _ _ _ c h0 h1 hok
/-- The text cut within its date. -/
theorem cutt (Y M D h m s : Int) (bl tm : Bool) (z o : Int) (dl : List Int) (hd : ∀ x ∈ dl, dig x = true) (k : Nat) (hk : k < 10) :
    Bad ((date Y M D ++ if tm = true then [if bl = true then 32 else 84] ++ clock h m s ++ frac dl ++ zone z o else []).take k) := by
  have hok := ok_text Y M D h m s bl tm z o hd
  rcases (by omega : k = 0 ∨ k = 1 ∨ k = 2 ∨ k = 3 ∨ k = 4 ∨ k = 5 ∨ k = 6 ∨ k = 7 ∨ k = 8 ∨ k = 9) with rfl | rfl | rfl | rfl | rfl | rfl | rfl | rfl | rfl | rfl
  · exact ct_0 _ _ _ _ hok
  · exact ct_1 _ _ _ _ hok
  · exact ct_2 _ _ _ _ hok
  · exact ct_3 _ _ _ _ hok
  · exact ct_4 _ _ _ _ hok
  · exact ct_5 _ _ _ _ hok
  · exact ct_6 _ _ _ _ hok
  · exact ct_7 _ _ _ _ hok
  · exact ct_8 _ _ _ _ hok
  · exact ct_9 _ _ _ _ hok
end Go.Proofs.Ytmhngpihkaignaa.IoBentP
