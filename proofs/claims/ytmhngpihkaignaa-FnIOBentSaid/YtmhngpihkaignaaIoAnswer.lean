/- Written by ioanswer.py (wip/): what the program's test tells of the text of a time, beside what the definition tells. -/
import Derived.Test.YtmhngpihkaignaaIoPure
import Derived.Test.YtmhngpihkaignaaMFnIOValidx5
namespace Go.Proofs.Ytmhngpihkaignaa.IoAnswer
open Go.RowKit Go.Proofs.Ytmhngpihkaignaa.PFnIOValid Go.Proofs.YtmhngpihkaignaaW.PrintWords Go.Proofs.YtmhngpihkaignaaW.PrintLast Go.Proofs.YtmhngpihkaignaaW.PrintMore Go.Proofs.Ytmhngpihkaignaa.IoText Go.Proofs.Ytmhngpihkaignaa.IoPure
set_option linter.unusedVariables false

theorem e1 (n : Int) : Aside0 (dig (48 + n / 10 % 10) = true) := Aside0.mk (by unfold dig; rw [decide_eq_true_iff]; omega)
theorem e2 (n : Int) : Aside0 (dig (48 + n % 10) = true) := Aside0.mk (by unfold dig; rw [decide_eq_true_iff]; omega)
theorem ok_dig {l : List Int} (h : ∀ x ∈ l, dig x = true) : okB l := fun x hx => by
  have := h x hx
  unfold dig at this
  rw [decide_eq_true_iff] at this
  omega
theorem ok_nil : okB [] := fun x hx => by cases hx
theorem ok_cons {c : Int} {r : List Int} (h : 0 ≤ c ∧ c < 256) (hr : okB r) : okB (c :: r) := fun x hx => by
  rcases List.mem_cons.1 hx with rfl | hx
  · exact h
  · exact hr x hx
theorem ok_app {a b : List Int} (ha : okB a) (hb : okB b) : okB (a ++ b) := fun x hx => by
  rcases List.mem_append.1 hx with hx | hx
  · exact ha x hx
  · exact hb x hx

/-- What the definition tells, in one line. -/
def told (bl tm : Bool) (dgs z f : Int) : Bool :=
  if tm = true then
    ((!(bl && (Go.bits .and .i64 f 2 == 0))) && (!(decide (dgs = 0) && (Go.bits .and .i64 f 8 == 0))) && (!(decide (z = 0) && (Go.bits .and .i64 f 16 == 0))) && (!(decide (z = 3) && (Go.bits .and .i64 f 32 == 0))))
  else !(Go.bits .and .i64 f 4 == 0)
theorem told_is (Y M D h m s : Int) (bl tm : Bool) (dgs part z o f : Int) : spec_IOValid.f 10 Y M D h m s bl tm dgs part z o f = some (told bl tm dgs z f) := by
  unfold spec_IOValid.f told
  cases tm with
  | false => rw [if_neg (by simp), if_neg (by simp)]; rfl
  | true =>
    rw [if_pos rfl, if_pos rfl]
    cases bl <;> cases F2 : (Go.bits .and .i64 f 2 == 0) <;> by_cases hd : dgs = 0 <;> cases F8 : (Go.bits .and .i64 f 8 == 0) <;> by_cases h0 : z = 0 <;> by_cases h3 : z = 3 <;> simp_all [spec_IOValid.j0, spec_IOValid.j1, bne]

section
variable (Y M D h m s : Int) (bl tm : Bool) (dgs part z o : Int) (dg : List Int)
theorem an_tn_n (f : Int) (hz : z = 0) (w : World) :
    Calls Try.prog 59 #[.string (strOfNums (date Y M D ++ ([84] ++ clock h m s ++ frac [] ++ zone z o))), .int .i64 f] w fun e w' => e = .returned (.bool (told false true 0 z f)) ∧ Drawn0 w w' := by
  have hL : (date Y M D ++ ([84] ++ clock h m s ++ frac [] ++ zone z o)) = [(48 + (Y / 100) / 10 % 10), (48 + (Y / 100) % 10), (48 + Y / 10 % 10), (48 + Y % 10), 45, (48 + M / 10 % 10), (48 + M % 10), 45, (48 + D / 10 % 10), (48 + D % 10), 84, (48 + h / 10 % 10), (48 + h % 10), 58, (48 + m / 10 % 10), (48 + m % 10), 58, (48 + s / 10 % 10), (48 + s % 10)] := by
    simp [date, clock, frac, zone, d2, hz]
  have hok : okB [(48 + (Y / 100) / 10 % 10), (48 + (Y / 100) % 10), (48 + Y / 10 % 10), (48 + Y % 10), 45, (48 + M / 10 % 10), (48 + M % 10), 45, (48 + D / 10 % 10), (48 + D % 10), 84, (48 + h / 10 % 10), (48 + h % 10), 58, (48 + m / 10 % 10), (48 + m % 10), 58, (48 + s / 10 % 10), (48 + s % 10)] := by
    repeat (first | exact ok_nil | refine ok_cons (by omega) ?_)
  have key := tx_tn_n f w _ _ _ _ _ _ _ _ _ _ _ _ _ _ (e1 _) (e2 _) (e1 _) (e2 _) (e1 _) (e2 _) (e1 _) (e2 _) (e1 _) (e2 _) (e1 _) (e2 _) (e1 _) (e2 _) hok
  rw [hL]
  refine key.mono ?_
  rintro e w' ⟨rfl, hd⟩
  refine ⟨?_, hd⟩
  subst hz
  unfold told
  rw [if_pos rfl]
  simp
theorem an_tn_z (f : Int) (hz : z = 1) (w : World) :
    Calls Try.prog 59 #[.string (strOfNums (date Y M D ++ ([84] ++ clock h m s ++ frac [] ++ zone z o))), .int .i64 f] w fun e w' => e = .returned (.bool (told false true 0 z f)) ∧ Drawn0 w w' := by
  have hL : (date Y M D ++ ([84] ++ clock h m s ++ frac [] ++ zone z o)) = [(48 + (Y / 100) / 10 % 10), (48 + (Y / 100) % 10), (48 + Y / 10 % 10), (48 + Y % 10), 45, (48 + M / 10 % 10), (48 + M % 10), 45, (48 + D / 10 % 10), (48 + D % 10), 84, (48 + h / 10 % 10), (48 + h % 10), 58, (48 + m / 10 % 10), (48 + m % 10), 58, (48 + s / 10 % 10), (48 + s % 10), 90] := by
    simp [date, clock, frac, zone, d2, hz]
  have hok : okB [(48 + (Y / 100) / 10 % 10), (48 + (Y / 100) % 10), (48 + Y / 10 % 10), (48 + Y % 10), 45, (48 + M / 10 % 10), (48 + M % 10), 45, (48 + D / 10 % 10), (48 + D % 10), 84, (48 + h / 10 % 10), (48 + h % 10), 58, (48 + m / 10 % 10), (48 + m % 10), 58, (48 + s / 10 % 10), (48 + s % 10), 90] := by
    repeat (first | exact ok_nil | refine ok_cons (by omega) ?_)
  have key := tx_tn_z f w _ _ _ _ _ _ _ _ _ _ _ _ _ _ (e1 _) (e2 _) (e1 _) (e2 _) (e1 _) (e2 _) (e1 _) (e2 _) (e1 _) (e2 _) (e1 _) (e2 _) (e1 _) (e2 _) hok
  rw [hL]
  refine key.mono ?_
  rintro e w' ⟨rfl, hd⟩
  refine ⟨?_, hd⟩
  subst hz
  unfold told
  rw [if_pos rfl]
  simp
theorem an_tn_cp (f : Int) (hz : z = 2) (ho : ¬ o < 0) (w : World) :
    Calls Try.prog 59 #[.string (strOfNums (date Y M D ++ ([84] ++ clock h m s ++ frac [] ++ zone z o))), .int .i64 f] w fun e w' => e = .returned (.bool (told false true 0 z f)) ∧ Drawn0 w w' := by
  have hL : (date Y M D ++ ([84] ++ clock h m s ++ frac [] ++ zone z o)) = [(48 + (Y / 100) / 10 % 10), (48 + (Y / 100) % 10), (48 + Y / 10 % 10), (48 + Y % 10), 45, (48 + M / 10 % 10), (48 + M % 10), 45, (48 + D / 10 % 10), (48 + D % 10), 84, (48 + h / 10 % 10), (48 + h % 10), 58, (48 + m / 10 % 10), (48 + m % 10), 58, (48 + s / 10 % 10), (48 + s % 10), 43, (48 + (o / 60) / 10 % 10), (48 + (o / 60) % 10), 58, (48 + (o % 60) / 10 % 10), (48 + (o % 60) % 10)] := by
    simp [date, clock, frac, zone, d2, hz, ho]
  have hok : okB [(48 + (Y / 100) / 10 % 10), (48 + (Y / 100) % 10), (48 + Y / 10 % 10), (48 + Y % 10), 45, (48 + M / 10 % 10), (48 + M % 10), 45, (48 + D / 10 % 10), (48 + D % 10), 84, (48 + h / 10 % 10), (48 + h % 10), 58, (48 + m / 10 % 10), (48 + m % 10), 58, (48 + s / 10 % 10), (48 + s % 10), 43, (48 + (o / 60) / 10 % 10), (48 + (o / 60) % 10), 58, (48 + (o % 60) / 10 % 10), (48 + (o % 60) % 10)] := by
    repeat (first | exact ok_nil | refine ok_cons (by omega) ?_)
  have key := tx_tn_cp f w _ _ _ _ _ _ _ _ _ _ _ _ _ _ _ _ _ _ (e1 _) (e2 _) (e1 _) (e2 _) (e1 _) (e2 _) (e1 _) (e2 _) (e1 _) (e2 _) (e1 _) (e2 _) (e1 _) (e2 _) (e1 _) (e2 _) (e1 _) (e2 _) hok
  rw [hL]
  refine key.mono ?_
  rintro e w' ⟨rfl, hd⟩
  refine ⟨?_, hd⟩
  subst hz
  unfold told
  rw [if_pos rfl]
  simp
theorem an_tn_cm (f : Int) (hz : z = 2) (ho : o < 0) (w : World) :
    Calls Try.prog 59 #[.string (strOfNums (date Y M D ++ ([84] ++ clock h m s ++ frac [] ++ zone z o))), .int .i64 f] w fun e w' => e = .returned (.bool (told false true 0 z f)) ∧ Drawn0 w w' := by
  have hL : (date Y M D ++ ([84] ++ clock h m s ++ frac [] ++ zone z o)) = [(48 + (Y / 100) / 10 % 10), (48 + (Y / 100) % 10), (48 + Y / 10 % 10), (48 + Y % 10), 45, (48 + M / 10 % 10), (48 + M % 10), 45, (48 + D / 10 % 10), (48 + D % 10), 84, (48 + h / 10 % 10), (48 + h % 10), 58, (48 + m / 10 % 10), (48 + m % 10), 58, (48 + s / 10 % 10), (48 + s % 10), 45, (48 + ((-o) / 60) / 10 % 10), (48 + ((-o) / 60) % 10), 58, (48 + ((-o) % 60) / 10 % 10), (48 + ((-o) % 60) % 10)] := by
    simp [date, clock, frac, zone, d2, hz, ho]
  have hok : okB [(48 + (Y / 100) / 10 % 10), (48 + (Y / 100) % 10), (48 + Y / 10 % 10), (48 + Y % 10), 45, (48 + M / 10 % 10), (48 + M % 10), 45, (48 + D / 10 % 10), (48 + D % 10), 84, (48 + h / 10 % 10), (48 + h % 10), 58, (48 + m / 10 % 10), (48 + m % 10), 58, (48 + s / 10 % 10), (48 + s % 10), 45, (48 + ((-o) / 60) / 10 % 10), (48 + ((-o) / 60) % 10), 58, (48 + ((-o) % 60) / 10 % 10), (48 + ((-o) % 60) % 10)] := by
    repeat (first | exact ok_nil | refine ok_cons (by omega) ?_)
  have key := tx_tn_cm f w _ _ _ _ _ _ _ _ _ _ _ _ _ _ _ _ _ _ (e1 _) (e2 _) (e1 _) (e2 _) (e1 _) (e2 _) (e1 _) (e2 _) (e1 _) (e2 _) (e1 _) (e2 _) (e1 _) (e2 _) (e1 _) (e2 _) (e1 _) (e2 _) hok
  rw [hL]
  refine key.mono ?_
  rintro e w' ⟨rfl, hd⟩
  refine ⟨?_, hd⟩
  subst hz
  unfold told
  rw [if_pos rfl]
  simp
theorem an_tn_qp (f : Int) (hz : z = 3) (ho : ¬ o < 0) (w : World) :
    Calls Try.prog 59 #[.string (strOfNums (date Y M D ++ ([84] ++ clock h m s ++ frac [] ++ zone z o))), .int .i64 f] w fun e w' => e = .returned (.bool (told false true 0 z f)) ∧ Drawn0 w w' := by
  have hL : (date Y M D ++ ([84] ++ clock h m s ++ frac [] ++ zone z o)) = [(48 + (Y / 100) / 10 % 10), (48 + (Y / 100) % 10), (48 + Y / 10 % 10), (48 + Y % 10), 45, (48 + M / 10 % 10), (48 + M % 10), 45, (48 + D / 10 % 10), (48 + D % 10), 84, (48 + h / 10 % 10), (48 + h % 10), 58, (48 + m / 10 % 10), (48 + m % 10), 58, (48 + s / 10 % 10), (48 + s % 10), 43, (48 + (o / 60) / 10 % 10), (48 + (o / 60) % 10), (48 + (o % 60) / 10 % 10), (48 + (o % 60) % 10)] := by
    simp [date, clock, frac, zone, d2, hz, ho]
  have hok : okB [(48 + (Y / 100) / 10 % 10), (48 + (Y / 100) % 10), (48 + Y / 10 % 10), (48 + Y % 10), 45, (48 + M / 10 % 10), (48 + M % 10), 45, (48 + D / 10 % 10), (48 + D % 10), 84, (48 + h / 10 % 10), (48 + h % 10), 58, (48 + m / 10 % 10), (48 + m % 10), 58, (48 + s / 10 % 10), (48 + s % 10), 43, (48 + (o / 60) / 10 % 10), (48 + (o / 60) % 10), (48 + (o % 60) / 10 % 10), (48 + (o % 60) % 10)] := by
    repeat (first | exact ok_nil | refine ok_cons (by omega) ?_)
  have key := tx_tn_qp f w _ _ _ _ _ _ _ _ _ _ _ _ _ _ _ _ _ _ (e1 _) (e2 _) (e1 _) (e2 _) (e1 _) (e2 _) (e1 _) (e2 _) (e1 _) (e2 _) (e1 _) (e2 _) (e1 _) (e2 _) (e1 _) (e2 _) (e1 _) (e2 _) hok
  rw [hL]
  refine key.mono ?_
  rintro e w' ⟨rfl, hd⟩
  refine ⟨?_, hd⟩
  subst hz
  unfold told
  rw [if_pos rfl]
  simp
theorem an_tn_qm (f : Int) (hz : z = 3) (ho : o < 0) (w : World) :
    Calls Try.prog 59 #[.string (strOfNums (date Y M D ++ ([84] ++ clock h m s ++ frac [] ++ zone z o))), .int .i64 f] w fun e w' => e = .returned (.bool (told false true 0 z f)) ∧ Drawn0 w w' := by
  have hL : (date Y M D ++ ([84] ++ clock h m s ++ frac [] ++ zone z o)) = [(48 + (Y / 100) / 10 % 10), (48 + (Y / 100) % 10), (48 + Y / 10 % 10), (48 + Y % 10), 45, (48 + M / 10 % 10), (48 + M % 10), 45, (48 + D / 10 % 10), (48 + D % 10), 84, (48 + h / 10 % 10), (48 + h % 10), 58, (48 + m / 10 % 10), (48 + m % 10), 58, (48 + s / 10 % 10), (48 + s % 10), 45, (48 + ((-o) / 60) / 10 % 10), (48 + ((-o) / 60) % 10), (48 + ((-o) % 60) / 10 % 10), (48 + ((-o) % 60) % 10)] := by
    simp [date, clock, frac, zone, d2, hz, ho]
  have hok : okB [(48 + (Y / 100) / 10 % 10), (48 + (Y / 100) % 10), (48 + Y / 10 % 10), (48 + Y % 10), 45, (48 + M / 10 % 10), (48 + M % 10), 45, (48 + D / 10 % 10), (48 + D % 10), 84, (48 + h / 10 % 10), (48 + h % 10), 58, (48 + m / 10 % 10), (48 + m % 10), 58, (48 + s / 10 % 10), (48 + s % 10), 45, (48 + ((-o) / 60) / 10 % 10), (48 + ((-o) / 60) % 10), (48 + ((-o) % 60) / 10 % 10), (48 + ((-o) % 60) % 10)] := by
    repeat (first | exact ok_nil | refine ok_cons (by omega) ?_)
  have key := tx_tn_qm f w _ _ _ _ _ _ _ _ _ _ _ _ _ _ _ _ _ _ (e1 _) (e2 _) (e1 _) (e2 _) (e1 _) (e2 _) (e1 _) (e2 _) (e1 _) (e2 _) (e1 _) (e2 _) (e1 _) (e2 _) (e1 _) (e2 _) (e1 _) (e2 _) hok
  rw [hL]
  refine key.mono ?_
  rintro e w' ⟨rfl, hd⟩
  refine ⟨?_, hd⟩
  subst hz
  unfold told
  rw [if_pos rfl]
  simp
theorem an_tf_n (f : Int) (hz : z = 0) (hdg : ∀ x ∈ dg, dig x = true) (hl1 : 1 ≤ dg.length) (hl9 : dg.length ≤ 9) (w : World) :
    Calls Try.prog 59 #[.string (strOfNums (date Y M D ++ ([84] ++ clock h m s ++ frac dg ++ zone z o))), .int .i64 f] w fun e w' => e = .returned (.bool (told false true dg.length z f)) ∧ Drawn0 w w' := by
  have hne : dg ≠ [] := by intro e; rw [e] at hl1; simp at hl1
  have hn0 : decide ((dg.length : Int) = 0) = false := by rw [decide_eq_false_iff_not]; omega
  have hL : (date Y M D ++ ([84] ++ clock h m s ++ frac dg ++ zone z o)) = ((48 + (Y / 100) / 10 % 10) :: (48 + (Y / 100) % 10) :: (48 + Y / 10 % 10) :: (48 + Y % 10) :: 45 :: (48 + M / 10 % 10) :: (48 + M % 10) :: 45 :: (48 + D / 10 % 10) :: (48 + D % 10) :: 84 :: (48 + h / 10 % 10) :: (48 + h % 10) :: 58 :: (48 + m / 10 % 10) :: (48 + m % 10) :: 58 :: (48 + s / 10 % 10) :: (48 + s % 10) :: 46 :: (dg ++ [])) := by
    simp [date, clock, frac, zone, d2, hz, hne]
  have hok : okB ((48 + (Y / 100) / 10 % 10) :: (48 + (Y / 100) % 10) :: (48 + Y / 10 % 10) :: (48 + Y % 10) :: 45 :: (48 + M / 10 % 10) :: (48 + M % 10) :: 45 :: (48 + D / 10 % 10) :: (48 + D % 10) :: 84 :: (48 + h / 10 % 10) :: (48 + h % 10) :: 58 :: (48 + m / 10 % 10) :: (48 + m % 10) :: 58 :: (48 + s / 10 % 10) :: (48 + s % 10) :: 46 :: (dg ++ [])) := by
    repeat (first | exact ok_nil | exact ok_dig hdg | refine ok_app (ok_dig hdg) ?_ | refine ok_cons (by omega) ?_)
  have key := tx_tf_n f w _ _ _ _ _ _ _ _ _ _ _ _ _ _ (e1 _) (e2 _) (e1 _) (e2 _) (e1 _) (e2 _) (e1 _) (e2 _) (e1 _) (e2 _) (e1 _) (e2 _) (e1 _) (e2 _) dg hdg hl1 hl9 hok
  rw [hL]
  refine key.mono ?_
  rintro e w' ⟨rfl, hd⟩
  refine ⟨?_, hd⟩
  subst hz
  unfold told
  rw [if_pos rfl]
  rw [hn0]
  simp
theorem an_tf_z (f : Int) (hz : z = 1) (hdg : ∀ x ∈ dg, dig x = true) (hl1 : 1 ≤ dg.length) (hl9 : dg.length ≤ 9) (w : World) :
    Calls Try.prog 59 #[.string (strOfNums (date Y M D ++ ([84] ++ clock h m s ++ frac dg ++ zone z o))), .int .i64 f] w fun e w' => e = .returned (.bool (told false true dg.length z f)) ∧ Drawn0 w w' := by
  have hne : dg ≠ [] := by intro e; rw [e] at hl1; simp at hl1
  have hn0 : decide ((dg.length : Int) = 0) = false := by rw [decide_eq_false_iff_not]; omega
  have hL : (date Y M D ++ ([84] ++ clock h m s ++ frac dg ++ zone z o)) = ((48 + (Y / 100) / 10 % 10) :: (48 + (Y / 100) % 10) :: (48 + Y / 10 % 10) :: (48 + Y % 10) :: 45 :: (48 + M / 10 % 10) :: (48 + M % 10) :: 45 :: (48 + D / 10 % 10) :: (48 + D % 10) :: 84 :: (48 + h / 10 % 10) :: (48 + h % 10) :: 58 :: (48 + m / 10 % 10) :: (48 + m % 10) :: 58 :: (48 + s / 10 % 10) :: (48 + s % 10) :: 46 :: (dg ++ [90])) := by
    simp [date, clock, frac, zone, d2, hz, hne]
  have hok : okB ((48 + (Y / 100) / 10 % 10) :: (48 + (Y / 100) % 10) :: (48 + Y / 10 % 10) :: (48 + Y % 10) :: 45 :: (48 + M / 10 % 10) :: (48 + M % 10) :: 45 :: (48 + D / 10 % 10) :: (48 + D % 10) :: 84 :: (48 + h / 10 % 10) :: (48 + h % 10) :: 58 :: (48 + m / 10 % 10) :: (48 + m % 10) :: 58 :: (48 + s / 10 % 10) :: (48 + s % 10) :: 46 :: (dg ++ [90])) := by
    repeat (first | exact ok_nil | exact ok_dig hdg | refine ok_app (ok_dig hdg) ?_ | refine ok_cons (by omega) ?_)
  have key := tx_tf_z f w _ _ _ _ _ _ _ _ _ _ _ _ _ _ (e1 _) (e2 _) (e1 _) (e2 _) (e1 _) (e2 _) (e1 _) (e2 _) (e1 _) (e2 _) (e1 _) (e2 _) (e1 _) (e2 _) dg hdg hl1 hl9 hok
  rw [hL]
  refine key.mono ?_
  rintro e w' ⟨rfl, hd⟩
  refine ⟨?_, hd⟩
  subst hz
  unfold told
  rw [if_pos rfl]
  rw [hn0]
  simp
theorem an_tf_cp (f : Int) (hz : z = 2) (ho : ¬ o < 0) (hdg : ∀ x ∈ dg, dig x = true) (hl1 : 1 ≤ dg.length) (hl9 : dg.length ≤ 9) (w : World) :
    Calls Try.prog 59 #[.string (strOfNums (date Y M D ++ ([84] ++ clock h m s ++ frac dg ++ zone z o))), .int .i64 f] w fun e w' => e = .returned (.bool (told false true dg.length z f)) ∧ Drawn0 w w' := by
  have hne : dg ≠ [] := by intro e; rw [e] at hl1; simp at hl1
  have hn0 : decide ((dg.length : Int) = 0) = false := by rw [decide_eq_false_iff_not]; omega
  have hL : (date Y M D ++ ([84] ++ clock h m s ++ frac dg ++ zone z o)) = ((48 + (Y / 100) / 10 % 10) :: (48 + (Y / 100) % 10) :: (48 + Y / 10 % 10) :: (48 + Y % 10) :: 45 :: (48 + M / 10 % 10) :: (48 + M % 10) :: 45 :: (48 + D / 10 % 10) :: (48 + D % 10) :: 84 :: (48 + h / 10 % 10) :: (48 + h % 10) :: 58 :: (48 + m / 10 % 10) :: (48 + m % 10) :: 58 :: (48 + s / 10 % 10) :: (48 + s % 10) :: 46 :: (dg ++ [43, (48 + (o / 60) / 10 % 10), (48 + (o / 60) % 10), 58, (48 + (o % 60) / 10 % 10), (48 + (o % 60) % 10)])) := by
    simp [date, clock, frac, zone, d2, hz, ho, hne]
  have hok : okB ((48 + (Y / 100) / 10 % 10) :: (48 + (Y / 100) % 10) :: (48 + Y / 10 % 10) :: (48 + Y % 10) :: 45 :: (48 + M / 10 % 10) :: (48 + M % 10) :: 45 :: (48 + D / 10 % 10) :: (48 + D % 10) :: 84 :: (48 + h / 10 % 10) :: (48 + h % 10) :: 58 :: (48 + m / 10 % 10) :: (48 + m % 10) :: 58 :: (48 + s / 10 % 10) :: (48 + s % 10) :: 46 :: (dg ++ [43, (48 + (o / 60) / 10 % 10), (48 + (o / 60) % 10), 58, (48 + (o % 60) / 10 % 10), (48 + (o % 60) % 10)])) := by
    repeat (first | exact ok_nil | exact ok_dig hdg | refine ok_app (ok_dig hdg) ?_ | refine ok_cons (by omega) ?_)
  have key := tx_tf_cp f w _ _ _ _ _ _ _ _ _ _ _ _ _ _ _ _ _ _ (e1 _) (e2 _) (e1 _) (e2 _) (e1 _) (e2 _) (e1 _) (e2 _) (e1 _) (e2 _) (e1 _) (e2 _) (e1 _) (e2 _) (e1 _) (e2 _) (e1 _) (e2 _) dg hdg hl1 hl9 hok
  rw [hL]
  refine key.mono ?_
  rintro e w' ⟨rfl, hd⟩
  refine ⟨?_, hd⟩
  subst hz
  unfold told
  rw [if_pos rfl]
  rw [hn0]
  simp
theorem an_tf_cm (f : Int) (hz : z = 2) (ho : o < 0) (hdg : ∀ x ∈ dg, dig x = true) (hl1 : 1 ≤ dg.length) (hl9 : dg.length ≤ 9) (w : World) :
    Calls Try.prog 59 #[.string (strOfNums (date Y M D ++ ([84] ++ clock h m s ++ frac dg ++ zone z o))), .int .i64 f] w fun e w' => e = .returned (.bool (told false true dg.length z f)) ∧ Drawn0 w w' := by
  have hne : dg ≠ [] := by intro e; rw [e] at hl1; simp at hl1
  have hn0 : decide ((dg.length : Int) = 0) = false := by rw [decide_eq_false_iff_not]; omega
  have hL : (date Y M D ++ ([84] ++ clock h m s ++ frac dg ++ zone z o)) = ((48 + (Y / 100) / 10 % 10) :: (48 + (Y / 100) % 10) :: (48 + Y / 10 % 10) :: (48 + Y % 10) :: 45 :: (48 + M / 10 % 10) :: (48 + M % 10) :: 45 :: (48 + D / 10 % 10) :: (48 + D % 10) :: 84 :: (48 + h / 10 % 10) :: (48 + h % 10) :: 58 :: (48 + m / 10 % 10) :: (48 + m % 10) :: 58 :: (48 + s / 10 % 10) :: (48 + s % 10) :: 46 :: (dg ++ [45, (48 + ((-o) / 60) / 10 % 10), (48 + ((-o) / 60) % 10), 58, (48 + ((-o) % 60) / 10 % 10), (48 + ((-o) % 60) % 10)])) := by
    simp [date, clock, frac, zone, d2, hz, ho, hne]
  have hok : okB ((48 + (Y / 100) / 10 % 10) :: (48 + (Y / 100) % 10) :: (48 + Y / 10 % 10) :: (48 + Y % 10) :: 45 :: (48 + M / 10 % 10) :: (48 + M % 10) :: 45 :: (48 + D / 10 % 10) :: (48 + D % 10) :: 84 :: (48 + h / 10 % 10) :: (48 + h % 10) :: 58 :: (48 + m / 10 % 10) :: (48 + m % 10) :: 58 :: (48 + s / 10 % 10) :: (48 + s % 10) :: 46 :: (dg ++ [45, (48 + ((-o) / 60) / 10 % 10), (48 + ((-o) / 60) % 10), 58, (48 + ((-o) % 60) / 10 % 10), (48 + ((-o) % 60) % 10)])) := by
    repeat (first | exact ok_nil | exact ok_dig hdg | refine ok_app (ok_dig hdg) ?_ | refine ok_cons (by omega) ?_)
  have key := tx_tf_cm f w _ _ _ _ _ _ _ _ _ _ _ _ _ _ _ _ _ _ (e1 _) (e2 _) (e1 _) (e2 _) (e1 _) (e2 _) (e1 _) (e2 _) (e1 _) (e2 _) (e1 _) (e2 _) (e1 _) (e2 _) (e1 _) (e2 _) (e1 _) (e2 _) dg hdg hl1 hl9 hok
  rw [hL]
  refine key.mono ?_
  rintro e w' ⟨rfl, hd⟩
  refine ⟨?_, hd⟩
  subst hz
  unfold told
  rw [if_pos rfl]
  rw [hn0]
  simp
theorem an_tf_qp (f : Int) (hz : z = 3) (ho : ¬ o < 0) (hdg : ∀ x ∈ dg, dig x = true) (hl1 : 1 ≤ dg.length) (hl9 : dg.length ≤ 9) (w : World) :
    Calls Try.prog 59 #[.string (strOfNums (date Y M D ++ ([84] ++ clock h m s ++ frac dg ++ zone z o))), .int .i64 f] w fun e w' => e = .returned (.bool (told false true dg.length z f)) ∧ Drawn0 w w' := by
  have hne : dg ≠ [] := by intro e; rw [e] at hl1; simp at hl1
  have hn0 : decide ((dg.length : Int) = 0) = false := by rw [decide_eq_false_iff_not]; omega
  have hL : (date Y M D ++ ([84] ++ clock h m s ++ frac dg ++ zone z o)) = ((48 + (Y / 100) / 10 % 10) :: (48 + (Y / 100) % 10) :: (48 + Y / 10 % 10) :: (48 + Y % 10) :: 45 :: (48 + M / 10 % 10) :: (48 + M % 10) :: 45 :: (48 + D / 10 % 10) :: (48 + D % 10) :: 84 :: (48 + h / 10 % 10) :: (48 + h % 10) :: 58 :: (48 + m / 10 % 10) :: (48 + m % 10) :: 58 :: (48 + s / 10 % 10) :: (48 + s % 10) :: 46 :: (dg ++ [43, (48 + (o / 60) / 10 % 10), (48 + (o / 60) % 10), (48 + (o % 60) / 10 % 10), (48 + (o % 60) % 10)])) := by
    simp [date, clock, frac, zone, d2, hz, ho, hne]
  have hok : okB ((48 + (Y / 100) / 10 % 10) :: (48 + (Y / 100) % 10) :: (48 + Y / 10 % 10) :: (48 + Y % 10) :: 45 :: (48 + M / 10 % 10) :: (48 + M % 10) :: 45 :: (48 + D / 10 % 10) :: (48 + D % 10) :: 84 :: (48 + h / 10 % 10) :: (48 + h % 10) :: 58 :: (48 + m / 10 % 10) :: (48 + m % 10) :: 58 :: (48 + s / 10 % 10) :: (48 + s % 10) :: 46 :: (dg ++ [43, (48 + (o / 60) / 10 % 10), (48 + (o / 60) % 10), (48 + (o % 60) / 10 % 10), (48 + (o % 60) % 10)])) := by
    repeat (first | exact ok_nil | exact ok_dig hdg | refine ok_app (ok_dig hdg) ?_ | refine ok_cons (by omega) ?_)
  have key := tx_tf_qp f w _ _ _ _ _ _ _ _ _ _ _ _ _ _ _ _ _ _ (e1 _) (e2 _) (e1 _) (e2 _) (e1 _) (e2 _) (e1 _) (e2 _) (e1 _) (e2 _) (e1 _) (e2 _) (e1 _) (e2 _) (e1 _) (e2 _) (e1 _) (e2 _) dg hdg hl1 hl9 hok
  rw [hL]
  refine key.mono ?_
  rintro e w' ⟨rfl, hd⟩
  refine ⟨?_, hd⟩
  subst hz
  unfold told
  rw [if_pos rfl]
  rw [hn0]
  simp
theorem an_tf_qm (f : Int) (hz : z = 3) (ho : o < 0) (hdg : ∀ x ∈ dg, dig x = true) (hl1 : 1 ≤ dg.length) (hl9 : dg.length ≤ 9) (w : World) :
    Calls Try.prog 59 #[.string (strOfNums (date Y M D ++ ([84] ++ clock h m s ++ frac dg ++ zone z o))), .int .i64 f] w fun e w' => e = .returned (.bool (told false true dg.length z f)) ∧ Drawn0 w w' := by
  have hne : dg ≠ [] := by intro e; rw [e] at hl1; simp at hl1
  have hn0 : decide ((dg.length : Int) = 0) = false := by rw [decide_eq_false_iff_not]; omega
  have hL : (date Y M D ++ ([84] ++ clock h m s ++ frac dg ++ zone z o)) = ((48 + (Y / 100) / 10 % 10) :: (48 + (Y / 100) % 10) :: (48 + Y / 10 % 10) :: (48 + Y % 10) :: 45 :: (48 + M / 10 % 10) :: (48 + M % 10) :: 45 :: (48 + D / 10 % 10) :: (48 + D % 10) :: 84 :: (48 + h / 10 % 10) :: (48 + h % 10) :: 58 :: (48 + m / 10 % 10) :: (48 + m % 10) :: 58 :: (48 + s / 10 % 10) :: (48 + s % 10) :: 46 :: (dg ++ [45, (48 + ((-o) / 60) / 10 % 10), (48 + ((-o) / 60) % 10), (48 + ((-o) % 60) / 10 % 10), (48 + ((-o) % 60) % 10)])) := by
    simp [date, clock, frac, zone, d2, hz, ho, hne]
  have hok : okB ((48 + (Y / 100) / 10 % 10) :: (48 + (Y / 100) % 10) :: (48 + Y / 10 % 10) :: (48 + Y % 10) :: 45 :: (48 + M / 10 % 10) :: (48 + M % 10) :: 45 :: (48 + D / 10 % 10) :: (48 + D % 10) :: 84 :: (48 + h / 10 % 10) :: (48 + h % 10) :: 58 :: (48 + m / 10 % 10) :: (48 + m % 10) :: 58 :: (48 + s / 10 % 10) :: (48 + s % 10) :: 46 :: (dg ++ [45, (48 + ((-o) / 60) / 10 % 10), (48 + ((-o) / 60) % 10), (48 + ((-o) % 60) / 10 % 10), (48 + ((-o) % 60) % 10)])) := by
    repeat (first | exact ok_nil | exact ok_dig hdg | refine ok_app (ok_dig hdg) ?_ | refine ok_cons (by omega) ?_)
  have key := tx_tf_qm f w _ _ _ _ _ _ _ _ _ _ _ _ _ _ _ _ _ _ (e1 _) (e2 _) (e1 _) (e2 _) (e1 _) (e2 _) (e1 _) (e2 _) (e1 _) (e2 _) (e1 _) (e2 _) (e1 _) (e2 _) (e1 _) (e2 _) (e1 _) (e2 _) dg hdg hl1 hl9 hok
  rw [hL]
  refine key.mono ?_
  rintro e w' ⟨rfl, hd⟩
  refine ⟨?_, hd⟩
  subst hz
  unfold told
  rw [if_pos rfl]
  rw [hn0]
  simp
theorem an_bn_n (f : Int) (hz : z = 0) (w : World) :
    Calls Try.prog 59 #[.string (strOfNums (date Y M D ++ ([32] ++ clock h m s ++ frac [] ++ zone z o))), .int .i64 f] w fun e w' => e = .returned (.bool (told true true 0 z f)) ∧ Drawn0 w w' := by
  have hL : (date Y M D ++ ([32] ++ clock h m s ++ frac [] ++ zone z o)) = [(48 + (Y / 100) / 10 % 10), (48 + (Y / 100) % 10), (48 + Y / 10 % 10), (48 + Y % 10), 45, (48 + M / 10 % 10), (48 + M % 10), 45, (48 + D / 10 % 10), (48 + D % 10), 32, (48 + h / 10 % 10), (48 + h % 10), 58, (48 + m / 10 % 10), (48 + m % 10), 58, (48 + s / 10 % 10), (48 + s % 10)] := by
    simp [date, clock, frac, zone, d2, hz]
  have hok : okB [(48 + (Y / 100) / 10 % 10), (48 + (Y / 100) % 10), (48 + Y / 10 % 10), (48 + Y % 10), 45, (48 + M / 10 % 10), (48 + M % 10), 45, (48 + D / 10 % 10), (48 + D % 10), 32, (48 + h / 10 % 10), (48 + h % 10), 58, (48 + m / 10 % 10), (48 + m % 10), 58, (48 + s / 10 % 10), (48 + s % 10)] := by
    repeat (first | exact ok_nil | refine ok_cons (by omega) ?_)
  have key := tx_bn_n f w _ _ _ _ _ _ _ _ _ _ _ _ _ _ (e1 _) (e2 _) (e1 _) (e2 _) (e1 _) (e2 _) (e1 _) (e2 _) (e1 _) (e2 _) (e1 _) (e2 _) (e1 _) (e2 _) hok
  rw [hL]
  refine key.mono ?_
  rintro e w' ⟨rfl, hd⟩
  refine ⟨?_, hd⟩
  subst hz
  unfold told
  rw [if_pos rfl]
  simp
theorem an_bn_z (f : Int) (hz : z = 1) (w : World) :
    Calls Try.prog 59 #[.string (strOfNums (date Y M D ++ ([32] ++ clock h m s ++ frac [] ++ zone z o))), .int .i64 f] w fun e w' => e = .returned (.bool (told true true 0 z f)) ∧ Drawn0 w w' := by
  have hL : (date Y M D ++ ([32] ++ clock h m s ++ frac [] ++ zone z o)) = [(48 + (Y / 100) / 10 % 10), (48 + (Y / 100) % 10), (48 + Y / 10 % 10), (48 + Y % 10), 45, (48 + M / 10 % 10), (48 + M % 10), 45, (48 + D / 10 % 10), (48 + D % 10), 32, (48 + h / 10 % 10), (48 + h % 10), 58, (48 + m / 10 % 10), (48 + m % 10), 58, (48 + s / 10 % 10), (48 + s % 10), 90] := by
    simp [date, clock, frac, zone, d2, hz]
  have hok : okB [(48 + (Y / 100) / 10 % 10), (48 + (Y / 100) % 10), (48 + Y / 10 % 10), (48 + Y % 10), 45, (48 + M / 10 % 10), (48 + M % 10), 45, (48 + D / 10 % 10), (48 + D % 10), 32, (48 + h / 10 % 10), (48 + h % 10), 58, (48 + m / 10 % 10), (48 + m % 10), 58, (48 + s / 10 % 10), (48 + s % 10), 90] := by
    repeat (first | exact ok_nil | refine ok_cons (by omega) ?_)
  have key := tx_bn_z f w _ _ _ _ _ _ _ _ _ _ _ _ _ _ (e1 _) (e2 _) (e1 _) (e2 _) (e1 _) (e2 _) (e1 _) (e2 _) (e1 _) (e2 _) (e1 _) (e2 _) (e1 _) (e2 _) hok
  rw [hL]
  refine key.mono ?_
  rintro e w' ⟨rfl, hd⟩
  refine ⟨?_, hd⟩
  subst hz
  unfold told
  rw [if_pos rfl]
  simp
theorem an_bn_cp (f : Int) (hz : z = 2) (ho : ¬ o < 0) (w : World) :
    Calls Try.prog 59 #[.string (strOfNums (date Y M D ++ ([32] ++ clock h m s ++ frac [] ++ zone z o))), .int .i64 f] w fun e w' => e = .returned (.bool (told true true 0 z f)) ∧ Drawn0 w w' := by
  have hL : (date Y M D ++ ([32] ++ clock h m s ++ frac [] ++ zone z o)) = [(48 + (Y / 100) / 10 % 10), (48 + (Y / 100) % 10), (48 + Y / 10 % 10), (48 + Y % 10), 45, (48 + M / 10 % 10), (48 + M % 10), 45, (48 + D / 10 % 10), (48 + D % 10), 32, (48 + h / 10 % 10), (48 + h % 10), 58, (48 + m / 10 % 10), (48 + m % 10), 58, (48 + s / 10 % 10), (48 + s % 10), 43, (48 + (o / 60) / 10 % 10), (48 + (o / 60) % 10), 58, (48 + (o % 60) / 10 % 10), (48 + (o % 60) % 10)] := by
    simp [date, clock, frac, zone, d2, hz, ho]
  have hok : okB [(48 + (Y / 100) / 10 % 10), (48 + (Y / 100) % 10), (48 + Y / 10 % 10), (48 + Y % 10), 45, (48 + M / 10 % 10), (48 + M % 10), 45, (48 + D / 10 % 10), (48 + D % 10), 32, (48 + h / 10 % 10), (48 + h % 10), 58, (48 + m / 10 % 10), (48 + m % 10), 58, (48 + s / 10 % 10), (48 + s % 10), 43, (48 + (o / 60) / 10 % 10), (48 + (o / 60) % 10), 58, (48 + (o % 60) / 10 % 10), (48 + (o % 60) % 10)] := by
    repeat (first | exact ok_nil | refine ok_cons (by omega) ?_)
  have key := tx_bn_cp f w _ _ _ _ _ _ _ _ _ _ _ _ _ _ _ _ _ _ (e1 _) (e2 _) (e1 _) (e2 _) (e1 _) (e2 _) (e1 _) (e2 _) (e1 _) (e2 _) (e1 _) (e2 _) (e1 _) (e2 _) (e1 _) (e2 _) (e1 _) (e2 _) hok
  rw [hL]
  refine key.mono ?_
  rintro e w' ⟨rfl, hd⟩
  refine ⟨?_, hd⟩
  subst hz
  unfold told
  rw [if_pos rfl]
  simp
theorem an_bn_cm (f : Int) (hz : z = 2) (ho : o < 0) (w : World) :
    Calls Try.prog 59 #[.string (strOfNums (date Y M D ++ ([32] ++ clock h m s ++ frac [] ++ zone z o))), .int .i64 f] w fun e w' => e = .returned (.bool (told true true 0 z f)) ∧ Drawn0 w w' := by
  have hL : (date Y M D ++ ([32] ++ clock h m s ++ frac [] ++ zone z o)) = [(48 + (Y / 100) / 10 % 10), (48 + (Y / 100) % 10), (48 + Y / 10 % 10), (48 + Y % 10), 45, (48 + M / 10 % 10), (48 + M % 10), 45, (48 + D / 10 % 10), (48 + D % 10), 32, (48 + h / 10 % 10), (48 + h % 10), 58, (48 + m / 10 % 10), (48 + m % 10), 58, (48 + s / 10 % 10), (48 + s % 10), 45, (48 + ((-o) / 60) / 10 % 10), (48 + ((-o) / 60) % 10), 58, (48 + ((-o) % 60) / 10 % 10), (48 + ((-o) % 60) % 10)] := by
    simp [date, clock, frac, zone, d2, hz, ho]
  have hok : okB [(48 + (Y / 100) / 10 % 10), (48 + (Y / 100) % 10), (48 + Y / 10 % 10), (48 + Y % 10), 45, (48 + M / 10 % 10), (48 + M % 10), 45, (48 + D / 10 % 10), (48 + D % 10), 32, (48 + h / 10 % 10), (48 + h % 10), 58, (48 + m / 10 % 10), (48 + m % 10), 58, (48 + s / 10 % 10), (48 + s % 10), 45, (48 + ((-o) / 60) / 10 % 10), (48 + ((-o) / 60) % 10), 58, (48 + ((-o) % 60) / 10 % 10), (48 + ((-o) % 60) % 10)] := by
    repeat (first | exact ok_nil | refine ok_cons (by omega) ?_)
  have key := tx_bn_cm f w _ _ _ _ _ _ _ _ _ _ _ _ _ _ _ _ _ _ (e1 _) (e2 _) (e1 _) (e2 _) (e1 _) (e2 _) (e1 _) (e2 _) (e1 _) (e2 _) (e1 _) (e2 _) (e1 _) (e2 _) (e1 _) (e2 _) (e1 _) (e2 _) hok
  rw [hL]
  refine key.mono ?_
  rintro e w' ⟨rfl, hd⟩
  refine ⟨?_, hd⟩
  subst hz
  unfold told
  rw [if_pos rfl]
  simp
theorem an_bn_qp (f : Int) (hz : z = 3) (ho : ¬ o < 0) (w : World) :
    Calls Try.prog 59 #[.string (strOfNums (date Y M D ++ ([32] ++ clock h m s ++ frac [] ++ zone z o))), .int .i64 f] w fun e w' => e = .returned (.bool (told true true 0 z f)) ∧ Drawn0 w w' := by
  have hL : (date Y M D ++ ([32] ++ clock h m s ++ frac [] ++ zone z o)) = [(48 + (Y / 100) / 10 % 10), (48 + (Y / 100) % 10), (48 + Y / 10 % 10), (48 + Y % 10), 45, (48 + M / 10 % 10), (48 + M % 10), 45, (48 + D / 10 % 10), (48 + D % 10), 32, (48 + h / 10 % 10), (48 + h % 10), 58, (48 + m / 10 % 10), (48 + m % 10), 58, (48 + s / 10 % 10), (48 + s % 10), 43, (48 + (o / 60) / 10 % 10), (48 + (o / 60) % 10), (48 + (o % 60) / 10 % 10), (48 + (o % 60) % 10)] := by
    simp [date, clock, frac, zone, d2, hz, ho]
  have hok : okB [(48 + (Y / 100) / 10 % 10), (48 + (Y / 100) % 10), (48 + Y / 10 % 10), (48 + Y % 10), 45, (48 + M / 10 % 10), (48 + M % 10), 45, (48 + D / 10 % 10), (48 + D % 10), 32, (48 + h / 10 % 10), (48 + h % 10), 58, (48 + m / 10 % 10), (48 + m % 10), 58, (48 + s / 10 % 10), (48 + s % 10), 43, (48 + (o / 60) / 10 % 10), (48 + (o / 60) % 10), (48 + (o % 60) / 10 % 10), (48 + (o % 60) % 10)] := by
    repeat (first | exact ok_nil | refine ok_cons (by omega) ?_)
  have key := tx_bn_qp f w _ _ _ _ _ _ _ _ _ _ _ _ _ _ _ _ _ _ (e1 _) (e2 _) (e1 _) (e2 _) (e1 _) (e2 _) (e1 _) (e2 _) (e1 _) (e2 _) (e1 _) (e2 _) (e1 _) (e2 _) (e1 _) (e2 _) (e1 _) (e2 _) hok
  rw [hL]
  refine key.mono ?_
  rintro e w' ⟨rfl, hd⟩
  refine ⟨?_, hd⟩
  subst hz
  unfold told
  rw [if_pos rfl]
  simp
theorem an_bn_qm (f : Int) (hz : z = 3) (ho : o < 0) (w : World) :
    Calls Try.prog 59 #[.string (strOfNums (date Y M D ++ ([32] ++ clock h m s ++ frac [] ++ zone z o))), .int .i64 f] w fun e w' => e = .returned (.bool (told true true 0 z f)) ∧ Drawn0 w w' := by
  have hL : (date Y M D ++ ([32] ++ clock h m s ++ frac [] ++ zone z o)) = [(48 + (Y / 100) / 10 % 10), (48 + (Y / 100) % 10), (48 + Y / 10 % 10), (48 + Y % 10), 45, (48 + M / 10 % 10), (48 + M % 10), 45, (48 + D / 10 % 10), (48 + D % 10), 32, (48 + h / 10 % 10), (48 + h % 10), 58, (48 + m / 10 % 10), (48 + m % 10), 58, (48 + s / 10 % 10), (48 + s % 10), 45, (48 + ((-o) / 60) / 10 % 10), (48 + ((-o) / 60) % 10), (48 + ((-o) % 60) / 10 % 10), (48 + ((-o) % 60) % 10)] := by
    simp [date, clock, frac, zone, d2, hz, ho]
  have hok : okB [(48 + (Y / 100) / 10 % 10), (48 + (Y / 100) % 10), (48 + Y / 10 % 10), (48 + Y % 10), 45, (48 + M / 10 % 10), (48 + M % 10), 45, (48 + D / 10 % 10), (48 + D % 10), 32, (48 + h / 10 % 10), (48 + h % 10), 58, (48 + m / 10 % 10), (48 + m % 10), 58, (48 + s / 10 % 10), (48 + s % 10), 45, (48 + ((-o) / 60) / 10 % 10), (48 + ((-o) / 60) % 10), (48 + ((-o) % 60) / 10 % 10), (48 + ((-o) % 60) % 10)] := by
    repeat (first | exact ok_nil | refine ok_cons (by omega) ?_)
  have key := tx_bn_qm f w _ _ _ _ _ _ _ _ _ _ _ _ _ _ _ _ _ _ (e1 _) (e2 _) (e1 _) (e2 _) (e1 _) (e2 _) (e1 _) (e2 _) (e1 _) (e2 _) (e1 _) (e2 _) (e1 _) (e2 _) (e1 _) (e2 _) (e1 _) (e2 _) hok
  rw [hL]
  refine key.mono ?_
  rintro e w' ⟨rfl, hd⟩
  refine ⟨?_, hd⟩
  subst hz
  unfold told
  rw [if_pos rfl]
  simp
theorem an_bf_n (f : Int) (hz : z = 0) (hdg : ∀ x ∈ dg, dig x = true) (hl1 : 1 ≤ dg.length) (hl9 : dg.length ≤ 9) (w : World) :
    Calls Try.prog 59 #[.string (strOfNums (date Y M D ++ ([32] ++ clock h m s ++ frac dg ++ zone z o))), .int .i64 f] w fun e w' => e = .returned (.bool (told true true dg.length z f)) ∧ Drawn0 w w' := by
  have hne : dg ≠ [] := by intro e; rw [e] at hl1; simp at hl1
  have hn0 : decide ((dg.length : Int) = 0) = false := by rw [decide_eq_false_iff_not]; omega
  have hL : (date Y M D ++ ([32] ++ clock h m s ++ frac dg ++ zone z o)) = ((48 + (Y / 100) / 10 % 10) :: (48 + (Y / 100) % 10) :: (48 + Y / 10 % 10) :: (48 + Y % 10) :: 45 :: (48 + M / 10 % 10) :: (48 + M % 10) :: 45 :: (48 + D / 10 % 10) :: (48 + D % 10) :: 32 :: (48 + h / 10 % 10) :: (48 + h % 10) :: 58 :: (48 + m / 10 % 10) :: (48 + m % 10) :: 58 :: (48 + s / 10 % 10) :: (48 + s % 10) :: 46 :: (dg ++ [])) := by
    simp [date, clock, frac, zone, d2, hz, hne]
  have hok : okB ((48 + (Y / 100) / 10 % 10) :: (48 + (Y / 100) % 10) :: (48 + Y / 10 % 10) :: (48 + Y % 10) :: 45 :: (48 + M / 10 % 10) :: (48 + M % 10) :: 45 :: (48 + D / 10 % 10) :: (48 + D % 10) :: 32 :: (48 + h / 10 % 10) :: (48 + h % 10) :: 58 :: (48 + m / 10 % 10) :: (48 + m % 10) :: 58 :: (48 + s / 10 % 10) :: (48 + s % 10) :: 46 :: (dg ++ [])) := by
    repeat (first | exact ok_nil | exact ok_dig hdg | refine ok_app (ok_dig hdg) ?_ | refine ok_cons (by omega) ?_)
  have key := tx_bf_n f w _ _ _ _ _ _ _ _ _ _ _ _ _ _ (e1 _) (e2 _) (e1 _) (e2 _) (e1 _) (e2 _) (e1 _) (e2 _) (e1 _) (e2 _) (e1 _) (e2 _) (e1 _) (e2 _) dg hdg hl1 hl9 hok
  rw [hL]
  refine key.mono ?_
  rintro e w' ⟨rfl, hd⟩
  refine ⟨?_, hd⟩
  subst hz
  unfold told
  rw [if_pos rfl]
  rw [hn0]
  simp
theorem an_bf_z (f : Int) (hz : z = 1) (hdg : ∀ x ∈ dg, dig x = true) (hl1 : 1 ≤ dg.length) (hl9 : dg.length ≤ 9) (w : World) :
    Calls Try.prog 59 #[.string (strOfNums (date Y M D ++ ([32] ++ clock h m s ++ frac dg ++ zone z o))), .int .i64 f] w fun e w' => e = .returned (.bool (told true true dg.length z f)) ∧ Drawn0 w w' := by
  have hne : dg ≠ [] := by intro e; rw [e] at hl1; simp at hl1
  have hn0 : decide ((dg.length : Int) = 0) = false := by rw [decide_eq_false_iff_not]; omega
  have hL : (date Y M D ++ ([32] ++ clock h m s ++ frac dg ++ zone z o)) = ((48 + (Y / 100) / 10 % 10) :: (48 + (Y / 100) % 10) :: (48 + Y / 10 % 10) :: (48 + Y % 10) :: 45 :: (48 + M / 10 % 10) :: (48 + M % 10) :: 45 :: (48 + D / 10 % 10) :: (48 + D % 10) :: 32 :: (48 + h / 10 % 10) :: (48 + h % 10) :: 58 :: (48 + m / 10 % 10) :: (48 + m % 10) :: 58 :: (48 + s / 10 % 10) :: (48 + s % 10) :: 46 :: (dg ++ [90])) := by
    simp [date, clock, frac, zone, d2, hz, hne]
  have hok : okB ((48 + (Y / 100) / 10 % 10) :: (48 + (Y / 100) % 10) :: (48 + Y / 10 % 10) :: (48 + Y % 10) :: 45 :: (48 + M / 10 % 10) :: (48 + M % 10) :: 45 :: (48 + D / 10 % 10) :: (48 + D % 10) :: 32 :: (48 + h / 10 % 10) :: (48 + h % 10) :: 58 :: (48 + m / 10 % 10) :: (48 + m % 10) :: 58 :: (48 + s / 10 % 10) :: (48 + s % 10) :: 46 :: (dg ++ [90])) := by
    repeat (first | exact ok_nil | exact ok_dig hdg | refine ok_app (ok_dig hdg) ?_ | refine ok_cons (by omega) ?_)
  have key := tx_bf_z f w _ _ _ _ _ _ _ _ _ _ _ _ _ _ (e1 _) (e2 _) (e1 _) (e2 _) (e1 _) (e2 _) (e1 _) (e2 _) (e1 _) (e2 _) (e1 _) (e2 _) (e1 _) (e2 _) dg hdg hl1 hl9 hok
  rw [hL]
  refine key.mono ?_
  rintro e w' ⟨rfl, hd⟩
  refine ⟨?_, hd⟩
  subst hz
  unfold told
  rw [if_pos rfl]
  rw [hn0]
  simp
theorem an_bf_cp (f : Int) (hz : z = 2) (ho : ¬ o < 0) (hdg : ∀ x ∈ dg, dig x = true) (hl1 : 1 ≤ dg.length) (hl9 : dg.length ≤ 9) (w : World) :
    Calls Try.prog 59 #[.string (strOfNums (date Y M D ++ ([32] ++ clock h m s ++ frac dg ++ zone z o))), .int .i64 f] w fun e w' => e = .returned (.bool (told true true dg.length z f)) ∧ Drawn0 w w' := by
  have hne : dg ≠ [] := by intro e; rw [e] at hl1; simp at hl1
  have hn0 : decide ((dg.length : Int) = 0) = false := by rw [decide_eq_false_iff_not]; omega
  have hL : (date Y M D ++ ([32] ++ clock h m s ++ frac dg ++ zone z o)) = ((48 + (Y / 100) / 10 % 10) :: (48 + (Y / 100) % 10) :: (48 + Y / 10 % 10) :: (48 + Y % 10) :: 45 :: (48 + M / 10 % 10) :: (48 + M % 10) :: 45 :: (48 + D / 10 % 10) :: (48 + D % 10) :: 32 :: (48 + h / 10 % 10) :: (48 + h % 10) :: 58 :: (48 + m / 10 % 10) :: (48 + m % 10) :: 58 :: (48 + s / 10 % 10) :: (48 + s % 10) :: 46 :: (dg ++ [43, (48 + (o / 60) / 10 % 10), (48 + (o / 60) % 10), 58, (48 + (o % 60) / 10 % 10), (48 + (o % 60) % 10)])) := by
    simp [date, clock, frac, zone, d2, hz, ho, hne]
  have hok : okB ((48 + (Y / 100) / 10 % 10) :: (48 + (Y / 100) % 10) :: (48 + Y / 10 % 10) :: (48 + Y % 10) :: 45 :: (48 + M / 10 % 10) :: (48 + M % 10) :: 45 :: (48 + D / 10 % 10) :: (48 + D % 10) :: 32 :: (48 + h / 10 % 10) :: (48 + h % 10) :: 58 :: (48 + m / 10 % 10) :: (48 + m % 10) :: 58 :: (48 + s / 10 % 10) :: (48 + s % 10) :: 46 :: (dg ++ [43, (48 + (o / 60) / 10 % 10), (48 + (o / 60) % 10), 58, (48 + (o % 60) / 10 % 10), (48 + (o % 60) % 10)])) := by
    repeat (first | exact ok_nil | exact ok_dig hdg | refine ok_app (ok_dig hdg) ?_ | refine ok_cons (by omega) ?_)
  have key := tx_bf_cp f w _ _ _ _ _ _ _ _ _ _ _ _ _ _ _ _ _ _ (e1 _) (e2 _) (e1 _) (e2 _) (e1 _) (e2 _) (e1 _) (e2 _) (e1 _) (e2 _) (e1 _) (e2 _) (e1 _) (e2 _) (e1 _) (e2 _) (e1 _) (e2 _) dg hdg hl1 hl9 hok
  rw [hL]
  refine key.mono ?_
  rintro e w' ⟨rfl, hd⟩
  refine ⟨?_, hd⟩
  subst hz
  unfold told
  rw [if_pos rfl]
  rw [hn0]
  simp
theorem an_bf_cm (f : Int) (hz : z = 2) (ho : o < 0) (hdg : ∀ x ∈ dg, dig x = true) (hl1 : 1 ≤ dg.length) (hl9 : dg.length ≤ 9) (w : World) :
    Calls Try.prog 59 #[.string (strOfNums (date Y M D ++ ([32] ++ clock h m s ++ frac dg ++ zone z o))), .int .i64 f] w fun e w' => e = .returned (.bool (told true true dg.length z f)) ∧ Drawn0 w w' := by
  have hne : dg ≠ [] := by intro e; rw [e] at hl1; simp at hl1
  have hn0 : decide ((dg.length : Int) = 0) = false := by rw [decide_eq_false_iff_not]; omega
  have hL : (date Y M D ++ ([32] ++ clock h m s ++ frac dg ++ zone z o)) = ((48 + (Y / 100) / 10 % 10) :: (48 + (Y / 100) % 10) :: (48 + Y / 10 % 10) :: (48 + Y % 10) :: 45 :: (48 + M / 10 % 10) :: (48 + M % 10) :: 45 :: (48 + D / 10 % 10) :: (48 + D % 10) :: 32 :: (48 + h / 10 % 10) :: (48 + h % 10) :: 58 :: (48 + m / 10 % 10) :: (48 + m % 10) :: 58 :: (48 + s / 10 % 10) :: (48 + s % 10) :: 46 :: (dg ++ [45, (48 + ((-o) / 60) / 10 % 10), (48 + ((-o) / 60) % 10), 58, (48 + ((-o) % 60) / 10 % 10), (48 + ((-o) % 60) % 10)])) := by
    simp [date, clock, frac, zone, d2, hz, ho, hne]
  have hok : okB ((48 + (Y / 100) / 10 % 10) :: (48 + (Y / 100) % 10) :: (48 + Y / 10 % 10) :: (48 + Y % 10) :: 45 :: (48 + M / 10 % 10) :: (48 + M % 10) :: 45 :: (48 + D / 10 % 10) :: (48 + D % 10) :: 32 :: (48 + h / 10 % 10) :: (48 + h % 10) :: 58 :: (48 + m / 10 % 10) :: (48 + m % 10) :: 58 :: (48 + s / 10 % 10) :: (48 + s % 10) :: 46 :: (dg ++ [45, (48 + ((-o) / 60) / 10 % 10), (48 + ((-o) / 60) % 10), 58, (48 + ((-o) % 60) / 10 % 10), (48 + ((-o) % 60) % 10)])) := by
    repeat (first | exact ok_nil | exact ok_dig hdg | refine ok_app (ok_dig hdg) ?_ | refine ok_cons (by omega) ?_)
  have key := tx_bf_cm f w _ _ _ _ _ _ _ _ _ _ _ _ _ _ _ _ _ _ (e1 _) (e2 _) (e1 _) (e2 _) (e1 _) (e2 _) (e1 _) (e2 _) (e1 _) (e2 _) (e1 _) (e2 _) (e1 _) (e2 _) (e1 _) (e2 _) (e1 _) (e2 _) dg hdg hl1 hl9 hok
  rw [hL]
  refine key.mono ?_
  rintro e w' ⟨rfl, hd⟩
  refine ⟨?_, hd⟩
  subst hz
  unfold told
  rw [if_pos rfl]
  rw [hn0]
  simp
theorem an_bf_qp (f : Int) (hz : z = 3) (ho : ¬ o < 0) (hdg : ∀ x ∈ dg, dig x = true) (hl1 : 1 ≤ dg.length) (hl9 : dg.length ≤ 9) (w : World) :
    Calls Try.prog 59 #[.string (strOfNums (date Y M D ++ ([32] ++ clock h m s ++ frac dg ++ zone z o))), .int .i64 f] w fun e w' => e = .returned (.bool (told true true dg.length z f)) ∧ Drawn0 w w' := by
  have hne : dg ≠ [] := by intro e; rw [e] at hl1; simp at hl1
  have hn0 : decide ((dg.length : Int) = 0) = false := by rw [decide_eq_false_iff_not]; omega
  have hL : (date Y M D ++ ([32] ++ clock h m s ++ frac dg ++ zone z o)) = ((48 + (Y / 100) / 10 % 10) :: (48 + (Y / 100) % 10) :: (48 + Y / 10 % 10) :: (48 + Y % 10) :: 45 :: (48 + M / 10 % 10) :: (48 + M % 10) :: 45 :: (48 + D / 10 % 10) :: (48 + D % 10) :: 32 :: (48 + h / 10 % 10) :: (48 + h % 10) :: 58 :: (48 + m / 10 % 10) :: (48 + m % 10) :: 58 :: (48 + s / 10 % 10) :: (48 + s % 10) :: 46 :: (dg ++ [43, (48 + (o / 60) / 10 % 10), (48 + (o / 60) % 10), (48 + (o % 60) / 10 % 10), (48 + (o % 60) % 10)])) := by
    simp [date, clock, frac, zone, d2, hz, ho, hne]
  have hok : okB ((48 + (Y / 100) / 10 % 10) :: (48 + (Y / 100) % 10) :: (48 + Y / 10 % 10) :: (48 + Y % 10) :: 45 :: (48 + M / 10 % 10) :: (48 + M % 10) :: 45 :: (48 + D / 10 % 10) :: (48 + D % 10) :: 32 :: (48 + h / 10 % 10) :: (48 + h % 10) :: 58 :: (48 + m / 10 % 10) :: (48 + m % 10) :: 58 :: (48 + s / 10 % 10) :: (48 + s % 10) :: 46 :: (dg ++ [43, (48 + (o / 60) / 10 % 10), (48 + (o / 60) % 10), (48 + (o % 60) / 10 % 10), (48 + (o % 60) % 10)])) := by
    repeat (first | exact ok_nil | exact ok_dig hdg | refine ok_app (ok_dig hdg) ?_ | refine ok_cons (by omega) ?_)
  have key := tx_bf_qp f w _ _ _ _ _ _ _ _ _ _ _ _ _ _ _ _ _ _ (e1 _) (e2 _) (e1 _) (e2 _) (e1 _) (e2 _) (e1 _) (e2 _) (e1 _) (e2 _) (e1 _) (e2 _) (e1 _) (e2 _) (e1 _) (e2 _) (e1 _) (e2 _) dg hdg hl1 hl9 hok
  rw [hL]
  refine key.mono ?_
  rintro e w' ⟨rfl, hd⟩
  refine ⟨?_, hd⟩
  subst hz
  unfold told
  rw [if_pos rfl]
  rw [hn0]
  simp
theorem an_bf_qm (f : Int) (hz : z = 3) (ho : o < 0) (hdg : ∀ x ∈ dg, dig x = true) (hl1 : 1 ≤ dg.length) (hl9 : dg.length ≤ 9) (w : World) :
    Calls Try.prog 59 #[.string (strOfNums (date Y M D ++ ([32] ++ clock h m s ++ frac dg ++ zone z o))), .int .i64 f] w fun e w' => e = .returned (.bool (told true true dg.length z f)) ∧ Drawn0 w w' := by
  have hne : dg ≠ [] := by intro e; rw [e] at hl1; simp at hl1
  have hn0 : decide ((dg.length : Int) = 0) = false := by rw [decide_eq_false_iff_not]; omega
  have hL : (date Y M D ++ ([32] ++ clock h m s ++ frac dg ++ zone z o)) = ((48 + (Y / 100) / 10 % 10) :: (48 + (Y / 100) % 10) :: (48 + Y / 10 % 10) :: (48 + Y % 10) :: 45 :: (48 + M / 10 % 10) :: (48 + M % 10) :: 45 :: (48 + D / 10 % 10) :: (48 + D % 10) :: 32 :: (48 + h / 10 % 10) :: (48 + h % 10) :: 58 :: (48 + m / 10 % 10) :: (48 + m % 10) :: 58 :: (48 + s / 10 % 10) :: (48 + s % 10) :: 46 :: (dg ++ [45, (48 + ((-o) / 60) / 10 % 10), (48 + ((-o) / 60) % 10), (48 + ((-o) % 60) / 10 % 10), (48 + ((-o) % 60) % 10)])) := by
    simp [date, clock, frac, zone, d2, hz, ho, hne]
  have hok : okB ((48 + (Y / 100) / 10 % 10) :: (48 + (Y / 100) % 10) :: (48 + Y / 10 % 10) :: (48 + Y % 10) :: 45 :: (48 + M / 10 % 10) :: (48 + M % 10) :: 45 :: (48 + D / 10 % 10) :: (48 + D % 10) :: 32 :: (48 + h / 10 % 10) :: (48 + h % 10) :: 58 :: (48 + m / 10 % 10) :: (48 + m % 10) :: 58 :: (48 + s / 10 % 10) :: (48 + s % 10) :: 46 :: (dg ++ [45, (48 + ((-o) / 60) / 10 % 10), (48 + ((-o) / 60) % 10), (48 + ((-o) % 60) / 10 % 10), (48 + ((-o) % 60) % 10)])) := by
    repeat (first | exact ok_nil | exact ok_dig hdg | refine ok_app (ok_dig hdg) ?_ | refine ok_cons (by omega) ?_)
  have key := tx_bf_qm f w _ _ _ _ _ _ _ _ _ _ _ _ _ _ _ _ _ _ (e1 _) (e2 _) (e1 _) (e2 _) (e1 _) (e2 _) (e1 _) (e2 _) (e1 _) (e2 _) (e1 _) (e2 _) (e1 _) (e2 _) (e1 _) (e2 _) (e1 _) (e2 _) dg hdg hl1 hl9 hok
  rw [hL]
  refine key.mono ?_
  rintro e w' ⟨rfl, hd⟩
  refine ⟨?_, hd⟩
  subst hz
  unfold told
  rw [if_pos rfl]
  rw [hn0]
  simp
theorem an_date (f : Int) (w : World) :
    Calls Try.prog 59 #[.string (strOfNums (date Y M D)), .int .i64 f] w fun e w' => e = .returned (.bool (told bl false dgs z f)) ∧ Drawn0 w w' := by
  have hok : okB [48 + (Y / 100) / 10 % 10, 48 + (Y / 100) % 10, 48 + Y / 10 % 10, 48 + Y % 10, 45, 48 + M / 10 % 10, 48 + M % 10, 45, 48 + D / 10 % 10, 48 + D % 10] := by
    repeat (first | exact ok_nil | refine ok_cons (by omega) ?_)
  exact tx_date f w _ _ _ _ _ _ _ _ (e1 _) (e2 _) (e1 _) (e2 _) (e1 _) (e2 _) (e1 _) (e2 _) hok
/-- The program's test tells what the definition tells. -/
theorem answer (hl : (dg.length : Int) = dgs) (hdg : ∀ x ∈ dg, dig x = true) (h9 : dgs ≤ 9) (z0 : 0 ≤ z) (z3 : z ≤ 3) (f : Int) (w : World) :
    Calls Try.prog 59 #[.string (strOfNums (date Y M D ++ if tm = true then [if bl = true then 32 else 84] ++ clock h m s ++ frac dg ++ zone z o else [])), .int .i64 f] w fun e w' => e = .returned (.bool (told bl tm dgs z f)) ∧ Drawn0 w w' := by
  cases tm with
  | false => rw [if_neg (by simp), List.append_nil]; exact an_date Y M D bl dgs z f w
  | true =>
    rw [if_pos rfl]
    have hz : z = 0 ∨ z = 1 ∨ z = 2 ∨ z = 3 := by omega
    cases dg with
    | nil =>
      have e0 : dgs = 0 := by simpa using hl.symm
      subst e0
      cases bl with
      | false =>
        rw [if_neg (by simp)]
        rcases hz with hz | hz | hz | hz
        · exact an_tn_n Y M D h m s z o f hz w
        · exact an_tn_z Y M D h m s z o f hz w
        · by_cases ho : o < 0
          · exact an_tn_cm Y M D h m s z o f hz ho w
          · exact an_tn_cp Y M D h m s z o f hz ho w
        · by_cases ho : o < 0
          · exact an_tn_qm Y M D h m s z o f hz ho w
          · exact an_tn_qp Y M D h m s z o f hz ho w
      | true =>
        rw [if_pos rfl]
        rcases hz with hz | hz | hz | hz
        · exact an_bn_n Y M D h m s z o f hz w
        · exact an_bn_z Y M D h m s z o f hz w
        · by_cases ho : o < 0
          · exact an_bn_cm Y M D h m s z o f hz ho w
          · exact an_bn_cp Y M D h m s z o f hz ho w
        · by_cases ho : o < 0
          · exact an_bn_qm Y M D h m s z o f hz ho w
          · exact an_bn_qp Y M D h m s z o f hz ho w
    | cons c r =>
      subst hl
      have hl1 : 1 ≤ (c :: r).length := by simp
      have hl9 : (c :: r).length ≤ 9 := by omega
      cases bl with
      | false =>
        rw [if_neg (by simp)]
        rcases hz with hz | hz | hz | hz
        · exact an_tf_n Y M D h m s z o (c :: r) f hz hdg hl1 hl9 w
        · exact an_tf_z Y M D h m s z o (c :: r) f hz hdg hl1 hl9 w
        · by_cases ho : o < 0
          · exact an_tf_cm Y M D h m s z o (c :: r) f hz ho hdg hl1 hl9 w
          · exact an_tf_cp Y M D h m s z o (c :: r) f hz ho hdg hl1 hl9 w
        · by_cases ho : o < 0
          · exact an_tf_qm Y M D h m s z o (c :: r) f hz ho hdg hl1 hl9 w
          · exact an_tf_qp Y M D h m s z o (c :: r) f hz ho hdg hl1 hl9 w
      | true =>
        rw [if_pos rfl]
        rcases hz with hz | hz | hz | hz
        · exact an_bf_n Y M D h m s z o (c :: r) f hz hdg hl1 hl9 w
        · exact an_bf_z Y M D h m s z o (c :: r) f hz hdg hl1 hl9 w
        · by_cases ho : o < 0
          · exact an_bf_cm Y M D h m s z o (c :: r) f hz ho hdg hl1 hl9 w
          · exact an_bf_cp Y M D h m s z o (c :: r) f hz ho hdg hl1 hl9 w
        · by_cases ho : o < 0
          · exact an_bf_qm Y M D h m s z o (c :: r) f hz ho hdg hl1 hl9 w
          · exact an_bf_qp Y M D h m s z o (c :: r) f hz ho hdg hl1 hl9 w
end
end Go.Proofs.Ytmhngpihkaignaa.IoAnswer
