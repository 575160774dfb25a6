/- Written by laws.py: a raw value's first byte. -/
import Derived.Test.YtekmminmgjoabaaDoorRr
import Derived.Test.YtekmminmgjoabaaDoorKa
namespace Go.Proofs.YtekmminmgjoabaaDoor.Js
open Go.RowKit Go.Proofs.YtekmminmgjoabaaDoorW.PrintWords Go.Proofs.YtekmminmgjoabaaDoorW.PrintLast Go.Proofs.YtekmminmgjoabaaDoorW.PrintMore Go.Proofs.YtekmminmgjoabaaDoor.PFnJSTokens
set_option linter.unusedVariables false
set_option linter.unusedSimpArgs false
set_option maxHeartbeats 4000000 in
set_option maxRecDepth 100000 in
theorem raw48 (w : World) (B : Nat) (A : Option Addr) (n c : Nat) (b0 : Int) (r : List Int) (h : Sl w B (.slice A n c) (b0 :: r)) : Calls Tryd.prog 48 #[.slice A n c] w fun e w' => e = .returned (.bool (b0 == 110)) ∧ w = w' := by
  obtain ⟨ad, rfl, c0, -⟩ := h.at_ 0 (by have := h.len.1; rw [this]; simp)
  have e0 : ad.add 0 = ad := by simp [Addr.add]
  rw [e0] at c0
  have c0 : w.cell? ad = some (.int .u8 b0) := c0.trans rfl
  have hn : 0 < n := by have := h.len.1; rw [this]; simp
  have hz : ((n : Int) != 0) = true := by rw [bne_iff_ne]; omega
  clear h e0
  go_enter Tryd.func48, Tryd.ntmps48
  go_wp2
  go_ret
  exact ⟨rfl, rfl⟩
set_option maxHeartbeats 4000000 in
set_option maxRecDepth 100000 in
theorem raw49 (w : World) (B : Nat) (A : Option Addr) (n c : Nat) (b0 : Int) (r : List Int) (h : Sl w B (.slice A n c) (b0 :: r)) : Calls Tryd.prog 49 #[.slice A n c] w fun e w' => e = .returned (.bool (b0 == 116)) ∧ w = w' := by
  obtain ⟨ad, rfl, c0, -⟩ := h.at_ 0 (by have := h.len.1; rw [this]; simp)
  have e0 : ad.add 0 = ad := by simp [Addr.add]
  rw [e0] at c0
  have c0 : w.cell? ad = some (.int .u8 b0) := c0.trans rfl
  have hn : 0 < n := by have := h.len.1; rw [this]; simp
  have hz : ((n : Int) != 0) = true := by rw [bne_iff_ne]; omega
  clear h e0
  go_enter Tryd.func49, Tryd.ntmps49
  go_wp2
  go_ret
  exact ⟨rfl, rfl⟩
set_option maxHeartbeats 4000000 in
set_option maxRecDepth 100000 in
theorem raw50 (w : World) (B : Nat) (A : Option Addr) (n c : Nat) (b0 : Int) (r : List Int) (h : Sl w B (.slice A n c) (b0 :: r)) : Calls Tryd.prog 50 #[.slice A n c] w fun e w' => e = .returned (.bool (b0 == 102)) ∧ w = w' := by
  obtain ⟨ad, rfl, c0, -⟩ := h.at_ 0 (by have := h.len.1; rw [this]; simp)
  have e0 : ad.add 0 = ad := by simp [Addr.add]
  rw [e0] at c0
  have c0 : w.cell? ad = some (.int .u8 b0) := c0.trans rfl
  have hn : 0 < n := by have := h.len.1; rw [this]; simp
  have hz : ((n : Int) != 0) = true := by rw [bne_iff_ne]; omega
  clear h e0
  go_enter Tryd.func50, Tryd.ntmps50
  go_wp2
  go_ret
  exact ⟨rfl, rfl⟩
set_option maxHeartbeats 4000000 in
set_option maxRecDepth 100000 in
theorem raw52 (w : World) (B : Nat) (A : Option Addr) (n c : Nat) (b0 : Int) (r : List Int) (h : Sl w B (.slice A n c) (b0 :: r)) : Calls Tryd.prog 52 #[.slice A n c] w fun e w' => e = .returned (.bool (b0 == 34)) ∧ w = w' := by
  obtain ⟨ad, rfl, c0, -⟩ := h.at_ 0 (by have := h.len.1; rw [this]; simp)
  have e0 : ad.add 0 = ad := by simp [Addr.add]
  rw [e0] at c0
  have c0 : w.cell? ad = some (.int .u8 b0) := c0.trans rfl
  have hn : 0 < n := by have := h.len.1; rw [this]; simp
  have hz : ((n : Int) != 0) = true := by rw [bne_iff_ne]; omega
  clear h e0
  go_enter Tryd.func52, Tryd.ntmps52
  go_wp2
  go_ret
  exact ⟨rfl, rfl⟩
def isNumB (b : Int) : Bool := decide (b = 45 ∨ (48 ≤ b ∧ b ≤ 57))
set_option maxHeartbeats 4000000 in
set_option maxRecDepth 100000 in
theorem raw51 (w : World) (B : Nat) (A : Option Addr) (n c : Nat) (b0 : Int) (r : List Int) (hb : b0 = 110 ∨ b0 = 116 ∨ b0 = 102 ∨ b0 = 34 ∨ b0 = 45 ∨ b0 = 48 ∨ b0 = 49 ∨ b0 = 50 ∨ b0 = 51 ∨ b0 = 52 ∨ b0 = 53 ∨ b0 = 54 ∨ b0 = 55 ∨ b0 = 56 ∨ b0 = 57) (h : Sl w B (.slice A n c) (b0 :: r)) : Calls Tryd.prog 51 #[.slice A n c] w fun e w' => e = .returned (.bool (isNumB b0)) ∧ w = w' := by
  obtain ⟨ad, rfl, c0, -⟩ := h.at_ 0 (by have := h.len.1; rw [this]; simp)
  have e0 : ad.add 0 = ad := by simp [Addr.add]
  rw [e0] at c0
  have c0 : w.cell? ad = some (.int .u8 b0) := c0.trans rfl
  have hn : 0 < n := by have := h.len.1; rw [this]; simp
  have hz : ((n : Int) != 0) = true := by rw [bne_iff_ne]; omega
  clear h e0
  rcases hb with rfl | rfl | rfl | rfl | rfl | rfl | rfl | rfl | rfl | rfl | rfl | rfl | rfl | rfl | rfl
  all_goals
    go_enter Tryd.func51, Tryd.ntmps51
    go_wp2
    go_ret
    exact ⟨rfl, rfl⟩
set_option maxHeartbeats 4000000 in
set_option maxRecDepth 100000 in
theorem raw25 (w : World) (B : Nat) (A : Option Addr) (n c : Nat) (b0 : Int) (r : List Int) (hb : b0 = 110 ∨ b0 = 116 ∨ b0 = 102 ∨ b0 = 34 ∨ b0 = 45 ∨ b0 = 48 ∨ b0 = 49 ∨ b0 = 50 ∨ b0 = 51 ∨ b0 = 52 ∨ b0 = 53 ∨ b0 = 54 ∨ b0 = 55 ∨ b0 = 56 ∨ b0 = 57) (h : Sl w B (.slice A n c) (b0 :: r)) : Calls Tryd.prog 25 #[.slice A n c] w fun e w' => e = .returned (.tuple #[.bool (b0 == 110), .bool (b0 == 116), .bool (b0 == 102), .bool (isNumB b0), .bool (b0 == 34)]) ∧ w = w' := by
  have H0 := Aside0.mk (raw48 w B A n c b0 r h)
  have H1 := Aside0.mk (raw49 w B A n c b0 r h)
  have H2 := Aside0.mk (raw50 w B A n c b0 r h)
  have H3 := Aside0.mk (raw51 w B A n c b0 r hb h)
  have H4 := Aside0.mk (raw52 w B A n c b0 r h)
  obtain ⟨x0, hx0⟩ : ∃ x0, x0 = (b0 == 110) := ⟨_, rfl⟩
  obtain ⟨x1, hx1⟩ : ∃ x1, x1 = (b0 == 116) := ⟨_, rfl⟩
  obtain ⟨x2, hx2⟩ : ∃ x2, x2 = (b0 == 102) := ⟨_, rfl⟩
  obtain ⟨x3, hx3⟩ : ∃ x3, x3 = isNumB b0 := ⟨_, rfl⟩
  obtain ⟨x4, hx4⟩ : ∃ x4, x4 = (b0 == 34) := ⟨_, rfl⟩
  rw [← hx0] at H0 ⊢
  rw [← hx1] at H1 ⊢
  rw [← hx2] at H2 ⊢
  rw [← hx3] at H3 ⊢
  rw [← hx4] at H4 ⊢
  clear h hb hx0 hx1 hx2 hx3 hx4
  go_enter Tryd.func25, Tryd.ntmps25
  go_wp2_with (first
    | (go_at_call 48; (with_reducible refine H0.out.mono ?_); rintro e w2 ⟨rfl, rfl⟩)
    | (go_at_call 49; (with_reducible refine H1.out.mono ?_); rintro e w2 ⟨rfl, rfl⟩)
    | (go_at_call 50; (with_reducible refine H2.out.mono ?_); rintro e w2 ⟨rfl, rfl⟩)
    | (go_at_call 51; (with_reducible refine H3.out.mono ?_); rintro e w2 ⟨rfl, rfl⟩)
    | (go_at_call 52; (with_reducible refine H4.out.mono ?_); rintro e w2 ⟨rfl, rfl⟩))
  go_returns
  exact ⟨rfl, rfl⟩
/-- The first byte of a plain value. -/
theorem plain_first {k : Int} {v : List Int} (h : Plain k v) : ∃ b0 r, v = b0 :: r ∧ (b0 = 110 ∨ b0 = 116 ∨ b0 = 102 ∨ b0 = 34 ∨ b0 = 45 ∨ b0 = 48 ∨ b0 = 49 ∨ b0 = 50 ∨ b0 = 51 ∨ b0 = 52 ∨ b0 = 53 ∨ b0 = 54 ∨ b0 = 55 ∨ b0 = 56 ∨ b0 = 57) ∧ (b0 == 110) = (k == 1) ∧ (b0 == 116) = decide (v = [116, 114, 117, 101]) ∧ (b0 == 102) = decide (v = [102, 97, 108, 115, 101]) ∧ isNumB b0 = (k == 3) ∧ (b0 == 34) = (k == 4) := by
  cases h with
  | null => exact ⟨110, _, rfl, .inl rfl, by decide, by decide, by decide, by decide, by decide⟩
  | yes => exact ⟨116, _, rfl, .inr (.inl rfl), by decide, by decide, by decide, by decide, by decide⟩
  | no => exact ⟨102, _, rfl, .inr (.inr (.inl rfl)), by decide, by decide, by decide, by decide, by decide⟩
  | num h =>
    have hne := Plain.ne (.num h)
    obtain ⟨p0, p1, p2, hn⟩ := num_at (r := []) h (fun c t e => by cases e)
    have hs := hn.sign
    rw [List.append_nil] at hs
    cases v with
    | nil => exact absurd rfl hne
    | cons b0 r =>
      have hb : b0 = 45 ∨ (48 ≤ b0 ∧ b0 ≤ 57) := by
        rcases hs with ⟨-, h⟩ | ⟨-, h⟩
        · unfold Digit at h; exact .inr h
        · exact .inl h
      refine ⟨b0, r, rfl, by omega, ?_, ?_, ?_, ?_, ?_⟩
      · rw [beq_eq_false_iff_ne.2 (by omega)]; rfl
      · rw [beq_eq_false_iff_ne.2 (by omega)]; symm; rw [decide_eq_false_iff_not]; intro e; injection e with e; omega
      · rw [beq_eq_false_iff_ne.2 (by omega)]; symm; rw [decide_eq_false_iff_not]; intro e; injection e with e; omega
      · show decide _ = _; rw [decide_eq_true hb]; rfl
      · rw [beq_eq_false_iff_ne.2 (by omega)]; rfl
  | @str l h => exact ⟨34, _, rfl, .inr (.inr (.inr (.inl rfl))), by decide, (by show false = _; rw [decide_eq_false (fun e => by injection e with e; cases e)]), (by show false = _; rw [decide_eq_false (fun e => by injection e with e; cases e)]), by decide, by decide⟩
end Go.Proofs.YtekmminmgjoabaaDoor.Js
