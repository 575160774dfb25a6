/- Blanks behind. What the printed contracts say of printable texts and flags. (As printed by the kit's print.) The flags of a text. null, true, false. null, true, false are parsed. A great function cut into declarations: what stands behind a statement is met by a theorem of its own. -/
import Derived.Test.YtekmminmgjoabaaDoorYRz
import Derived.WalkMore
import Derived.Test.YtekmminmgjoabaaDoorYKw0
import Derived.Test.YtekmminmgjoabaaDoorYKa
import Derived.Deep.DeepCutAuto
namespace Go.Proofs.YtekmminmgjoabaaDoor.Js
open Go.RowKit Go.Proofs.YtekmminmgjoabaaDoorW.PrintWords Go.Proofs.YtekmminmgjoabaaDoorW.PrintLast Go.Proofs.YtekmminmgjoabaaDoorW.PrintMore Go.Proofs.YtekmminmgjoabaaDoor.PFnJSTokens
set_option linter.unusedVariables false
set_option linter.unusedSimpArgs false
/-- v[:m]. -/
theorem Sl.next_to {w : World} {B : Nat} {A : Option Addr} {n c : Nat} {zs : List Int} (h : Sl w B (.slice A n c) zs) (t m : Nat) (j : Int) (kl : IntKind) (ht : Tryd.prog.underlying t = some (.slice 5)) (hj : j = (m : Int)) (hm : m ≤ n) : (∀ W : World, (Instr.slice t (.slice A n c) none (some (.int kl j)) none).run Tryd.prog W = .ok (.slice A m c) W) ∧ Sl w B (.slice A m c) (zs.take m) := by
  refine ⟨?_, h.take m hm⟩
  subst hj
  obtain ⟨i, hi, hz⟩ := Option.map_eq_some_iff.1 info5
  exact cut_to t 5 kl ht hi A n c (m : Int) (by omega) (by omega) h.len.2
set_option maxHeartbeats 4000000 in
set_option maxRecDepth 100000 in
theorem trimN_calls (w : World) (B : Nat) (A : Option Addr) (n c : Nat) (zs : List Int) (h : Sl w B (.slice A n c) zs) (hb : Bytes zs) (hB : B ≤ w.heap.size) :
    Calls Tryd.prog 145 #[.slice A n c] w fun e w' => ∃ v m, e = .returned v ∧ m ≤ zs.length ∧ (∀ i, m ≤ i → i < zs.length → isSp (zs.getD i 0) = true) ∧ Sl w' B v (zs.take m) ∧ Below w.heap.size w w' := by
  have hmx : zs.length ≤ 9223372036854775807 := h.cut.2.2.1.2.1
  obtain ⟨rfl, hnc⟩ := h.len
  have HS := Aside0.mk h
  have HB := Aside0.mk hB
  clear h hb hB
  go_enter Tryd.func145, Tryd.ntmps145
  go_upto_region 1 with (fail)
  refine wp_scope_straight ?_
  go_upto_region 2 with (fail)
  refine wp_label ?_
  with_reducible apply_assumption
  go_upto_region 2 with (fail)
  go_loopg [3] zs.length (fun m v3 w' => ∃ i : Int, v3 = .int .i64 i ∧ Aside0 (i = (m : Int) - 1) ∧ Aside0 (m ≤ zs.length ∧ ∀ i, m ≤ i → i < zs.length → isSp (zs.getD i 0) = true) ∧ Aside0 (Below w.heap.size w w'))
  case atStart => exact ⟨(zs.length : Int) - 1, by go_num, ⟨rfl⟩, ⟨Nat.le_refl _, fun i h1 h2 => by omega⟩, ⟨Below.refl _ _⟩⟩
  case round =>
    obtain ⟨i, rfl, HJ, HA, HBr⟩ := hrel
    cases gk with
    | zero =>
      obtain ⟨hcut, hd⟩ := HS.out.next_to 22 0 0 .i64 Tryd.underlying22 rfl (Nat.zero_le _)
      obtain rfl : i = -1 := by have := HJ.out; simpa using this
      have HD := Aside0.mk hd
      clear hd
      go_wp2_with fail
      rw [Exit.noGoto_ret]
      go_returns
      exact ⟨_, 0, rfl, Nat.zero_le _, HA.out.2, HD.out.below (HBr.out.mono HB.out), HBr.out⟩
    | succ k1 =>
      obtain rfl : i = (k1 : Int) := by have := HJ.out; simpa using this
      have hkl : k1 < zs.length := by have := HA.out.1; omega
      obtain ⟨ad, rfl, hcell, -⟩ := (HS.out.below (HBr.out.mono HB.out)).at_ k1 hkl
      obtain ⟨hcut, hd⟩ := HS.out.next_to 22 (k1 + 1) ((k1 : Int) + 1) .i64 Tryd.underlying22 (by simp) (by omega)
      obtain ⟨ch, hch⟩ : ∃ ch, ch = zs.getD k1 0 := ⟨_, rfl⟩
      rw [← hch] at hcell
      have HCH := Aside0.mk hch
      have HD := Aside0.mk hd
      have hk9 : (k1 : Int) + 1 ≤ 9223372036854775807 := by omega
      clear hch hd
      by_cases hs : isSp ch = true
      · have HSP := Aside0.mk (show k1 ≤ zs.length ∧ ∀ i, k1 ≤ i → i < zs.length → isSp (zs.getD i 0) = true from ⟨by omega, fun i h1 h2 => by
          by_cases hij : i = k1
          · rw [hij, ← HCH.out]; exact hs
          · exact HA.out.2 i (by omega) h2⟩)
        have hor : ch = 32 ∨ ch = 9 ∨ ch = 10 ∨ ch = 13 := by simpa [isSp, or_assoc] using hs
        clear hs hcut
        rcases hor with rfl | rfl | rfl | rfl
        all_goals
          go_wp2_with fail
          go_roundg k1
          case measure => omega
          case rel => exact ⟨(k1 : Int) - 1, by go_num, ⟨rfl⟩, HSP, HBr⟩
      · have hs : isSp ch = false := by simpa using hs
        have hnot : ¬ ch = 32 ∧ ¬ ch = 9 ∧ ¬ ch = 10 ∧ ¬ ch = 13 := by simpa [isSp, and_assoc] using hs
        obtain ⟨n1, n2, n3, n4⟩ := hnot
        have HCUT := Aside0.mk hcut
        have HK9 := Aside0.mk hk9
        clear hs hcut hk9
        go_upto_region 9 with (fail)
        have hk9 := HK9.out
        have hcut := HCUT.out
        go_wp2_with fail
        rw [Exit.noGoto_ret]
        go_returns
        exact ⟨_, k1 + 1, rfl, HA.out.1, HA.out.2, HD.out.below (HBr.out.mono HB.out), HBr.out⟩
/-- What is left of it: a front part, behind which there are blanks alone. -/
def Trimmed (zs ys : List Int) : Prop := ∃ m, m ≤ zs.length ∧ (∀ i, m ≤ i → i < zs.length → isSp (zs.getD i 0) = true) ∧ ys = zs.take m
set_option maxHeartbeats 4000000 in
set_option maxRecDepth 100000 in
theorem trim_calls (w : World) (B : Nat) (A : Option Addr) (n c : Nat) (zs : List Int) (h : Sl w B (.slice A n c) zs) (hb : Bytes zs) (hB : B ≤ w.heap.size) :
    Calls Tryd.prog 110 #[.slice A n c] w fun e w' => ∃ v ys, e = .returned v ∧ Trimmed zs ys ∧ Sl w' B v ys ∧ Below w.heap.size w w' := by
  have hmx : zs.length ≤ 9223372036854775807 := h.cut.2.2.1.2.1
  have HN := Aside0.mk (trimN_calls w B A n c zs h hb hB)
  have HS := Aside0.mk h
  have HT := Aside0.mk (show Trimmed zs zs from ⟨zs.length, Nat.le_refl _, fun i h1 h2 => by omega, by simp⟩)
  obtain ⟨rfl, hnc⟩ := h.len
  by_cases hz : zs.length = 0
  · clear h hb hB
    go_enter Tryd.func110, Tryd.ntmps110
    go_wp2_with fail
    go_returns
    exact ⟨_, _, rfl, HT.out, HS.out, Below.refl _ _⟩
  · have hz1 : 0 < zs.length := by omega
    obtain ⟨k, hk⟩ : ∃ k, zs.length = k + 1 := ⟨zs.length - 1, by omega⟩
    obtain ⟨ad, rfl, hcell, -⟩ := h.at_ k (by omega)
    have d0 : decide (0 < zs.length) = true := by simpa using hz1
    obtain ⟨ch, hch⟩ : ∃ ch, ch = zs.getD k 0 := ⟨_, rfl⟩
    rw [← hch] at hcell
    rw [hk] at HN hnc hmx ⊢
    have HS2 := Aside0.mk (show Sl w B (.slice (some ad) (k + 1) c) zs by have h2 := HS.out; rw [hk] at h2; exact h2)
    have HKK := Aside0.mk hk
    clear h hb hB hch hk d0 hz hz1
    by_cases h32 : ch ≤ 32
    · have hd : decide (ch ≤ 32) = true := by simpa using h32
      clear h32
      go_enter Tryd.func110, Tryd.ntmps110
      go_wp2_with (go_at_call 145; (with_reducible refine HN.out.mono ?_); rintro e w2 ⟨v, m, rfl, h1, h2, h3, h4⟩; have HR := Aside0.mk (And.intro h1 (And.intro h2 (And.intro h3 h4))); clear h1 h2 h3 h4)
      go_returns
      exact ⟨_, _, rfl, ⟨m, by rw [HKK.out]; exact HR.out.1, by rw [HKK.out]; exact HR.out.2.1, rfl⟩, HR.out.2.2.1, HR.out.2.2.2⟩
    · have hd : decide (ch ≤ 32) = false := by simpa using h32
      clear h32
      go_enter Tryd.func110, Tryd.ntmps110
      go_wp2_with fail
      go_returns
      exact ⟨_, _, rfl, HT.out, HS2.out, Below.refl _ _⟩
end Go.Proofs.YtekmminmgjoabaaDoor.Js

namespace Go.Proofs.YtekmminmgjoabaaDoor.PFnJSTokens
open Go.RowKit Go.Proofs.YtekmminmgjoabaaDoorW.PrintWords Go.Proofs.YtekmminmgjoabaaDoorW.PrintLast Go.Proofs.YtekmminmgjoabaaDoorW.PrintMore
attribute [local go_sem] max2_int min2_int max_two min_two max_three min_three max_four min_four   -- for this text's walks alone
set_option linter.unusedVariables false
set_option linter.unusedSimpArgs false

def ascii_ValidPrintByte.f (a0 : Int) : Option (Bool) := if 32 ≤ a0 then (some (decide (a0 ≤ 126))) else (some false)
set_option maxHeartbeats 8000000 in
set_option maxRecDepth 100000 in
theorem ascii_ValidPrintByte.calls (a0 : Int) (r : Bool) (w : World) (h : ascii_ValidPrintByte.f a0 = some r) :
    Calls Tryd.prog 154 #[.int .u8 a0] w fun e w' => e = .returned (.bool r) ∧ Drawn0 w w' := by
  have H : (if 32 ≤ a0 then (some (decide (a0 ≤ 126))) else (some false)) = some r := h
  clear h
  by_cases c2 : 32 ≤ a0
  · rw [if_pos c2] at H
    have c2b0 : decide (32 ≤ a0) = true := decide_eq_true c2
    clear c2
    obtain rfl := Option.some.inj H
    go_enter Tryd.func154, Tryd.ntmps154
    go_wp2
    go_ret
    exact ⟨by first | rfl | (simp; done) | (simp [*]; done), by repeat (first | exact Drawn0.refl _ | apply Drawn0.step)⟩
  · rw [if_neg c2] at H
    have c2b0 : decide (32 ≤ a0) = false := decide_eq_false c2
    clear c2
    obtain rfl := Option.some.inj H
    go_enter Tryd.func154, Tryd.ntmps154
    go_wp2
    go_ret
    exact ⟨by first | rfl | (simp; done) | (simp [*]; done), by repeat (first | exact Drawn0.refl _ | apply Drawn0.step)⟩

def ascii_ValidPrintString.l0 : Nat → ByteArray → Int → Option (Bool)
  | 0, _, _ => none
  | k + 1, x0, x3 => if x3 < (x0.size : Int) then (if 0 ≤ x3 then ((ascii_ValidPrintByte.f (bt x0 x3)).bind fun t146 => (if t146 = true then (ascii_ValidPrintString.l0 k x0 (wrap64 (x3 + 1))) else (some false))) else (none)) else (some true)
def ascii_ValidPrintString.f (k : Nat) (a0 : ByteArray) : Option (Bool) := ascii_ValidPrintString.l0 k a0 0
theorem ascii_ValidPrintString.mono_l : ∀ k, (∀ y0 y1, LeO (ascii_ValidPrintString.l0 k y0 y1) (ascii_ValidPrintString.l0 (k + 1) y0 y1))
  | 0 => fun _ _ r h => by simp [ascii_ValidPrintString.l0] at h
  | k + 1 => by
    have ih0 := ascii_ValidPrintString.mono_l k
    · intro y0 y1
      unfold ascii_ValidPrintString.l0
      repeat' first
      | (with_reducible exact ih0 _ _)
      | (with_reducible exact LeO.refl _)
      | (with_reducible exact LeO.none _)
      | (with_reducible refine LeO.ite ?_ ?_)
      | (with_reducible refine LeO.bind ?_ (fun _ => ?_))
      | exact ih0 _ _
      | exact LeO.none _
      | refine LeO.ite ?_ ?_
      | refine LeO.bind ?_ (fun _ => ?_)
theorem ascii_ValidPrintString.mono : ∀ a0 k, LeO (ascii_ValidPrintString.f k a0) (ascii_ValidPrintString.f (k + 1) a0) := by
  intro a0 k
  have ih0 := ascii_ValidPrintString.mono_l k
  unfold ascii_ValidPrintString.f
  repeat' first
      | (with_reducible exact ih0 _ _)
      | (with_reducible exact LeO.refl _)
      | (with_reducible exact LeO.none _)
      | (with_reducible refine LeO.ite ?_ ?_)
      | (with_reducible refine LeO.bind ?_ (fun _ => ?_))
      | exact ih0 _ _
      | exact LeO.none _
      | refine LeO.ite ?_ ?_
      | refine LeO.bind ?_ (fun _ => ?_)
set_option maxHeartbeats 8000000 in
set_option maxRecDepth 100000 in
theorem ascii_ValidPrintString.calls (k : Nat) (a0 : ByteArray) (r : Bool) (w : World) (h : ascii_ValidPrintString.f k a0 = some r) :
    Calls Tryd.prog 152 #[.string a0] w fun e w' => e = .returned (.bool r) ∧ Drawn0 w w' := by
  have H : (ascii_ValidPrintString.l0 k a0 0) = some r := h
  clear h
  have H' := Aside0.mk H
  clear H
  go_enter Tryd.func152, Tryd.ntmps152
  go_wp2
  go_loopg [3] k (fun kq v3 w' => ∃ (x3_1 : Int), v3 = .int .i64 x3_1 ∧ Aside0 (ascii_ValidPrintString.l0 kq a0 x3_1 = some r) ∧ Aside0 (kq ≤ k) ∧ Drawn0 w w')
  case atStart => exact ⟨(0), (by first | rfl | (simp; done) | (simp [*]; done)), H', ⟨Nat.le_refl _⟩, by repeat (first | exact Drawn0.refl _ | apply Drawn0.step)⟩
  case round =>
    clear H'
    try clear c1
    obtain ⟨x3_1, rfl, HA, HK1, ⟨m1, rfl⟩⟩ := hrel
    cases gk with
    | zero => exact absurd HA.out (by simp [ascii_ValidPrintString.l0])
    | succ k1 =>
      have H := HA.out
      clear HA
      simp only [ascii_ValidPrintString.l0] at H
      by_cases c2 : x3_1 < (a0.size : Int)
      · rw [if_pos c2] at H
        have c2b0 : decide (x3_1 < (a0.size : Int)) = true := decide_eq_true c2
        clear c2
        by_cases c3 : 0 ≤ x3_1
        · rw [if_pos c3] at H
          have c3b0 : decide (0 ≤ x3_1) = true := decide_eq_true c3
          clear c3
          replace H := Option.bind_eq_some_iff.mp H
          obtain ⟨t146, A50, H⟩ := H
          replace H : (if t146 = true then (ascii_ValidPrintString.l0 k1 a0 (wrap64 (x3_1 + 1))) else (some false)) = some r := H
          have A5 := Aside0.mk A50
          clear A50
          by_cases c6 : t146 = true
          · subst c6
            have H1 : (ascii_ValidPrintString.l0 k1 a0 (wrap64 (x3_1 + 1))) = some r := by rw [if_pos rfl] at H; exact H
            clear H
            have H := H1
            clear H1
            have H' := Aside0.mk H
            clear H
            have p4 : 0 ≤ (x3_1 : Int) := of_decide_eq_true (by first | (with_reducible assumption) | assumption)
            have q4 : x3_1 < (a0.size : Int) := of_decide_eq_true (by first | (with_reducible assumption) | assumption)
            have hx4 := bt_at a0 x3_1
            replace p4 := eq_true p4
            replace q4 := eq_true q4
            go_wp2_with (first | ((with_reducible refine gate_callee (f := 154) rfl ?_); refine goesL_ (some 13) rfl rfl Tryd.func154 (by kernel_rfl) rfl #[.int .u8 (bt a0 x3_1)] rfl (by (try simp only [List.map_toArray, List.map_cons, List.map_nil]); first | done | rfl | (simp only [List.length_drop, List.length_take]; rfl)) ?_; (with_reducible refine (ascii_ValidPrintByte.calls (bt a0 x3_1) true _ A5.out).mono ?_); rintro e w' ⟨rfl, ⟨nd, rfl⟩⟩; refine ⟨_, rfl, ?_⟩))
            go_roundg k1
            case measure => have := HK1.out; omega
            case rel => exact ⟨(wrap64 (x3_1 + 1)), (by first | rfl | (simp; done) | (simp [*]; done)), H', ⟨by have := HK1.out; omega⟩, by repeat (first | exact Drawn0.refl _ | apply Drawn0.step)⟩
          · replace c6 := Bool.eq_false_iff.mpr c6
            subst c6
            have H1 : (some false) = some r := by rw [if_neg (show ¬ (false = true) by decide)] at H; exact H
            clear H
            have H := H1
            clear H1
            obtain rfl := Option.some.inj H
            have p4 : 0 ≤ (x3_1 : Int) := of_decide_eq_true (by first | (with_reducible assumption) | assumption)
            have q4 : x3_1 < (a0.size : Int) := of_decide_eq_true (by first | (with_reducible assumption) | assumption)
            have hx4 := bt_at a0 x3_1
            replace p4 := eq_true p4
            replace q4 := eq_true q4
            go_wp2_with (first | ((with_reducible refine gate_callee (f := 154) rfl ?_); refine goesL_ (some 13) rfl rfl Tryd.func154 (by kernel_rfl) rfl #[.int .u8 (bt a0 x3_1)] rfl (by (try simp only [List.map_toArray, List.map_cons, List.map_nil]); first | done | rfl | (simp only [List.length_drop, List.length_take]; rfl)) ?_; (with_reducible refine (ascii_ValidPrintByte.calls (bt a0 x3_1) false _ A5.out).mono ?_); rintro e w' ⟨rfl, ⟨nd, rfl⟩⟩; refine ⟨_, rfl, ?_⟩))
            go_ret
            exact ⟨by first | rfl | (simp; done) | (simp [*]; done), by repeat (first | exact Drawn0.refl _ | apply Drawn0.step)⟩
        · rw [if_neg c3] at H
          exact absurd H (by simp)
      · rw [if_neg c2] at H
        have c2b0 : decide (x3_1 < (a0.size : Int)) = false := decide_eq_false c2
        clear c2
        obtain rfl := Option.some.inj H
        go_wp2
        go_ret
        exact ⟨by first | rfl | (simp; done) | (simp [*]; done), by repeat (first | exact Drawn0.refl _ | apply Drawn0.step)⟩

def ascii_ValidPrint_146.f (k : Nat) (l0 : List Int) : Option (Bool) := (ascii_ValidPrintString.f k (strOfNums l0)).bind fun t147 => (some t147)
theorem ascii_ValidPrint_146.mono : ∀ a0 k, LeO (ascii_ValidPrint_146.f k a0) (ascii_ValidPrint_146.f (k + 1) a0) := by
  intro a0 k
  unfold ascii_ValidPrint_146.f
  repeat' first
      | (with_reducible exact ascii_ValidPrintString.mono _ _)
      | (with_reducible exact LeO.refl _)
      | (with_reducible exact LeO.none _)
      | (with_reducible refine LeO.ite ?_ ?_)
      | (with_reducible refine LeO.bind ?_ (fun _ => ?_))
      | exact ascii_ValidPrintString.mono _ _
      | exact LeO.none _
      | refine LeO.ite ?_ ?_
      | refine LeO.bind ?_ (fun _ => ?_)
set_option maxHeartbeats 8000000 in
set_option maxRecDepth 100000 in
theorem ascii_ValidPrint_146.calls (k : Nat) (A0 : Option Addr) (c0 : Nat) (l0 : List Int) (r : Bool) (w : World) (hr0 : Kd.C (Kd.int .u8) w A0 l0.length l0) (hc0 : l0.length ≤ c0) (h : ascii_ValidPrint_146.f k l0 = some r) :
    Calls Tryd.prog 146 #[.slice A0 l0.length c0] w fun e w' => e = .returned (.bool r) ∧ Drawn0 w w' := by
  have HR0 := Aside0.mk hr0
  have HC0 := Aside0.mk hc0
  clear hr0 hc0
  have H : ((ascii_ValidPrintString.f k (strOfNums l0)).bind fun t147 => (some t147)) = some r := h
  clear h
  replace H := Option.bind_eq_some_iff.mp H
  obtain ⟨t147, A20, H⟩ := H
  replace H : (some t147) = some r := H
  have A2 := Aside0.mk A20
  clear A20
  obtain rfl := Option.some.inj H
  have hcv3 := Kd.C_string (P := Tryd.prog) (A := A0) (c := c0) Tryd.underlying22 Tryd.underlying5 Tryd.underlying9 HR0.out
  go_enter Tryd.func146, Tryd.ntmps146
  go_wp2_with (first | ((with_reducible refine gate_callee (f := 152) rfl ?_); refine goesL_ (some 5) rfl rfl Tryd.func152 (by kernel_rfl) rfl #[.string (strOfNums l0)] rfl (by (try simp only [List.map_toArray, List.map_cons, List.map_nil]); first | done | rfl | (simp only [List.length_drop, List.length_take]; rfl)) ?_; (with_reducible refine (ascii_ValidPrintString.calls k (strOfNums l0) t147 _ A2.out).mono ?_); rintro e w' ⟨rfl, ⟨nd, rfl⟩⟩; refine ⟨_, rfl, ?_⟩))
  go_ret
  exact ⟨by first | rfl | (simp; done) | (simp [*]; done), by repeat (first | exact Drawn0.refl _ | apply Drawn0.step)⟩

def ascii_ValidPrint_111.f (k : Nat) (l0 : List Int) : Option (Bool) := (ascii_ValidPrint_146.f k l0).bind fun t148 => (some t148)
theorem ascii_ValidPrint_111.mono : ∀ a0 k, LeO (ascii_ValidPrint_111.f k a0) (ascii_ValidPrint_111.f (k + 1) a0) := by
  intro a0 k
  unfold ascii_ValidPrint_111.f
  repeat' first
      | (with_reducible exact ascii_ValidPrint_146.mono _ _)
      | (with_reducible exact LeO.refl _)
      | (with_reducible exact LeO.none _)
      | (with_reducible refine LeO.ite ?_ ?_)
      | (with_reducible refine LeO.bind ?_ (fun _ => ?_))
      | exact ascii_ValidPrint_146.mono _ _
      | exact LeO.none _
      | refine LeO.ite ?_ ?_
      | refine LeO.bind ?_ (fun _ => ?_)
set_option maxHeartbeats 8000000 in
set_option maxRecDepth 100000 in
theorem ascii_ValidPrint_111.calls (k : Nat) (A0 : Option Addr) (c0 : Nat) (l0 : List Int) (r : Bool) (w : World) (hr0 : Kd.C (Kd.int .u8) w A0 l0.length l0) (hc0 : l0.length ≤ c0) (h : ascii_ValidPrint_111.f k l0 = some r) :
    Calls Tryd.prog 111 #[.slice A0 l0.length c0] w fun e w' => e = .returned (.bool r) ∧ Drawn0 w w' := by
  have HR0 := Aside0.mk hr0
  have HC0 := Aside0.mk hc0
  clear hr0 hc0
  have H : ((ascii_ValidPrint_146.f k l0).bind fun t148 => (some t148)) = some r := h
  clear h
  replace H := Option.bind_eq_some_iff.mp H
  obtain ⟨t148, A20, H⟩ := H
  replace H : (some t148) = some r := H
  have A2 := Aside0.mk A20
  clear A20
  obtain rfl := Option.some.inj H
  go_enter Tryd.func111, Tryd.ntmps111
  go_wp2_with (first | ((with_reducible refine gate_callee (f := 146) rfl ?_); refine goesL_ (some 4) rfl rfl Tryd.func146 (by kernel_rfl) rfl #[.slice A0 l0.length c0] rfl (by (try simp only [List.map_toArray, List.map_cons, List.map_nil]); first | done | rfl | (simp only [List.length_drop, List.length_take]; rfl)) ?_; (with_reducible refine (ascii_ValidPrint_146.calls k _ _ l0 t148 _ ?side1 ?side2 A2.out).mono ?_); (case side1 => repeat (first | exact HR0.out | (with_reducible refine Kd.C_alloc ?_ _) | (with_reducible refine Kd.C_drewN ?_ _) | (with_reducible refine Kd.C_drew ?_))); (case side2 => exact HC0.out); rintro e w' ⟨rfl, ⟨nd, rfl⟩⟩; refine ⟨_, rfl, ?_⟩))
  go_ret
  exact ⟨by first | rfl | (simp; done) | (simp [*]; done), by repeat (first | exact Drawn0.refl _ | apply Drawn0.step)⟩

def json_ParseFlags_withKind.f (a0 : Int) (a1 : Int) : Option (Int) := some (Go.bits .or .u32 (Go.bits .and .u32 a0 4278255615) ((((a1) % 4294967296) * 65536) % 4294967296))
set_option maxHeartbeats 8000000 in
set_option maxRecDepth 100000 in
theorem json_ParseFlags_withKind.calls (a0 : Int) (a1 : Int) (r : Int) (w : World) (h : json_ParseFlags_withKind.f a0 a1 = some r) :
    Calls Tryd.prog 88 #[.int .u32 a0, .int .u64 a1] w fun e w' => e = .returned (.int .u32 r) ∧ Drawn0 w w' := by
  have H : (some (Go.bits .or .u32 (Go.bits .and .u32 a0 4278255615) ((((a1) % 4294967296) * 65536) % 4294967296))) = some r := h
  clear h
  obtain rfl := Option.some.inj H
  go_enter Tryd.func88, Tryd.ntmps88
  go_wp2
  go_ret
  exact ⟨by first | rfl | (simp; done) | (simp [*]; done), by repeat (first | exact Drawn0.refl _ | apply Drawn0.step)⟩

def json_ParseFlags_kind.f (a0 : Int) : Option (Int) := some (IntKind.u64.wrap (Go.bits .and .u32 (a0 / 65536) 255))
set_option maxHeartbeats 8000000 in
set_option maxRecDepth 100000 in
theorem json_ParseFlags_kind.calls (a0 : Int) (r : Int) (w : World) (h : json_ParseFlags_kind.f a0 = some r) :
    Calls Tryd.prog 92 #[.int .u32 a0] w fun e w' => e = .returned (.int .u64 r) ∧ Drawn0 w w' := by
  have H : (some (IntKind.u64.wrap (Go.bits .and .u32 (a0 / 65536) 255))) = some r := h
  clear h
  obtain rfl := Option.some.inj H
  go_enter Tryd.func92, Tryd.ntmps92
  go_wp2
  go_ret
  exact ⟨by first | rfl | (simp; done) | (simp [*]; done), by repeat (first | exact Drawn0.refl _ | apply Drawn0.step)⟩

def spec_JSSame.f (a0_0 : Int) (a0_1 : ByteArray) (a0_2 : Int) (a0_3 : Int) (a0_4 : Bool) (a0_5 : Int) (a0_6 : Int) (a1_0 : Int) (a1_1 : ByteArray) (a1_2 : Int) (a1_3 : Int) (a1_4 : Bool) (a1_5 : Int) (a1_6 : Int) : Option (Bool) := if a0_0 = a1_0 then (if a0_1.toList = a1_1.toList then (if a0_2 = a1_2 then (if a0_3 = a1_3 then (if a0_5 = a1_5 then (if a1_0 = 0 then (if (a0_4 == a1_4) = true then (if a1_6 = 0 then (some true) else (some (a0_6 == a1_6))) else (some false)) else (if a1_6 = 0 then (some true) else (some (a0_6 == a1_6)))) else (some false)) else (some false)) else (some false)) else (some false)) else (some false)
set_option maxHeartbeats 8000000 in
set_option maxRecDepth 100000 in
theorem spec_JSSame.calls (a0_0 : Int) (a0_1 : ByteArray) (a0_2 : Int) (a0_3 : Int) (a0_4 : Bool) (a0_5 : Int) (a0_6 : Int) (a1_0 : Int) (a1_1 : ByteArray) (a1_2 : Int) (a1_3 : Int) (a1_4 : Bool) (a1_5 : Int) (a1_6 : Int) (r : Bool) (w : World) (h : spec_JSSame.f a0_0 a0_1 a0_2 a0_3 a0_4 a0_5 a0_6 a1_0 a1_1 a1_2 a1_3 a1_4 a1_5 a1_6 = some r) :
    Calls Tryd.prog 21 #[.agg #[.int .u8 a0_0, .string a0_1, .int .i64 a0_2, .int .i64 a0_3, .bool a0_4, .int .i64 a0_5, .int .i64 a0_6], .agg #[.int .u8 a1_0, .string a1_1, .int .i64 a1_2, .int .i64 a1_3, .bool a1_4, .int .i64 a1_5, .int .i64 a1_6]] w fun e w' => e = .returned (.bool r) ∧ Below w.heap.size w w' := by
  have hu37 := Tryd.underlying37
  have HB := Aside0.mk (Below.refl w.heap.size w)
  have H : (if a0_0 = a1_0 then (if a0_1.toList = a1_1.toList then (if a0_2 = a1_2 then (if a0_3 = a1_3 then (if a0_5 = a1_5 then (if a1_0 = 0 then (if (a0_4 == a1_4) = true then (if a1_6 = 0 then (some true) else (some (a0_6 == a1_6))) else (some false)) else (if a1_6 = 0 then (some true) else (some (a0_6 == a1_6)))) else (some false)) else (some false)) else (some false)) else (some false)) else (some false)) = some r := h
  clear h
  by_cases c3 : a0_0 = a1_0
  · rw [if_pos c3] at H
    have c3b0 : (a0_0 == a1_0) = true := beq_iff_eq.mpr c3
    have c3b1 : (a0_0 != a1_0) = false := bne_eq_false_iff_eq.mpr c3
    clear c3
    by_cases c4 : a0_1.toList = a1_1.toList
    · rw [if_pos c4] at H
      have c4b0 : (a0_1.toList == a1_1.toList) = true := beq_iff_eq.mpr c4
      have c4b1 : (a0_1.toList != a1_1.toList) = false := bne_eq_false_iff_eq.mpr c4
      clear c4
      by_cases c5 : a0_2 = a1_2
      · rw [if_pos c5] at H
        have c5b0 : (a0_2 == a1_2) = true := beq_iff_eq.mpr c5
        have c5b1 : (a0_2 != a1_2) = false := bne_eq_false_iff_eq.mpr c5
        clear c5
        by_cases c6 : a0_3 = a1_3
        · rw [if_pos c6] at H
          have c6b0 : (a0_3 == a1_3) = true := beq_iff_eq.mpr c6
          have c6b1 : (a0_3 != a1_3) = false := bne_eq_false_iff_eq.mpr c6
          clear c6
          by_cases c7 : a0_5 = a1_5
          · rw [if_pos c7] at H
            have c7b0 : (a0_5 == a1_5) = true := beq_iff_eq.mpr c7
            have c7b1 : (a0_5 != a1_5) = false := bne_eq_false_iff_eq.mpr c7
            clear c7
            by_cases c8 : a1_0 = 0
            · rw [if_pos c8] at H
              have c8b0 : (a1_0 == 0) = true := beq_iff_eq.mpr c8
              have c8b1 : (a1_0 != 0) = false := bne_eq_false_iff_eq.mpr c8
              clear c8
              by_cases c9 : (a0_4 == a1_4) = true
              · rw [if_pos c9] at H
                have c9b0 : (a0_4 == a1_4) = true := c9
                (try (have c9b1 : decide (a0_4 = a1_4) = true := by simpa using c9))
                (try (have c9b2 : (a0_4 == a1_4) = true := by simpa using c9))
                clear c9
                by_cases c10 : a1_6 = 0
                · rw [if_pos c10] at H
                  have c10b0 : (a1_6 == 0) = true := beq_iff_eq.mpr c10
                  have c10b1 : (a1_6 != 0) = false := bne_eq_false_iff_eq.mpr c10
                  clear c10
                  obtain rfl := Option.some.inj H
                  go_enter Tryd.func21, Tryd.ntmps21
                  go_wp2_with (first | ((with_reducible refine gate_dst (N := 2) rfl ?_); refine box_event ?hg (N := 2) ?hd (cs := #[.int .u8 a0_0, .string a0_1, .int .i64 a0_2, .int .i64 a0_3, .bool a0_4, .int .i64 a0_5, .int .i64 a0_6]) (t := 37) ?hr ?_; (case hd => rfl); (case hg => rfl); (case hr => first | (go_simp; done) | (go_simp; rfl)); intro gb168 hg w11 hbox hb; have n0_ := Aside0.mk (below_step (by repeat (first | (with_reducible first | exact HB.out | apply below_alloc | apply pw_below_drewN | apply below_drew1) | exact HB.out)) hb); have n1_ := Aside0.mk (hbox); have n2_ := Aside0.mk ((by rw [hg]; exact (below_size (by repeat (first | (with_reducible first | exact HB.out | apply below_alloc | apply pw_below_drewN | apply below_drew1) | exact HB.out))) : w.heap.size ≤ gb168)); have n3_ := Aside0.mk ((by rw [hg]; exact (below_size (by repeat (first | (with_reducible first | exact HB.out | apply below_alloc | apply pw_below_drewN | apply below_drew1) | exact HB.out))) : w.heap.size ≤ gb168)); clear HB; have HB := n0_; have BK168 := n1_; have GW168 := n2_; have GE168 := n3_; clear n0_ n1_ n2_ n3_; clear hb hbox hg) | ((with_reducible refine gate_dst (N := 3) rfl ?_); refine box_event ?hg (N := 3) ?hd (cs := #[.int .u8 a1_0, .string a1_1, .int .i64 a1_2, .int .i64 a1_3, .bool a1_4, .int .i64 a1_5, .int .i64 a1_6]) (t := 37) ?hr ?_; (case hd => rfl); (case hg => rfl); (case hr => first | (go_simp; done) | (go_simp; rfl)); intro gb169 hg w12 hbox hb; have n0_ := Aside0.mk (blk_below (g := gb168) (o := .cells #[.int .u8 a0_0, .string a0_1, .int .i64 a0_2, .int .i64 a0_3, .bool a0_4, .int .i64 a0_5, .int .i64 a0_6] 37 (0, 0)) (by (with_reducible repeat (first | refine blk_drewN ?_ _ | refine blk_drew ?_ | refine blk_alloc ?_ _)); exact BK168.out) hb); have n1_ := Aside0.mk (below_step (by repeat (first | (with_reducible first | exact HB.out | apply below_alloc | apply pw_below_drewN | apply below_drew1 | refine below_set ?_ GE168.out) | exact HB.out)) hb); have n2_ := Aside0.mk (hbox); have n3_ := Aside0.mk ((by rw [hg]; exact (below_size (by repeat (first | (with_reducible first | exact HB.out | apply below_alloc | apply pw_below_drewN | apply below_drew1 | refine below_set ?_ GE168.out) | exact HB.out))) : w.heap.size ≤ gb169)); have n4_ := Aside0.mk ((by rw [hg]; exact (below_size (by repeat (first | (with_reducible first | exact HB.out | apply below_alloc | apply pw_below_drewN | apply below_drew1 | refine below_set ?_ GE168.out) | exact HB.out))) : w.heap.size ≤ gb169)); have n5_ := Aside0.mk ((by rw [hg]; exact Nat.ne_of_lt (blk_lt (g := gb168) (o := .cells #[.int .u8 a0_0, .string a0_1, .int .i64 a0_2, .int .i64 a0_3, .bool a0_4, .int .i64 a0_5, .int .i64 a0_6] 37 (0, 0)) (by (with_reducible repeat (first | refine blk_drewN ?_ _ | refine blk_drew ?_ | refine blk_alloc ?_ _)); exact BK168.out)) : gb168 ≠ gb169)); have n6_ := Aside0.mk ((by rw [hg]; exact Nat.ne_of_gt (blk_lt (g := gb168) (o := .cells #[.int .u8 a0_0, .string a0_1, .int .i64 a0_2, .int .i64 a0_3, .bool a0_4, .int .i64 a0_5, .int .i64 a0_6] 37 (0, 0)) (by (with_reducible repeat (first | refine blk_drewN ?_ _ | refine blk_drew ?_ | refine blk_alloc ?_ _)); exact BK168.out)) : gb169 ≠ gb168)); clear BK168; clear HB; have BK168 := n0_; have HB := n1_; have BK169 := n2_; have GW169 := n3_; have GE169 := n4_; have NB168_169 := n5_; have NB169_168 := n6_; clear n0_ n1_ n2_ n3_ n4_ n5_ n6_; clear hb hbox hg; have hnb13 := NB168_169.out; have hnc13 := NB169_168.out; have hcz14_0 : w12.cell? ⟨gb168, 0, none⟩ = some (.int .u8 a0_0) := (blk_cell BK168.out 0).trans rfl; have hcz14_1 : w12.cell? ⟨gb168, 1, none⟩ = some (.string a0_1) := (blk_cell BK168.out 1).trans rfl; have hcz14_2 : w12.cell? ⟨gb168, 2, none⟩ = some (.int .i64 a0_2) := (blk_cell BK168.out 2).trans rfl; have hcz14_3 : w12.cell? ⟨gb168, 3, none⟩ = some (.int .i64 a0_3) := (blk_cell BK168.out 3).trans rfl; have hcz14_4 : w12.cell? ⟨gb168, 4, none⟩ = some (.bool a0_4) := (blk_cell BK168.out 4).trans rfl; have hcz14_5 : w12.cell? ⟨gb168, 5, none⟩ = some (.int .i64 a0_5) := (blk_cell BK168.out 5).trans rfl; have hcz14_6 : w12.cell? ⟨gb168, 6, none⟩ = some (.int .i64 a0_6) := (blk_cell BK168.out 6).trans rfl; have hfz14_0 := blk_frozen BK168.out 0; have hfz14_1 := blk_frozen BK168.out 1; have hfz14_2 := blk_frozen BK168.out 2; have hfz14_3 := blk_frozen BK168.out 3; have hfz14_4 := blk_frozen BK168.out 4; have hfz14_5 := blk_frozen BK168.out 5; have hfz14_6 := blk_frozen BK168.out 6; have hcz15_0 : w12.cell? ⟨gb169, 0, none⟩ = some (.int .u8 a1_0) := (blk_cell BK169.out 0).trans rfl; have hcz15_1 : w12.cell? ⟨gb169, 1, none⟩ = some (.string a1_1) := (blk_cell BK169.out 1).trans rfl; have hcz15_2 : w12.cell? ⟨gb169, 2, none⟩ = some (.int .i64 a1_2) := (blk_cell BK169.out 2).trans rfl; have hcz15_3 : w12.cell? ⟨gb169, 3, none⟩ = some (.int .i64 a1_3) := (blk_cell BK169.out 3).trans rfl; have hcz15_4 : w12.cell? ⟨gb169, 4, none⟩ = some (.bool a1_4) := (blk_cell BK169.out 4).trans rfl; have hcz15_5 : w12.cell? ⟨gb169, 5, none⟩ = some (.int .i64 a1_5) := (blk_cell BK169.out 5).trans rfl; have hcz15_6 : w12.cell? ⟨gb169, 6, none⟩ = some (.int .i64 a1_6) := (blk_cell BK169.out 6).trans rfl; have hfz15_0 := blk_frozen BK169.out 0; have hfz15_1 := blk_frozen BK169.out 1; have hfz15_2 := blk_frozen BK169.out 2; have hfz15_3 := blk_frozen BK169.out 3; have hfz15_4 := blk_frozen BK169.out 4; have hfz15_5 := blk_frozen BK169.out 5; have hfz15_6 := blk_frozen BK169.out 6))
                  go_ret
                  exact ⟨by first | rfl | (simp [errW_none, errW_some] <;> rfl) | (simp [*, errW_none, errW_some] <;> rfl), by repeat (first | (with_reducible first | exact HB.out | apply below_alloc | apply pw_below_drewN | apply below_drew1 | refine below_set ?_ GE168.out | refine below_set ?_ GE169.out) | exact HB.out)⟩
                · rw [if_neg c10] at H
                  have c10b0 : (a1_6 == 0) = false := beq_eq_false_iff_ne.mpr c10
                  have c10b1 : (a1_6 != 0) = true := bne_iff_ne.mpr c10
                  obtain rfl := Option.some.inj H
                  go_enter Tryd.func21, Tryd.ntmps21
                  go_wp2_with (first | ((with_reducible refine gate_dst (N := 2) rfl ?_); refine box_event ?hg (N := 2) ?hd (cs := #[.int .u8 a0_0, .string a0_1, .int .i64 a0_2, .int .i64 a0_3, .bool a0_4, .int .i64 a0_5, .int .i64 a0_6]) (t := 37) ?hr ?_; (case hd => rfl); (case hg => rfl); (case hr => first | (go_simp; done) | (go_simp; rfl)); intro gb168 hg w16 hbox hb; have n0_ := Aside0.mk (below_step (by repeat (first | (with_reducible first | exact HB.out | apply below_alloc | apply pw_below_drewN | apply below_drew1) | exact HB.out)) hb); have n1_ := Aside0.mk (hbox); have n2_ := Aside0.mk ((by rw [hg]; exact (below_size (by repeat (first | (with_reducible first | exact HB.out | apply below_alloc | apply pw_below_drewN | apply below_drew1) | exact HB.out))) : w.heap.size ≤ gb168)); have n3_ := Aside0.mk ((by rw [hg]; exact (below_size (by repeat (first | (with_reducible first | exact HB.out | apply below_alloc | apply pw_below_drewN | apply below_drew1) | exact HB.out))) : w.heap.size ≤ gb168)); clear HB; have HB := n0_; have BK168 := n1_; have GW168 := n2_; have GE168 := n3_; clear n0_ n1_ n2_ n3_; clear hb hbox hg) | ((with_reducible refine gate_dst (N := 3) rfl ?_); refine box_event ?hg (N := 3) ?hd (cs := #[.int .u8 a1_0, .string a1_1, .int .i64 a1_2, .int .i64 a1_3, .bool a1_4, .int .i64 a1_5, .int .i64 a1_6]) (t := 37) ?hr ?_; (case hd => rfl); (case hg => rfl); (case hr => first | (go_simp; done) | (go_simp; rfl)); intro gb169 hg w17 hbox hb; have n0_ := Aside0.mk (blk_below (g := gb168) (o := .cells #[.int .u8 a0_0, .string a0_1, .int .i64 a0_2, .int .i64 a0_3, .bool a0_4, .int .i64 a0_5, .int .i64 a0_6] 37 (0, 0)) (by (with_reducible repeat (first | refine blk_drewN ?_ _ | refine blk_drew ?_ | refine blk_alloc ?_ _)); exact BK168.out) hb); have n1_ := Aside0.mk (below_step (by repeat (first | (with_reducible first | exact HB.out | apply below_alloc | apply pw_below_drewN | apply below_drew1 | refine below_set ?_ GE168.out) | exact HB.out)) hb); have n2_ := Aside0.mk (hbox); have n3_ := Aside0.mk ((by rw [hg]; exact (below_size (by repeat (first | (with_reducible first | exact HB.out | apply below_alloc | apply pw_below_drewN | apply below_drew1 | refine below_set ?_ GE168.out) | exact HB.out))) : w.heap.size ≤ gb169)); have n4_ := Aside0.mk ((by rw [hg]; exact (below_size (by repeat (first | (with_reducible first | exact HB.out | apply below_alloc | apply pw_below_drewN | apply below_drew1 | refine below_set ?_ GE168.out) | exact HB.out))) : w.heap.size ≤ gb169)); have n5_ := Aside0.mk ((by rw [hg]; exact Nat.ne_of_lt (blk_lt (g := gb168) (o := .cells #[.int .u8 a0_0, .string a0_1, .int .i64 a0_2, .int .i64 a0_3, .bool a0_4, .int .i64 a0_5, .int .i64 a0_6] 37 (0, 0)) (by (with_reducible repeat (first | refine blk_drewN ?_ _ | refine blk_drew ?_ | refine blk_alloc ?_ _)); exact BK168.out)) : gb168 ≠ gb169)); have n6_ := Aside0.mk ((by rw [hg]; exact Nat.ne_of_gt (blk_lt (g := gb168) (o := .cells #[.int .u8 a0_0, .string a0_1, .int .i64 a0_2, .int .i64 a0_3, .bool a0_4, .int .i64 a0_5, .int .i64 a0_6] 37 (0, 0)) (by (with_reducible repeat (first | refine blk_drewN ?_ _ | refine blk_drew ?_ | refine blk_alloc ?_ _)); exact BK168.out)) : gb169 ≠ gb168)); clear BK168; clear HB; have BK168 := n0_; have HB := n1_; have BK169 := n2_; have GW169 := n3_; have GE169 := n4_; have NB168_169 := n5_; have NB169_168 := n6_; clear n0_ n1_ n2_ n3_ n4_ n5_ n6_; clear hb hbox hg; have hnb18 := NB168_169.out; have hnc18 := NB169_168.out; have hcz19_0 : w17.cell? ⟨gb168, 0, none⟩ = some (.int .u8 a0_0) := (blk_cell BK168.out 0).trans rfl; have hcz19_1 : w17.cell? ⟨gb168, 1, none⟩ = some (.string a0_1) := (blk_cell BK168.out 1).trans rfl; have hcz19_2 : w17.cell? ⟨gb168, 2, none⟩ = some (.int .i64 a0_2) := (blk_cell BK168.out 2).trans rfl; have hcz19_3 : w17.cell? ⟨gb168, 3, none⟩ = some (.int .i64 a0_3) := (blk_cell BK168.out 3).trans rfl; have hcz19_4 : w17.cell? ⟨gb168, 4, none⟩ = some (.bool a0_4) := (blk_cell BK168.out 4).trans rfl; have hcz19_5 : w17.cell? ⟨gb168, 5, none⟩ = some (.int .i64 a0_5) := (blk_cell BK168.out 5).trans rfl; have hcz19_6 : w17.cell? ⟨gb168, 6, none⟩ = some (.int .i64 a0_6) := (blk_cell BK168.out 6).trans rfl; have hfz19_0 := blk_frozen BK168.out 0; have hfz19_1 := blk_frozen BK168.out 1; have hfz19_2 := blk_frozen BK168.out 2; have hfz19_3 := blk_frozen BK168.out 3; have hfz19_4 := blk_frozen BK168.out 4; have hfz19_5 := blk_frozen BK168.out 5; have hfz19_6 := blk_frozen BK168.out 6; have hcz20_0 : w17.cell? ⟨gb169, 0, none⟩ = some (.int .u8 a1_0) := (blk_cell BK169.out 0).trans rfl; have hcz20_1 : w17.cell? ⟨gb169, 1, none⟩ = some (.string a1_1) := (blk_cell BK169.out 1).trans rfl; have hcz20_2 : w17.cell? ⟨gb169, 2, none⟩ = some (.int .i64 a1_2) := (blk_cell BK169.out 2).trans rfl; have hcz20_3 : w17.cell? ⟨gb169, 3, none⟩ = some (.int .i64 a1_3) := (blk_cell BK169.out 3).trans rfl; have hcz20_4 : w17.cell? ⟨gb169, 4, none⟩ = some (.bool a1_4) := (blk_cell BK169.out 4).trans rfl; have hcz20_5 : w17.cell? ⟨gb169, 5, none⟩ = some (.int .i64 a1_5) := (blk_cell BK169.out 5).trans rfl; have hcz20_6 : w17.cell? ⟨gb169, 6, none⟩ = some (.int .i64 a1_6) := (blk_cell BK169.out 6).trans rfl; have hfz20_0 := blk_frozen BK169.out 0; have hfz20_1 := blk_frozen BK169.out 1; have hfz20_2 := blk_frozen BK169.out 2; have hfz20_3 := blk_frozen BK169.out 3; have hfz20_4 := blk_frozen BK169.out 4; have hfz20_5 := blk_frozen BK169.out 5; have hfz20_6 := blk_frozen BK169.out 6))
                  go_ret
                  exact ⟨by first | rfl | (simp [errW_none, errW_some] <;> rfl) | (simp [*, errW_none, errW_some] <;> rfl), by repeat (first | (with_reducible first | exact HB.out | apply below_alloc | apply pw_below_drewN | apply below_drew1 | refine below_set ?_ GE168.out | refine below_set ?_ GE169.out) | exact HB.out)⟩
              · rw [if_neg c9] at H
                have c9b0 : (a0_4 == a1_4) = false := by simpa using c9
                (try (have c9b1 : decide (a0_4 = a1_4) = false := by simpa using c9))
                (try (have c9b2 : (a0_4 == a1_4) = false := by simpa using c9))
                (try (have c9b3 : ¬ (a0_4 = a1_4) := by simpa using c9))
                clear c9
                obtain rfl := Option.some.inj H
                go_enter Tryd.func21, Tryd.ntmps21
                go_wp2_with (first | ((with_reducible refine gate_dst (N := 2) rfl ?_); refine box_event ?hg (N := 2) ?hd (cs := #[.int .u8 a0_0, .string a0_1, .int .i64 a0_2, .int .i64 a0_3, .bool a0_4, .int .i64 a0_5, .int .i64 a0_6]) (t := 37) ?hr ?_; (case hd => rfl); (case hg => rfl); (case hr => first | (go_simp; done) | (go_simp; rfl)); intro gb168 hg w21 hbox hb; have n0_ := Aside0.mk (below_step (by repeat (first | (with_reducible first | exact HB.out | apply below_alloc | apply pw_below_drewN | apply below_drew1) | exact HB.out)) hb); have n1_ := Aside0.mk (hbox); have n2_ := Aside0.mk ((by rw [hg]; exact (below_size (by repeat (first | (with_reducible first | exact HB.out | apply below_alloc | apply pw_below_drewN | apply below_drew1) | exact HB.out))) : w.heap.size ≤ gb168)); have n3_ := Aside0.mk ((by rw [hg]; exact (below_size (by repeat (first | (with_reducible first | exact HB.out | apply below_alloc | apply pw_below_drewN | apply below_drew1) | exact HB.out))) : w.heap.size ≤ gb168)); clear HB; have HB := n0_; have BK168 := n1_; have GW168 := n2_; have GE168 := n3_; clear n0_ n1_ n2_ n3_; clear hb hbox hg) | ((with_reducible refine gate_dst (N := 3) rfl ?_); refine box_event ?hg (N := 3) ?hd (cs := #[.int .u8 a1_0, .string a1_1, .int .i64 a1_2, .int .i64 a1_3, .bool a1_4, .int .i64 a1_5, .int .i64 a1_6]) (t := 37) ?hr ?_; (case hd => rfl); (case hg => rfl); (case hr => first | (go_simp; done) | (go_simp; rfl)); intro gb169 hg w22 hbox hb; have n0_ := Aside0.mk (blk_below (g := gb168) (o := .cells #[.int .u8 a0_0, .string a0_1, .int .i64 a0_2, .int .i64 a0_3, .bool a0_4, .int .i64 a0_5, .int .i64 a0_6] 37 (0, 0)) (by (with_reducible repeat (first | refine blk_drewN ?_ _ | refine blk_drew ?_ | refine blk_alloc ?_ _)); exact BK168.out) hb); have n1_ := Aside0.mk (below_step (by repeat (first | (with_reducible first | exact HB.out | apply below_alloc | apply pw_below_drewN | apply below_drew1 | refine below_set ?_ GE168.out) | exact HB.out)) hb); have n2_ := Aside0.mk (hbox); have n3_ := Aside0.mk ((by rw [hg]; exact (below_size (by repeat (first | (with_reducible first | exact HB.out | apply below_alloc | apply pw_below_drewN | apply below_drew1 | refine below_set ?_ GE168.out) | exact HB.out))) : w.heap.size ≤ gb169)); have n4_ := Aside0.mk ((by rw [hg]; exact (below_size (by repeat (first | (with_reducible first | exact HB.out | apply below_alloc | apply pw_below_drewN | apply below_drew1 | refine below_set ?_ GE168.out) | exact HB.out))) : w.heap.size ≤ gb169)); have n5_ := Aside0.mk ((by rw [hg]; exact Nat.ne_of_lt (blk_lt (g := gb168) (o := .cells #[.int .u8 a0_0, .string a0_1, .int .i64 a0_2, .int .i64 a0_3, .bool a0_4, .int .i64 a0_5, .int .i64 a0_6] 37 (0, 0)) (by (with_reducible repeat (first | refine blk_drewN ?_ _ | refine blk_drew ?_ | refine blk_alloc ?_ _)); exact BK168.out)) : gb168 ≠ gb169)); have n6_ := Aside0.mk ((by rw [hg]; exact Nat.ne_of_gt (blk_lt (g := gb168) (o := .cells #[.int .u8 a0_0, .string a0_1, .int .i64 a0_2, .int .i64 a0_3, .bool a0_4, .int .i64 a0_5, .int .i64 a0_6] 37 (0, 0)) (by (with_reducible repeat (first | refine blk_drewN ?_ _ | refine blk_drew ?_ | refine blk_alloc ?_ _)); exact BK168.out)) : gb169 ≠ gb168)); clear BK168; clear HB; have BK168 := n0_; have HB := n1_; have BK169 := n2_; have GW169 := n3_; have GE169 := n4_; have NB168_169 := n5_; have NB169_168 := n6_; clear n0_ n1_ n2_ n3_ n4_ n5_ n6_; clear hb hbox hg; have hnb23 := NB168_169.out; have hnc23 := NB169_168.out; have hcz24_0 : w22.cell? ⟨gb168, 0, none⟩ = some (.int .u8 a0_0) := (blk_cell BK168.out 0).trans rfl; have hcz24_1 : w22.cell? ⟨gb168, 1, none⟩ = some (.string a0_1) := (blk_cell BK168.out 1).trans rfl; have hcz24_2 : w22.cell? ⟨gb168, 2, none⟩ = some (.int .i64 a0_2) := (blk_cell BK168.out 2).trans rfl; have hcz24_3 : w22.cell? ⟨gb168, 3, none⟩ = some (.int .i64 a0_3) := (blk_cell BK168.out 3).trans rfl; have hcz24_4 : w22.cell? ⟨gb168, 4, none⟩ = some (.bool a0_4) := (blk_cell BK168.out 4).trans rfl; have hcz24_5 : w22.cell? ⟨gb168, 5, none⟩ = some (.int .i64 a0_5) := (blk_cell BK168.out 5).trans rfl; have hcz24_6 : w22.cell? ⟨gb168, 6, none⟩ = some (.int .i64 a0_6) := (blk_cell BK168.out 6).trans rfl; have hfz24_0 := blk_frozen BK168.out 0; have hfz24_1 := blk_frozen BK168.out 1; have hfz24_2 := blk_frozen BK168.out 2; have hfz24_3 := blk_frozen BK168.out 3; have hfz24_4 := blk_frozen BK168.out 4; have hfz24_5 := blk_frozen BK168.out 5; have hfz24_6 := blk_frozen BK168.out 6; have hcz25_0 : w22.cell? ⟨gb169, 0, none⟩ = some (.int .u8 a1_0) := (blk_cell BK169.out 0).trans rfl; have hcz25_1 : w22.cell? ⟨gb169, 1, none⟩ = some (.string a1_1) := (blk_cell BK169.out 1).trans rfl; have hcz25_2 : w22.cell? ⟨gb169, 2, none⟩ = some (.int .i64 a1_2) := (blk_cell BK169.out 2).trans rfl; have hcz25_3 : w22.cell? ⟨gb169, 3, none⟩ = some (.int .i64 a1_3) := (blk_cell BK169.out 3).trans rfl; have hcz25_4 : w22.cell? ⟨gb169, 4, none⟩ = some (.bool a1_4) := (blk_cell BK169.out 4).trans rfl; have hcz25_5 : w22.cell? ⟨gb169, 5, none⟩ = some (.int .i64 a1_5) := (blk_cell BK169.out 5).trans rfl; have hcz25_6 : w22.cell? ⟨gb169, 6, none⟩ = some (.int .i64 a1_6) := (blk_cell BK169.out 6).trans rfl; have hfz25_0 := blk_frozen BK169.out 0; have hfz25_1 := blk_frozen BK169.out 1; have hfz25_2 := blk_frozen BK169.out 2; have hfz25_3 := blk_frozen BK169.out 3; have hfz25_4 := blk_frozen BK169.out 4; have hfz25_5 := blk_frozen BK169.out 5; have hfz25_6 := blk_frozen BK169.out 6))
                go_ret
                exact ⟨by first | rfl | (simp [errW_none, errW_some] <;> rfl) | (simp [*, errW_none, errW_some] <;> rfl), by repeat (first | (with_reducible first | exact HB.out | apply below_alloc | apply pw_below_drewN | apply below_drew1 | refine below_set ?_ GE168.out | refine below_set ?_ GE169.out) | exact HB.out)⟩
            · rw [if_neg c8] at H
              have c8b0 : (a1_0 == 0) = false := beq_eq_false_iff_ne.mpr c8
              have c8b1 : (a1_0 != 0) = true := bne_iff_ne.mpr c8
              by_cases c26 : a1_6 = 0
              · rw [if_pos c26] at H
                have c26b0 : (a1_6 == 0) = true := beq_iff_eq.mpr c26
                have c26b1 : (a1_6 != 0) = false := bne_eq_false_iff_eq.mpr c26
                clear c26
                obtain rfl := Option.some.inj H
                go_enter Tryd.func21, Tryd.ntmps21
                go_wp2_with (first | ((with_reducible refine gate_dst (N := 2) rfl ?_); refine box_event ?hg (N := 2) ?hd (cs := #[.int .u8 a0_0, .string a0_1, .int .i64 a0_2, .int .i64 a0_3, .bool a0_4, .int .i64 a0_5, .int .i64 a0_6]) (t := 37) ?hr ?_; (case hd => rfl); (case hg => rfl); (case hr => first | (go_simp; done) | (go_simp; rfl)); intro gb168 hg w27 hbox hb; have n0_ := Aside0.mk (below_step (by repeat (first | (with_reducible first | exact HB.out | apply below_alloc | apply pw_below_drewN | apply below_drew1) | exact HB.out)) hb); have n1_ := Aside0.mk (hbox); have n2_ := Aside0.mk ((by rw [hg]; exact (below_size (by repeat (first | (with_reducible first | exact HB.out | apply below_alloc | apply pw_below_drewN | apply below_drew1) | exact HB.out))) : w.heap.size ≤ gb168)); have n3_ := Aside0.mk ((by rw [hg]; exact (below_size (by repeat (first | (with_reducible first | exact HB.out | apply below_alloc | apply pw_below_drewN | apply below_drew1) | exact HB.out))) : w.heap.size ≤ gb168)); clear HB; have HB := n0_; have BK168 := n1_; have GW168 := n2_; have GE168 := n3_; clear n0_ n1_ n2_ n3_; clear hb hbox hg) | ((with_reducible refine gate_dst (N := 3) rfl ?_); refine box_event ?hg (N := 3) ?hd (cs := #[.int .u8 a1_0, .string a1_1, .int .i64 a1_2, .int .i64 a1_3, .bool a1_4, .int .i64 a1_5, .int .i64 a1_6]) (t := 37) ?hr ?_; (case hd => rfl); (case hg => rfl); (case hr => first | (go_simp; done) | (go_simp; rfl)); intro gb169 hg w28 hbox hb; have n0_ := Aside0.mk (blk_below (g := gb168) (o := .cells #[.int .u8 a0_0, .string a0_1, .int .i64 a0_2, .int .i64 a0_3, .bool a0_4, .int .i64 a0_5, .int .i64 a0_6] 37 (0, 0)) (by (with_reducible repeat (first | refine blk_drewN ?_ _ | refine blk_drew ?_ | refine blk_alloc ?_ _)); exact BK168.out) hb); have n1_ := Aside0.mk (below_step (by repeat (first | (with_reducible first | exact HB.out | apply below_alloc | apply pw_below_drewN | apply below_drew1 | refine below_set ?_ GE168.out) | exact HB.out)) hb); have n2_ := Aside0.mk (hbox); have n3_ := Aside0.mk ((by rw [hg]; exact (below_size (by repeat (first | (with_reducible first | exact HB.out | apply below_alloc | apply pw_below_drewN | apply below_drew1 | refine below_set ?_ GE168.out) | exact HB.out))) : w.heap.size ≤ gb169)); have n4_ := Aside0.mk ((by rw [hg]; exact (below_size (by repeat (first | (with_reducible first | exact HB.out | apply below_alloc | apply pw_below_drewN | apply below_drew1 | refine below_set ?_ GE168.out) | exact HB.out))) : w.heap.size ≤ gb169)); have n5_ := Aside0.mk ((by rw [hg]; exact Nat.ne_of_lt (blk_lt (g := gb168) (o := .cells #[.int .u8 a0_0, .string a0_1, .int .i64 a0_2, .int .i64 a0_3, .bool a0_4, .int .i64 a0_5, .int .i64 a0_6] 37 (0, 0)) (by (with_reducible repeat (first | refine blk_drewN ?_ _ | refine blk_drew ?_ | refine blk_alloc ?_ _)); exact BK168.out)) : gb168 ≠ gb169)); have n6_ := Aside0.mk ((by rw [hg]; exact Nat.ne_of_gt (blk_lt (g := gb168) (o := .cells #[.int .u8 a0_0, .string a0_1, .int .i64 a0_2, .int .i64 a0_3, .bool a0_4, .int .i64 a0_5, .int .i64 a0_6] 37 (0, 0)) (by (with_reducible repeat (first | refine blk_drewN ?_ _ | refine blk_drew ?_ | refine blk_alloc ?_ _)); exact BK168.out)) : gb169 ≠ gb168)); clear BK168; clear HB; have BK168 := n0_; have HB := n1_; have BK169 := n2_; have GW169 := n3_; have GE169 := n4_; have NB168_169 := n5_; have NB169_168 := n6_; clear n0_ n1_ n2_ n3_ n4_ n5_ n6_; clear hb hbox hg; have hnb29 := NB168_169.out; have hnc29 := NB169_168.out; have hcz30_0 : w28.cell? ⟨gb168, 0, none⟩ = some (.int .u8 a0_0) := (blk_cell BK168.out 0).trans rfl; have hcz30_1 : w28.cell? ⟨gb168, 1, none⟩ = some (.string a0_1) := (blk_cell BK168.out 1).trans rfl; have hcz30_2 : w28.cell? ⟨gb168, 2, none⟩ = some (.int .i64 a0_2) := (blk_cell BK168.out 2).trans rfl; have hcz30_3 : w28.cell? ⟨gb168, 3, none⟩ = some (.int .i64 a0_3) := (blk_cell BK168.out 3).trans rfl; have hcz30_4 : w28.cell? ⟨gb168, 4, none⟩ = some (.bool a0_4) := (blk_cell BK168.out 4).trans rfl; have hcz30_5 : w28.cell? ⟨gb168, 5, none⟩ = some (.int .i64 a0_5) := (blk_cell BK168.out 5).trans rfl; have hcz30_6 : w28.cell? ⟨gb168, 6, none⟩ = some (.int .i64 a0_6) := (blk_cell BK168.out 6).trans rfl; have hfz30_0 := blk_frozen BK168.out 0; have hfz30_1 := blk_frozen BK168.out 1; have hfz30_2 := blk_frozen BK168.out 2; have hfz30_3 := blk_frozen BK168.out 3; have hfz30_4 := blk_frozen BK168.out 4; have hfz30_5 := blk_frozen BK168.out 5; have hfz30_6 := blk_frozen BK168.out 6; have hcz31_0 : w28.cell? ⟨gb169, 0, none⟩ = some (.int .u8 a1_0) := (blk_cell BK169.out 0).trans rfl; have hcz31_1 : w28.cell? ⟨gb169, 1, none⟩ = some (.string a1_1) := (blk_cell BK169.out 1).trans rfl; have hcz31_2 : w28.cell? ⟨gb169, 2, none⟩ = some (.int .i64 a1_2) := (blk_cell BK169.out 2).trans rfl; have hcz31_3 : w28.cell? ⟨gb169, 3, none⟩ = some (.int .i64 a1_3) := (blk_cell BK169.out 3).trans rfl; have hcz31_4 : w28.cell? ⟨gb169, 4, none⟩ = some (.bool a1_4) := (blk_cell BK169.out 4).trans rfl; have hcz31_5 : w28.cell? ⟨gb169, 5, none⟩ = some (.int .i64 a1_5) := (blk_cell BK169.out 5).trans rfl; have hcz31_6 : w28.cell? ⟨gb169, 6, none⟩ = some (.int .i64 a1_6) := (blk_cell BK169.out 6).trans rfl; have hfz31_0 := blk_frozen BK169.out 0; have hfz31_1 := blk_frozen BK169.out 1; have hfz31_2 := blk_frozen BK169.out 2; have hfz31_3 := blk_frozen BK169.out 3; have hfz31_4 := blk_frozen BK169.out 4; have hfz31_5 := blk_frozen BK169.out 5; have hfz31_6 := blk_frozen BK169.out 6))
                go_ret
                exact ⟨by first | rfl | (simp [errW_none, errW_some] <;> rfl) | (simp [*, errW_none, errW_some] <;> rfl), by repeat (first | (with_reducible first | exact HB.out | apply below_alloc | apply pw_below_drewN | apply below_drew1 | refine below_set ?_ GE168.out | refine below_set ?_ GE169.out) | exact HB.out)⟩
              · rw [if_neg c26] at H
                have c26b0 : (a1_6 == 0) = false := beq_eq_false_iff_ne.mpr c26
                have c26b1 : (a1_6 != 0) = true := bne_iff_ne.mpr c26
                obtain rfl := Option.some.inj H
                go_enter Tryd.func21, Tryd.ntmps21
                go_wp2_with (first | ((with_reducible refine gate_dst (N := 2) rfl ?_); refine box_event ?hg (N := 2) ?hd (cs := #[.int .u8 a0_0, .string a0_1, .int .i64 a0_2, .int .i64 a0_3, .bool a0_4, .int .i64 a0_5, .int .i64 a0_6]) (t := 37) ?hr ?_; (case hd => rfl); (case hg => rfl); (case hr => first | (go_simp; done) | (go_simp; rfl)); intro gb168 hg w32 hbox hb; have n0_ := Aside0.mk (below_step (by repeat (first | (with_reducible first | exact HB.out | apply below_alloc | apply pw_below_drewN | apply below_drew1) | exact HB.out)) hb); have n1_ := Aside0.mk (hbox); have n2_ := Aside0.mk ((by rw [hg]; exact (below_size (by repeat (first | (with_reducible first | exact HB.out | apply below_alloc | apply pw_below_drewN | apply below_drew1) | exact HB.out))) : w.heap.size ≤ gb168)); have n3_ := Aside0.mk ((by rw [hg]; exact (below_size (by repeat (first | (with_reducible first | exact HB.out | apply below_alloc | apply pw_below_drewN | apply below_drew1) | exact HB.out))) : w.heap.size ≤ gb168)); clear HB; have HB := n0_; have BK168 := n1_; have GW168 := n2_; have GE168 := n3_; clear n0_ n1_ n2_ n3_; clear hb hbox hg) | ((with_reducible refine gate_dst (N := 3) rfl ?_); refine box_event ?hg (N := 3) ?hd (cs := #[.int .u8 a1_0, .string a1_1, .int .i64 a1_2, .int .i64 a1_3, .bool a1_4, .int .i64 a1_5, .int .i64 a1_6]) (t := 37) ?hr ?_; (case hd => rfl); (case hg => rfl); (case hr => first | (go_simp; done) | (go_simp; rfl)); intro gb169 hg w33 hbox hb; have n0_ := Aside0.mk (blk_below (g := gb168) (o := .cells #[.int .u8 a0_0, .string a0_1, .int .i64 a0_2, .int .i64 a0_3, .bool a0_4, .int .i64 a0_5, .int .i64 a0_6] 37 (0, 0)) (by (with_reducible repeat (first | refine blk_drewN ?_ _ | refine blk_drew ?_ | refine blk_alloc ?_ _)); exact BK168.out) hb); have n1_ := Aside0.mk (below_step (by repeat (first | (with_reducible first | exact HB.out | apply below_alloc | apply pw_below_drewN | apply below_drew1 | refine below_set ?_ GE168.out) | exact HB.out)) hb); have n2_ := Aside0.mk (hbox); have n3_ := Aside0.mk ((by rw [hg]; exact (below_size (by repeat (first | (with_reducible first | exact HB.out | apply below_alloc | apply pw_below_drewN | apply below_drew1 | refine below_set ?_ GE168.out) | exact HB.out))) : w.heap.size ≤ gb169)); have n4_ := Aside0.mk ((by rw [hg]; exact (below_size (by repeat (first | (with_reducible first | exact HB.out | apply below_alloc | apply pw_below_drewN | apply below_drew1 | refine below_set ?_ GE168.out) | exact HB.out))) : w.heap.size ≤ gb169)); have n5_ := Aside0.mk ((by rw [hg]; exact Nat.ne_of_lt (blk_lt (g := gb168) (o := .cells #[.int .u8 a0_0, .string a0_1, .int .i64 a0_2, .int .i64 a0_3, .bool a0_4, .int .i64 a0_5, .int .i64 a0_6] 37 (0, 0)) (by (with_reducible repeat (first | refine blk_drewN ?_ _ | refine blk_drew ?_ | refine blk_alloc ?_ _)); exact BK168.out)) : gb168 ≠ gb169)); have n6_ := Aside0.mk ((by rw [hg]; exact Nat.ne_of_gt (blk_lt (g := gb168) (o := .cells #[.int .u8 a0_0, .string a0_1, .int .i64 a0_2, .int .i64 a0_3, .bool a0_4, .int .i64 a0_5, .int .i64 a0_6] 37 (0, 0)) (by (with_reducible repeat (first | refine blk_drewN ?_ _ | refine blk_drew ?_ | refine blk_alloc ?_ _)); exact BK168.out)) : gb169 ≠ gb168)); clear BK168; clear HB; have BK168 := n0_; have HB := n1_; have BK169 := n2_; have GW169 := n3_; have GE169 := n4_; have NB168_169 := n5_; have NB169_168 := n6_; clear n0_ n1_ n2_ n3_ n4_ n5_ n6_; clear hb hbox hg; have hnb34 := NB168_169.out; have hnc34 := NB169_168.out; have hcz35_0 : w33.cell? ⟨gb168, 0, none⟩ = some (.int .u8 a0_0) := (blk_cell BK168.out 0).trans rfl; have hcz35_1 : w33.cell? ⟨gb168, 1, none⟩ = some (.string a0_1) := (blk_cell BK168.out 1).trans rfl; have hcz35_2 : w33.cell? ⟨gb168, 2, none⟩ = some (.int .i64 a0_2) := (blk_cell BK168.out 2).trans rfl; have hcz35_3 : w33.cell? ⟨gb168, 3, none⟩ = some (.int .i64 a0_3) := (blk_cell BK168.out 3).trans rfl; have hcz35_4 : w33.cell? ⟨gb168, 4, none⟩ = some (.bool a0_4) := (blk_cell BK168.out 4).trans rfl; have hcz35_5 : w33.cell? ⟨gb168, 5, none⟩ = some (.int .i64 a0_5) := (blk_cell BK168.out 5).trans rfl; have hcz35_6 : w33.cell? ⟨gb168, 6, none⟩ = some (.int .i64 a0_6) := (blk_cell BK168.out 6).trans rfl; have hfz35_0 := blk_frozen BK168.out 0; have hfz35_1 := blk_frozen BK168.out 1; have hfz35_2 := blk_frozen BK168.out 2; have hfz35_3 := blk_frozen BK168.out 3; have hfz35_4 := blk_frozen BK168.out 4; have hfz35_5 := blk_frozen BK168.out 5; have hfz35_6 := blk_frozen BK168.out 6; have hcz36_0 : w33.cell? ⟨gb169, 0, none⟩ = some (.int .u8 a1_0) := (blk_cell BK169.out 0).trans rfl; have hcz36_1 : w33.cell? ⟨gb169, 1, none⟩ = some (.string a1_1) := (blk_cell BK169.out 1).trans rfl; have hcz36_2 : w33.cell? ⟨gb169, 2, none⟩ = some (.int .i64 a1_2) := (blk_cell BK169.out 2).trans rfl; have hcz36_3 : w33.cell? ⟨gb169, 3, none⟩ = some (.int .i64 a1_3) := (blk_cell BK169.out 3).trans rfl; have hcz36_4 : w33.cell? ⟨gb169, 4, none⟩ = some (.bool a1_4) := (blk_cell BK169.out 4).trans rfl; have hcz36_5 : w33.cell? ⟨gb169, 5, none⟩ = some (.int .i64 a1_5) := (blk_cell BK169.out 5).trans rfl; have hcz36_6 : w33.cell? ⟨gb169, 6, none⟩ = some (.int .i64 a1_6) := (blk_cell BK169.out 6).trans rfl; have hfz36_0 := blk_frozen BK169.out 0; have hfz36_1 := blk_frozen BK169.out 1; have hfz36_2 := blk_frozen BK169.out 2; have hfz36_3 := blk_frozen BK169.out 3; have hfz36_4 := blk_frozen BK169.out 4; have hfz36_5 := blk_frozen BK169.out 5; have hfz36_6 := blk_frozen BK169.out 6))
                go_ret
                exact ⟨by first | rfl | (simp [errW_none, errW_some] <;> rfl) | (simp [*, errW_none, errW_some] <;> rfl), by repeat (first | (with_reducible first | exact HB.out | apply below_alloc | apply pw_below_drewN | apply below_drew1 | refine below_set ?_ GE168.out | refine below_set ?_ GE169.out) | exact HB.out)⟩
          · rw [if_neg c7] at H
            have c7b0 : (a0_5 == a1_5) = false := beq_eq_false_iff_ne.mpr c7
            have c7b1 : (a0_5 != a1_5) = true := bne_iff_ne.mpr c7
            obtain rfl := Option.some.inj H
            go_enter Tryd.func21, Tryd.ntmps21
            go_wp2_with (first | ((with_reducible refine gate_dst (N := 2) rfl ?_); refine box_event ?hg (N := 2) ?hd (cs := #[.int .u8 a0_0, .string a0_1, .int .i64 a0_2, .int .i64 a0_3, .bool a0_4, .int .i64 a0_5, .int .i64 a0_6]) (t := 37) ?hr ?_; (case hd => rfl); (case hg => rfl); (case hr => first | (go_simp; done) | (go_simp; rfl)); intro gb168 hg w37 hbox hb; have n0_ := Aside0.mk (below_step (by repeat (first | (with_reducible first | exact HB.out | apply below_alloc | apply pw_below_drewN | apply below_drew1) | exact HB.out)) hb); have n1_ := Aside0.mk (hbox); have n2_ := Aside0.mk ((by rw [hg]; exact (below_size (by repeat (first | (with_reducible first | exact HB.out | apply below_alloc | apply pw_below_drewN | apply below_drew1) | exact HB.out))) : w.heap.size ≤ gb168)); have n3_ := Aside0.mk ((by rw [hg]; exact (below_size (by repeat (first | (with_reducible first | exact HB.out | apply below_alloc | apply pw_below_drewN | apply below_drew1) | exact HB.out))) : w.heap.size ≤ gb168)); clear HB; have HB := n0_; have BK168 := n1_; have GW168 := n2_; have GE168 := n3_; clear n0_ n1_ n2_ n3_; clear hb hbox hg) | ((with_reducible refine gate_dst (N := 3) rfl ?_); refine box_event ?hg (N := 3) ?hd (cs := #[.int .u8 a1_0, .string a1_1, .int .i64 a1_2, .int .i64 a1_3, .bool a1_4, .int .i64 a1_5, .int .i64 a1_6]) (t := 37) ?hr ?_; (case hd => rfl); (case hg => rfl); (case hr => first | (go_simp; done) | (go_simp; rfl)); intro gb169 hg w38 hbox hb; have n0_ := Aside0.mk (blk_below (g := gb168) (o := .cells #[.int .u8 a0_0, .string a0_1, .int .i64 a0_2, .int .i64 a0_3, .bool a0_4, .int .i64 a0_5, .int .i64 a0_6] 37 (0, 0)) (by (with_reducible repeat (first | refine blk_drewN ?_ _ | refine blk_drew ?_ | refine blk_alloc ?_ _)); exact BK168.out) hb); have n1_ := Aside0.mk (below_step (by repeat (first | (with_reducible first | exact HB.out | apply below_alloc | apply pw_below_drewN | apply below_drew1 | refine below_set ?_ GE168.out) | exact HB.out)) hb); have n2_ := Aside0.mk (hbox); have n3_ := Aside0.mk ((by rw [hg]; exact (below_size (by repeat (first | (with_reducible first | exact HB.out | apply below_alloc | apply pw_below_drewN | apply below_drew1 | refine below_set ?_ GE168.out) | exact HB.out))) : w.heap.size ≤ gb169)); have n4_ := Aside0.mk ((by rw [hg]; exact (below_size (by repeat (first | (with_reducible first | exact HB.out | apply below_alloc | apply pw_below_drewN | apply below_drew1 | refine below_set ?_ GE168.out) | exact HB.out))) : w.heap.size ≤ gb169)); have n5_ := Aside0.mk ((by rw [hg]; exact Nat.ne_of_lt (blk_lt (g := gb168) (o := .cells #[.int .u8 a0_0, .string a0_1, .int .i64 a0_2, .int .i64 a0_3, .bool a0_4, .int .i64 a0_5, .int .i64 a0_6] 37 (0, 0)) (by (with_reducible repeat (first | refine blk_drewN ?_ _ | refine blk_drew ?_ | refine blk_alloc ?_ _)); exact BK168.out)) : gb168 ≠ gb169)); have n6_ := Aside0.mk ((by rw [hg]; exact Nat.ne_of_gt (blk_lt (g := gb168) (o := .cells #[.int .u8 a0_0, .string a0_1, .int .i64 a0_2, .int .i64 a0_3, .bool a0_4, .int .i64 a0_5, .int .i64 a0_6] 37 (0, 0)) (by (with_reducible repeat (first | refine blk_drewN ?_ _ | refine blk_drew ?_ | refine blk_alloc ?_ _)); exact BK168.out)) : gb169 ≠ gb168)); clear BK168; clear HB; have BK168 := n0_; have HB := n1_; have BK169 := n2_; have GW169 := n3_; have GE169 := n4_; have NB168_169 := n5_; have NB169_168 := n6_; clear n0_ n1_ n2_ n3_ n4_ n5_ n6_; clear hb hbox hg; have hnb39 := NB168_169.out; have hnc39 := NB169_168.out; have hcz40_0 : w38.cell? ⟨gb168, 0, none⟩ = some (.int .u8 a0_0) := (blk_cell BK168.out 0).trans rfl; have hcz40_1 : w38.cell? ⟨gb168, 1, none⟩ = some (.string a0_1) := (blk_cell BK168.out 1).trans rfl; have hcz40_2 : w38.cell? ⟨gb168, 2, none⟩ = some (.int .i64 a0_2) := (blk_cell BK168.out 2).trans rfl; have hcz40_3 : w38.cell? ⟨gb168, 3, none⟩ = some (.int .i64 a0_3) := (blk_cell BK168.out 3).trans rfl; have hcz40_4 : w38.cell? ⟨gb168, 4, none⟩ = some (.bool a0_4) := (blk_cell BK168.out 4).trans rfl; have hcz40_5 : w38.cell? ⟨gb168, 5, none⟩ = some (.int .i64 a0_5) := (blk_cell BK168.out 5).trans rfl; have hcz40_6 : w38.cell? ⟨gb168, 6, none⟩ = some (.int .i64 a0_6) := (blk_cell BK168.out 6).trans rfl; have hfz40_0 := blk_frozen BK168.out 0; have hfz40_1 := blk_frozen BK168.out 1; have hfz40_2 := blk_frozen BK168.out 2; have hfz40_3 := blk_frozen BK168.out 3; have hfz40_4 := blk_frozen BK168.out 4; have hfz40_5 := blk_frozen BK168.out 5; have hfz40_6 := blk_frozen BK168.out 6; have hcz41_0 : w38.cell? ⟨gb169, 0, none⟩ = some (.int .u8 a1_0) := (blk_cell BK169.out 0).trans rfl; have hcz41_1 : w38.cell? ⟨gb169, 1, none⟩ = some (.string a1_1) := (blk_cell BK169.out 1).trans rfl; have hcz41_2 : w38.cell? ⟨gb169, 2, none⟩ = some (.int .i64 a1_2) := (blk_cell BK169.out 2).trans rfl; have hcz41_3 : w38.cell? ⟨gb169, 3, none⟩ = some (.int .i64 a1_3) := (blk_cell BK169.out 3).trans rfl; have hcz41_4 : w38.cell? ⟨gb169, 4, none⟩ = some (.bool a1_4) := (blk_cell BK169.out 4).trans rfl; have hcz41_5 : w38.cell? ⟨gb169, 5, none⟩ = some (.int .i64 a1_5) := (blk_cell BK169.out 5).trans rfl; have hcz41_6 : w38.cell? ⟨gb169, 6, none⟩ = some (.int .i64 a1_6) := (blk_cell BK169.out 6).trans rfl; have hfz41_0 := blk_frozen BK169.out 0; have hfz41_1 := blk_frozen BK169.out 1; have hfz41_2 := blk_frozen BK169.out 2; have hfz41_3 := blk_frozen BK169.out 3; have hfz41_4 := blk_frozen BK169.out 4; have hfz41_5 := blk_frozen BK169.out 5; have hfz41_6 := blk_frozen BK169.out 6))
            go_ret
            exact ⟨by first | rfl | (simp [errW_none, errW_some] <;> rfl) | (simp [*, errW_none, errW_some] <;> rfl), by repeat (first | (with_reducible first | exact HB.out | apply below_alloc | apply pw_below_drewN | apply below_drew1 | refine below_set ?_ GE168.out | refine below_set ?_ GE169.out) | exact HB.out)⟩
        · rw [if_neg c6] at H
          have c6b0 : (a0_3 == a1_3) = false := beq_eq_false_iff_ne.mpr c6
          have c6b1 : (a0_3 != a1_3) = true := bne_iff_ne.mpr c6
          obtain rfl := Option.some.inj H
          go_enter Tryd.func21, Tryd.ntmps21
          go_wp2_with (first | ((with_reducible refine gate_dst (N := 2) rfl ?_); refine box_event ?hg (N := 2) ?hd (cs := #[.int .u8 a0_0, .string a0_1, .int .i64 a0_2, .int .i64 a0_3, .bool a0_4, .int .i64 a0_5, .int .i64 a0_6]) (t := 37) ?hr ?_; (case hd => rfl); (case hg => rfl); (case hr => first | (go_simp; done) | (go_simp; rfl)); intro gb168 hg w42 hbox hb; have n0_ := Aside0.mk (below_step (by repeat (first | (with_reducible first | exact HB.out | apply below_alloc | apply pw_below_drewN | apply below_drew1) | exact HB.out)) hb); have n1_ := Aside0.mk (hbox); have n2_ := Aside0.mk ((by rw [hg]; exact (below_size (by repeat (first | (with_reducible first | exact HB.out | apply below_alloc | apply pw_below_drewN | apply below_drew1) | exact HB.out))) : w.heap.size ≤ gb168)); have n3_ := Aside0.mk ((by rw [hg]; exact (below_size (by repeat (first | (with_reducible first | exact HB.out | apply below_alloc | apply pw_below_drewN | apply below_drew1) | exact HB.out))) : w.heap.size ≤ gb168)); clear HB; have HB := n0_; have BK168 := n1_; have GW168 := n2_; have GE168 := n3_; clear n0_ n1_ n2_ n3_; clear hb hbox hg) | ((with_reducible refine gate_dst (N := 3) rfl ?_); refine box_event ?hg (N := 3) ?hd (cs := #[.int .u8 a1_0, .string a1_1, .int .i64 a1_2, .int .i64 a1_3, .bool a1_4, .int .i64 a1_5, .int .i64 a1_6]) (t := 37) ?hr ?_; (case hd => rfl); (case hg => rfl); (case hr => first | (go_simp; done) | (go_simp; rfl)); intro gb169 hg w43 hbox hb; have n0_ := Aside0.mk (blk_below (g := gb168) (o := .cells #[.int .u8 a0_0, .string a0_1, .int .i64 a0_2, .int .i64 a0_3, .bool a0_4, .int .i64 a0_5, .int .i64 a0_6] 37 (0, 0)) (by (with_reducible repeat (first | refine blk_drewN ?_ _ | refine blk_drew ?_ | refine blk_alloc ?_ _)); exact BK168.out) hb); have n1_ := Aside0.mk (below_step (by repeat (first | (with_reducible first | exact HB.out | apply below_alloc | apply pw_below_drewN | apply below_drew1 | refine below_set ?_ GE168.out) | exact HB.out)) hb); have n2_ := Aside0.mk (hbox); have n3_ := Aside0.mk ((by rw [hg]; exact (below_size (by repeat (first | (with_reducible first | exact HB.out | apply below_alloc | apply pw_below_drewN | apply below_drew1 | refine below_set ?_ GE168.out) | exact HB.out))) : w.heap.size ≤ gb169)); have n4_ := Aside0.mk ((by rw [hg]; exact (below_size (by repeat (first | (with_reducible first | exact HB.out | apply below_alloc | apply pw_below_drewN | apply below_drew1 | refine below_set ?_ GE168.out) | exact HB.out))) : w.heap.size ≤ gb169)); have n5_ := Aside0.mk ((by rw [hg]; exact Nat.ne_of_lt (blk_lt (g := gb168) (o := .cells #[.int .u8 a0_0, .string a0_1, .int .i64 a0_2, .int .i64 a0_3, .bool a0_4, .int .i64 a0_5, .int .i64 a0_6] 37 (0, 0)) (by (with_reducible repeat (first | refine blk_drewN ?_ _ | refine blk_drew ?_ | refine blk_alloc ?_ _)); exact BK168.out)) : gb168 ≠ gb169)); have n6_ := Aside0.mk ((by rw [hg]; exact Nat.ne_of_gt (blk_lt (g := gb168) (o := .cells #[.int .u8 a0_0, .string a0_1, .int .i64 a0_2, .int .i64 a0_3, .bool a0_4, .int .i64 a0_5, .int .i64 a0_6] 37 (0, 0)) (by (with_reducible repeat (first | refine blk_drewN ?_ _ | refine blk_drew ?_ | refine blk_alloc ?_ _)); exact BK168.out)) : gb169 ≠ gb168)); clear BK168; clear HB; have BK168 := n0_; have HB := n1_; have BK169 := n2_; have GW169 := n3_; have GE169 := n4_; have NB168_169 := n5_; have NB169_168 := n6_; clear n0_ n1_ n2_ n3_ n4_ n5_ n6_; clear hb hbox hg; have hnb44 := NB168_169.out; have hnc44 := NB169_168.out; have hcz45_0 : w43.cell? ⟨gb168, 0, none⟩ = some (.int .u8 a0_0) := (blk_cell BK168.out 0).trans rfl; have hcz45_1 : w43.cell? ⟨gb168, 1, none⟩ = some (.string a0_1) := (blk_cell BK168.out 1).trans rfl; have hcz45_2 : w43.cell? ⟨gb168, 2, none⟩ = some (.int .i64 a0_2) := (blk_cell BK168.out 2).trans rfl; have hcz45_3 : w43.cell? ⟨gb168, 3, none⟩ = some (.int .i64 a0_3) := (blk_cell BK168.out 3).trans rfl; have hcz45_4 : w43.cell? ⟨gb168, 4, none⟩ = some (.bool a0_4) := (blk_cell BK168.out 4).trans rfl; have hcz45_5 : w43.cell? ⟨gb168, 5, none⟩ = some (.int .i64 a0_5) := (blk_cell BK168.out 5).trans rfl; have hcz45_6 : w43.cell? ⟨gb168, 6, none⟩ = some (.int .i64 a0_6) := (blk_cell BK168.out 6).trans rfl; have hfz45_0 := blk_frozen BK168.out 0; have hfz45_1 := blk_frozen BK168.out 1; have hfz45_2 := blk_frozen BK168.out 2; have hfz45_3 := blk_frozen BK168.out 3; have hfz45_4 := blk_frozen BK168.out 4; have hfz45_5 := blk_frozen BK168.out 5; have hfz45_6 := blk_frozen BK168.out 6; have hcz46_0 : w43.cell? ⟨gb169, 0, none⟩ = some (.int .u8 a1_0) := (blk_cell BK169.out 0).trans rfl; have hcz46_1 : w43.cell? ⟨gb169, 1, none⟩ = some (.string a1_1) := (blk_cell BK169.out 1).trans rfl; have hcz46_2 : w43.cell? ⟨gb169, 2, none⟩ = some (.int .i64 a1_2) := (blk_cell BK169.out 2).trans rfl; have hcz46_3 : w43.cell? ⟨gb169, 3, none⟩ = some (.int .i64 a1_3) := (blk_cell BK169.out 3).trans rfl; have hcz46_4 : w43.cell? ⟨gb169, 4, none⟩ = some (.bool a1_4) := (blk_cell BK169.out 4).trans rfl; have hcz46_5 : w43.cell? ⟨gb169, 5, none⟩ = some (.int .i64 a1_5) := (blk_cell BK169.out 5).trans rfl; have hcz46_6 : w43.cell? ⟨gb169, 6, none⟩ = some (.int .i64 a1_6) := (blk_cell BK169.out 6).trans rfl; have hfz46_0 := blk_frozen BK169.out 0; have hfz46_1 := blk_frozen BK169.out 1; have hfz46_2 := blk_frozen BK169.out 2; have hfz46_3 := blk_frozen BK169.out 3; have hfz46_4 := blk_frozen BK169.out 4; have hfz46_5 := blk_frozen BK169.out 5; have hfz46_6 := blk_frozen BK169.out 6))
          go_ret
          exact ⟨by first | rfl | (simp [errW_none, errW_some] <;> rfl) | (simp [*, errW_none, errW_some] <;> rfl), by repeat (first | (with_reducible first | exact HB.out | apply below_alloc | apply pw_below_drewN | apply below_drew1 | refine below_set ?_ GE168.out | refine below_set ?_ GE169.out) | exact HB.out)⟩
      · rw [if_neg c5] at H
        have c5b0 : (a0_2 == a1_2) = false := beq_eq_false_iff_ne.mpr c5
        have c5b1 : (a0_2 != a1_2) = true := bne_iff_ne.mpr c5
        obtain rfl := Option.some.inj H
        go_enter Tryd.func21, Tryd.ntmps21
        go_wp2_with (first | ((with_reducible refine gate_dst (N := 2) rfl ?_); refine box_event ?hg (N := 2) ?hd (cs := #[.int .u8 a0_0, .string a0_1, .int .i64 a0_2, .int .i64 a0_3, .bool a0_4, .int .i64 a0_5, .int .i64 a0_6]) (t := 37) ?hr ?_; (case hd => rfl); (case hg => rfl); (case hr => first | (go_simp; done) | (go_simp; rfl)); intro gb168 hg w47 hbox hb; have n0_ := Aside0.mk (below_step (by repeat (first | (with_reducible first | exact HB.out | apply below_alloc | apply pw_below_drewN | apply below_drew1) | exact HB.out)) hb); have n1_ := Aside0.mk (hbox); have n2_ := Aside0.mk ((by rw [hg]; exact (below_size (by repeat (first | (with_reducible first | exact HB.out | apply below_alloc | apply pw_below_drewN | apply below_drew1) | exact HB.out))) : w.heap.size ≤ gb168)); have n3_ := Aside0.mk ((by rw [hg]; exact (below_size (by repeat (first | (with_reducible first | exact HB.out | apply below_alloc | apply pw_below_drewN | apply below_drew1) | exact HB.out))) : w.heap.size ≤ gb168)); clear HB; have HB := n0_; have BK168 := n1_; have GW168 := n2_; have GE168 := n3_; clear n0_ n1_ n2_ n3_; clear hb hbox hg) | ((with_reducible refine gate_dst (N := 3) rfl ?_); refine box_event ?hg (N := 3) ?hd (cs := #[.int .u8 a1_0, .string a1_1, .int .i64 a1_2, .int .i64 a1_3, .bool a1_4, .int .i64 a1_5, .int .i64 a1_6]) (t := 37) ?hr ?_; (case hd => rfl); (case hg => rfl); (case hr => first | (go_simp; done) | (go_simp; rfl)); intro gb169 hg w48 hbox hb; have n0_ := Aside0.mk (blk_below (g := gb168) (o := .cells #[.int .u8 a0_0, .string a0_1, .int .i64 a0_2, .int .i64 a0_3, .bool a0_4, .int .i64 a0_5, .int .i64 a0_6] 37 (0, 0)) (by (with_reducible repeat (first | refine blk_drewN ?_ _ | refine blk_drew ?_ | refine blk_alloc ?_ _)); exact BK168.out) hb); have n1_ := Aside0.mk (below_step (by repeat (first | (with_reducible first | exact HB.out | apply below_alloc | apply pw_below_drewN | apply below_drew1 | refine below_set ?_ GE168.out) | exact HB.out)) hb); have n2_ := Aside0.mk (hbox); have n3_ := Aside0.mk ((by rw [hg]; exact (below_size (by repeat (first | (with_reducible first | exact HB.out | apply below_alloc | apply pw_below_drewN | apply below_drew1 | refine below_set ?_ GE168.out) | exact HB.out))) : w.heap.size ≤ gb169)); have n4_ := Aside0.mk ((by rw [hg]; exact (below_size (by repeat (first | (with_reducible first | exact HB.out | apply below_alloc | apply pw_below_drewN | apply below_drew1 | refine below_set ?_ GE168.out) | exact HB.out))) : w.heap.size ≤ gb169)); have n5_ := Aside0.mk ((by rw [hg]; exact Nat.ne_of_lt (blk_lt (g := gb168) (o := .cells #[.int .u8 a0_0, .string a0_1, .int .i64 a0_2, .int .i64 a0_3, .bool a0_4, .int .i64 a0_5, .int .i64 a0_6] 37 (0, 0)) (by (with_reducible repeat (first | refine blk_drewN ?_ _ | refine blk_drew ?_ | refine blk_alloc ?_ _)); exact BK168.out)) : gb168 ≠ gb169)); have n6_ := Aside0.mk ((by rw [hg]; exact Nat.ne_of_gt (blk_lt (g := gb168) (o := .cells #[.int .u8 a0_0, .string a0_1, .int .i64 a0_2, .int .i64 a0_3, .bool a0_4, .int .i64 a0_5, .int .i64 a0_6] 37 (0, 0)) (by (with_reducible repeat (first | refine blk_drewN ?_ _ | refine blk_drew ?_ | refine blk_alloc ?_ _)); exact BK168.out)) : gb169 ≠ gb168)); clear BK168; clear HB; have BK168 := n0_; have HB := n1_; have BK169 := n2_; have GW169 := n3_; have GE169 := n4_; have NB168_169 := n5_; have NB169_168 := n6_; clear n0_ n1_ n2_ n3_ n4_ n5_ n6_; clear hb hbox hg; have hnb49 := NB168_169.out; have hnc49 := NB169_168.out; have hcz50_0 : w48.cell? ⟨gb168, 0, none⟩ = some (.int .u8 a0_0) := (blk_cell BK168.out 0).trans rfl; have hcz50_1 : w48.cell? ⟨gb168, 1, none⟩ = some (.string a0_1) := (blk_cell BK168.out 1).trans rfl; have hcz50_2 : w48.cell? ⟨gb168, 2, none⟩ = some (.int .i64 a0_2) := (blk_cell BK168.out 2).trans rfl; have hcz50_3 : w48.cell? ⟨gb168, 3, none⟩ = some (.int .i64 a0_3) := (blk_cell BK168.out 3).trans rfl; have hcz50_4 : w48.cell? ⟨gb168, 4, none⟩ = some (.bool a0_4) := (blk_cell BK168.out 4).trans rfl; have hcz50_5 : w48.cell? ⟨gb168, 5, none⟩ = some (.int .i64 a0_5) := (blk_cell BK168.out 5).trans rfl; have hcz50_6 : w48.cell? ⟨gb168, 6, none⟩ = some (.int .i64 a0_6) := (blk_cell BK168.out 6).trans rfl; have hfz50_0 := blk_frozen BK168.out 0; have hfz50_1 := blk_frozen BK168.out 1; have hfz50_2 := blk_frozen BK168.out 2; have hfz50_3 := blk_frozen BK168.out 3; have hfz50_4 := blk_frozen BK168.out 4; have hfz50_5 := blk_frozen BK168.out 5; have hfz50_6 := blk_frozen BK168.out 6; have hcz51_0 : w48.cell? ⟨gb169, 0, none⟩ = some (.int .u8 a1_0) := (blk_cell BK169.out 0).trans rfl; have hcz51_1 : w48.cell? ⟨gb169, 1, none⟩ = some (.string a1_1) := (blk_cell BK169.out 1).trans rfl; have hcz51_2 : w48.cell? ⟨gb169, 2, none⟩ = some (.int .i64 a1_2) := (blk_cell BK169.out 2).trans rfl; have hcz51_3 : w48.cell? ⟨gb169, 3, none⟩ = some (.int .i64 a1_3) := (blk_cell BK169.out 3).trans rfl; have hcz51_4 : w48.cell? ⟨gb169, 4, none⟩ = some (.bool a1_4) := (blk_cell BK169.out 4).trans rfl; have hcz51_5 : w48.cell? ⟨gb169, 5, none⟩ = some (.int .i64 a1_5) := (blk_cell BK169.out 5).trans rfl; have hcz51_6 : w48.cell? ⟨gb169, 6, none⟩ = some (.int .i64 a1_6) := (blk_cell BK169.out 6).trans rfl; have hfz51_0 := blk_frozen BK169.out 0; have hfz51_1 := blk_frozen BK169.out 1; have hfz51_2 := blk_frozen BK169.out 2; have hfz51_3 := blk_frozen BK169.out 3; have hfz51_4 := blk_frozen BK169.out 4; have hfz51_5 := blk_frozen BK169.out 5; have hfz51_6 := blk_frozen BK169.out 6))
        go_ret
        exact ⟨by first | rfl | (simp [errW_none, errW_some] <;> rfl) | (simp [*, errW_none, errW_some] <;> rfl), by repeat (first | (with_reducible first | exact HB.out | apply below_alloc | apply pw_below_drewN | apply below_drew1 | refine below_set ?_ GE168.out | refine below_set ?_ GE169.out) | exact HB.out)⟩
    · rw [if_neg c4] at H
      have c4b0 : (a0_1.toList == a1_1.toList) = false := beq_eq_false_iff_ne.mpr c4
      have c4b1 : (a0_1.toList != a1_1.toList) = true := bne_iff_ne.mpr c4
      obtain rfl := Option.some.inj H
      go_enter Tryd.func21, Tryd.ntmps21
      go_wp2_with (first | ((with_reducible refine gate_dst (N := 2) rfl ?_); refine box_event ?hg (N := 2) ?hd (cs := #[.int .u8 a0_0, .string a0_1, .int .i64 a0_2, .int .i64 a0_3, .bool a0_4, .int .i64 a0_5, .int .i64 a0_6]) (t := 37) ?hr ?_; (case hd => rfl); (case hg => rfl); (case hr => first | (go_simp; done) | (go_simp; rfl)); intro gb168 hg w52 hbox hb; have n0_ := Aside0.mk (below_step (by repeat (first | (with_reducible first | exact HB.out | apply below_alloc | apply pw_below_drewN | apply below_drew1) | exact HB.out)) hb); have n1_ := Aside0.mk (hbox); have n2_ := Aside0.mk ((by rw [hg]; exact (below_size (by repeat (first | (with_reducible first | exact HB.out | apply below_alloc | apply pw_below_drewN | apply below_drew1) | exact HB.out))) : w.heap.size ≤ gb168)); have n3_ := Aside0.mk ((by rw [hg]; exact (below_size (by repeat (first | (with_reducible first | exact HB.out | apply below_alloc | apply pw_below_drewN | apply below_drew1) | exact HB.out))) : w.heap.size ≤ gb168)); clear HB; have HB := n0_; have BK168 := n1_; have GW168 := n2_; have GE168 := n3_; clear n0_ n1_ n2_ n3_; clear hb hbox hg) | ((with_reducible refine gate_dst (N := 3) rfl ?_); refine box_event ?hg (N := 3) ?hd (cs := #[.int .u8 a1_0, .string a1_1, .int .i64 a1_2, .int .i64 a1_3, .bool a1_4, .int .i64 a1_5, .int .i64 a1_6]) (t := 37) ?hr ?_; (case hd => rfl); (case hg => rfl); (case hr => first | (go_simp; done) | (go_simp; rfl)); intro gb169 hg w53 hbox hb; have n0_ := Aside0.mk (blk_below (g := gb168) (o := .cells #[.int .u8 a0_0, .string a0_1, .int .i64 a0_2, .int .i64 a0_3, .bool a0_4, .int .i64 a0_5, .int .i64 a0_6] 37 (0, 0)) (by (with_reducible repeat (first | refine blk_drewN ?_ _ | refine blk_drew ?_ | refine blk_alloc ?_ _)); exact BK168.out) hb); have n1_ := Aside0.mk (below_step (by repeat (first | (with_reducible first | exact HB.out | apply below_alloc | apply pw_below_drewN | apply below_drew1 | refine below_set ?_ GE168.out) | exact HB.out)) hb); have n2_ := Aside0.mk (hbox); have n3_ := Aside0.mk ((by rw [hg]; exact (below_size (by repeat (first | (with_reducible first | exact HB.out | apply below_alloc | apply pw_below_drewN | apply below_drew1 | refine below_set ?_ GE168.out) | exact HB.out))) : w.heap.size ≤ gb169)); have n4_ := Aside0.mk ((by rw [hg]; exact (below_size (by repeat (first | (with_reducible first | exact HB.out | apply below_alloc | apply pw_below_drewN | apply below_drew1 | refine below_set ?_ GE168.out) | exact HB.out))) : w.heap.size ≤ gb169)); have n5_ := Aside0.mk ((by rw [hg]; exact Nat.ne_of_lt (blk_lt (g := gb168) (o := .cells #[.int .u8 a0_0, .string a0_1, .int .i64 a0_2, .int .i64 a0_3, .bool a0_4, .int .i64 a0_5, .int .i64 a0_6] 37 (0, 0)) (by (with_reducible repeat (first | refine blk_drewN ?_ _ | refine blk_drew ?_ | refine blk_alloc ?_ _)); exact BK168.out)) : gb168 ≠ gb169)); have n6_ := Aside0.mk ((by rw [hg]; exact Nat.ne_of_gt (blk_lt (g := gb168) (o := .cells #[.int .u8 a0_0, .string a0_1, .int .i64 a0_2, .int .i64 a0_3, .bool a0_4, .int .i64 a0_5, .int .i64 a0_6] 37 (0, 0)) (by (with_reducible repeat (first | refine blk_drewN ?_ _ | refine blk_drew ?_ | refine blk_alloc ?_ _)); exact BK168.out)) : gb169 ≠ gb168)); clear BK168; clear HB; have BK168 := n0_; have HB := n1_; have BK169 := n2_; have GW169 := n3_; have GE169 := n4_; have NB168_169 := n5_; have NB169_168 := n6_; clear n0_ n1_ n2_ n3_ n4_ n5_ n6_; clear hb hbox hg; have hnb54 := NB168_169.out; have hnc54 := NB169_168.out; have hcz55_0 : w53.cell? ⟨gb168, 0, none⟩ = some (.int .u8 a0_0) := (blk_cell BK168.out 0).trans rfl; have hcz55_1 : w53.cell? ⟨gb168, 1, none⟩ = some (.string a0_1) := (blk_cell BK168.out 1).trans rfl; have hcz55_2 : w53.cell? ⟨gb168, 2, none⟩ = some (.int .i64 a0_2) := (blk_cell BK168.out 2).trans rfl; have hcz55_3 : w53.cell? ⟨gb168, 3, none⟩ = some (.int .i64 a0_3) := (blk_cell BK168.out 3).trans rfl; have hcz55_4 : w53.cell? ⟨gb168, 4, none⟩ = some (.bool a0_4) := (blk_cell BK168.out 4).trans rfl; have hcz55_5 : w53.cell? ⟨gb168, 5, none⟩ = some (.int .i64 a0_5) := (blk_cell BK168.out 5).trans rfl; have hcz55_6 : w53.cell? ⟨gb168, 6, none⟩ = some (.int .i64 a0_6) := (blk_cell BK168.out 6).trans rfl; have hfz55_0 := blk_frozen BK168.out 0; have hfz55_1 := blk_frozen BK168.out 1; have hfz55_2 := blk_frozen BK168.out 2; have hfz55_3 := blk_frozen BK168.out 3; have hfz55_4 := blk_frozen BK168.out 4; have hfz55_5 := blk_frozen BK168.out 5; have hfz55_6 := blk_frozen BK168.out 6; have hcz56_0 : w53.cell? ⟨gb169, 0, none⟩ = some (.int .u8 a1_0) := (blk_cell BK169.out 0).trans rfl; have hcz56_1 : w53.cell? ⟨gb169, 1, none⟩ = some (.string a1_1) := (blk_cell BK169.out 1).trans rfl; have hcz56_2 : w53.cell? ⟨gb169, 2, none⟩ = some (.int .i64 a1_2) := (blk_cell BK169.out 2).trans rfl; have hcz56_3 : w53.cell? ⟨gb169, 3, none⟩ = some (.int .i64 a1_3) := (blk_cell BK169.out 3).trans rfl; have hcz56_4 : w53.cell? ⟨gb169, 4, none⟩ = some (.bool a1_4) := (blk_cell BK169.out 4).trans rfl; have hcz56_5 : w53.cell? ⟨gb169, 5, none⟩ = some (.int .i64 a1_5) := (blk_cell BK169.out 5).trans rfl; have hcz56_6 : w53.cell? ⟨gb169, 6, none⟩ = some (.int .i64 a1_6) := (blk_cell BK169.out 6).trans rfl; have hfz56_0 := blk_frozen BK169.out 0; have hfz56_1 := blk_frozen BK169.out 1; have hfz56_2 := blk_frozen BK169.out 2; have hfz56_3 := blk_frozen BK169.out 3; have hfz56_4 := blk_frozen BK169.out 4; have hfz56_5 := blk_frozen BK169.out 5; have hfz56_6 := blk_frozen BK169.out 6))
      go_ret
      exact ⟨by first | rfl | (simp [errW_none, errW_some] <;> rfl) | (simp [*, errW_none, errW_some] <;> rfl), by repeat (first | (with_reducible first | exact HB.out | apply below_alloc | apply pw_below_drewN | apply below_drew1 | refine below_set ?_ GE168.out | refine below_set ?_ GE169.out) | exact HB.out)⟩
  · rw [if_neg c3] at H
    have c3b0 : (a0_0 == a1_0) = false := beq_eq_false_iff_ne.mpr c3
    have c3b1 : (a0_0 != a1_0) = true := bne_iff_ne.mpr c3
    obtain rfl := Option.some.inj H
    go_enter Tryd.func21, Tryd.ntmps21
    go_wp2_with (first | ((with_reducible refine gate_dst (N := 2) rfl ?_); refine box_event ?hg (N := 2) ?hd (cs := #[.int .u8 a0_0, .string a0_1, .int .i64 a0_2, .int .i64 a0_3, .bool a0_4, .int .i64 a0_5, .int .i64 a0_6]) (t := 37) ?hr ?_; (case hd => rfl); (case hg => rfl); (case hr => first | (go_simp; done) | (go_simp; rfl)); intro gb168 hg w57 hbox hb; have n0_ := Aside0.mk (below_step (by repeat (first | (with_reducible first | exact HB.out | apply below_alloc | apply pw_below_drewN | apply below_drew1) | exact HB.out)) hb); have n1_ := Aside0.mk (hbox); have n2_ := Aside0.mk ((by rw [hg]; exact (below_size (by repeat (first | (with_reducible first | exact HB.out | apply below_alloc | apply pw_below_drewN | apply below_drew1) | exact HB.out))) : w.heap.size ≤ gb168)); have n3_ := Aside0.mk ((by rw [hg]; exact (below_size (by repeat (first | (with_reducible first | exact HB.out | apply below_alloc | apply pw_below_drewN | apply below_drew1) | exact HB.out))) : w.heap.size ≤ gb168)); clear HB; have HB := n0_; have BK168 := n1_; have GW168 := n2_; have GE168 := n3_; clear n0_ n1_ n2_ n3_; clear hb hbox hg) | ((with_reducible refine gate_dst (N := 3) rfl ?_); refine box_event ?hg (N := 3) ?hd (cs := #[.int .u8 a1_0, .string a1_1, .int .i64 a1_2, .int .i64 a1_3, .bool a1_4, .int .i64 a1_5, .int .i64 a1_6]) (t := 37) ?hr ?_; (case hd => rfl); (case hg => rfl); (case hr => first | (go_simp; done) | (go_simp; rfl)); intro gb169 hg w58 hbox hb; have n0_ := Aside0.mk (blk_below (g := gb168) (o := .cells #[.int .u8 a0_0, .string a0_1, .int .i64 a0_2, .int .i64 a0_3, .bool a0_4, .int .i64 a0_5, .int .i64 a0_6] 37 (0, 0)) (by (with_reducible repeat (first | refine blk_drewN ?_ _ | refine blk_drew ?_ | refine blk_alloc ?_ _)); exact BK168.out) hb); have n1_ := Aside0.mk (below_step (by repeat (first | (with_reducible first | exact HB.out | apply below_alloc | apply pw_below_drewN | apply below_drew1 | refine below_set ?_ GE168.out) | exact HB.out)) hb); have n2_ := Aside0.mk (hbox); have n3_ := Aside0.mk ((by rw [hg]; exact (below_size (by repeat (first | (with_reducible first | exact HB.out | apply below_alloc | apply pw_below_drewN | apply below_drew1 | refine below_set ?_ GE168.out) | exact HB.out))) : w.heap.size ≤ gb169)); have n4_ := Aside0.mk ((by rw [hg]; exact (below_size (by repeat (first | (with_reducible first | exact HB.out | apply below_alloc | apply pw_below_drewN | apply below_drew1 | refine below_set ?_ GE168.out) | exact HB.out))) : w.heap.size ≤ gb169)); have n5_ := Aside0.mk ((by rw [hg]; exact Nat.ne_of_lt (blk_lt (g := gb168) (o := .cells #[.int .u8 a0_0, .string a0_1, .int .i64 a0_2, .int .i64 a0_3, .bool a0_4, .int .i64 a0_5, .int .i64 a0_6] 37 (0, 0)) (by (with_reducible repeat (first | refine blk_drewN ?_ _ | refine blk_drew ?_ | refine blk_alloc ?_ _)); exact BK168.out)) : gb168 ≠ gb169)); have n6_ := Aside0.mk ((by rw [hg]; exact Nat.ne_of_gt (blk_lt (g := gb168) (o := .cells #[.int .u8 a0_0, .string a0_1, .int .i64 a0_2, .int .i64 a0_3, .bool a0_4, .int .i64 a0_5, .int .i64 a0_6] 37 (0, 0)) (by (with_reducible repeat (first | refine blk_drewN ?_ _ | refine blk_drew ?_ | refine blk_alloc ?_ _)); exact BK168.out)) : gb169 ≠ gb168)); clear BK168; clear HB; have BK168 := n0_; have HB := n1_; have BK169 := n2_; have GW169 := n3_; have GE169 := n4_; have NB168_169 := n5_; have NB169_168 := n6_; clear n0_ n1_ n2_ n3_ n4_ n5_ n6_; clear hb hbox hg; have hnb59 := NB168_169.out; have hnc59 := NB169_168.out; have hcz60_0 : w58.cell? ⟨gb168, 0, none⟩ = some (.int .u8 a0_0) := (blk_cell BK168.out 0).trans rfl; have hcz60_1 : w58.cell? ⟨gb168, 1, none⟩ = some (.string a0_1) := (blk_cell BK168.out 1).trans rfl; have hcz60_2 : w58.cell? ⟨gb168, 2, none⟩ = some (.int .i64 a0_2) := (blk_cell BK168.out 2).trans rfl; have hcz60_3 : w58.cell? ⟨gb168, 3, none⟩ = some (.int .i64 a0_3) := (blk_cell BK168.out 3).trans rfl; have hcz60_4 : w58.cell? ⟨gb168, 4, none⟩ = some (.bool a0_4) := (blk_cell BK168.out 4).trans rfl; have hcz60_5 : w58.cell? ⟨gb168, 5, none⟩ = some (.int .i64 a0_5) := (blk_cell BK168.out 5).trans rfl; have hcz60_6 : w58.cell? ⟨gb168, 6, none⟩ = some (.int .i64 a0_6) := (blk_cell BK168.out 6).trans rfl; have hfz60_0 := blk_frozen BK168.out 0; have hfz60_1 := blk_frozen BK168.out 1; have hfz60_2 := blk_frozen BK168.out 2; have hfz60_3 := blk_frozen BK168.out 3; have hfz60_4 := blk_frozen BK168.out 4; have hfz60_5 := blk_frozen BK168.out 5; have hfz60_6 := blk_frozen BK168.out 6; have hcz61_0 : w58.cell? ⟨gb169, 0, none⟩ = some (.int .u8 a1_0) := (blk_cell BK169.out 0).trans rfl; have hcz61_1 : w58.cell? ⟨gb169, 1, none⟩ = some (.string a1_1) := (blk_cell BK169.out 1).trans rfl; have hcz61_2 : w58.cell? ⟨gb169, 2, none⟩ = some (.int .i64 a1_2) := (blk_cell BK169.out 2).trans rfl; have hcz61_3 : w58.cell? ⟨gb169, 3, none⟩ = some (.int .i64 a1_3) := (blk_cell BK169.out 3).trans rfl; have hcz61_4 : w58.cell? ⟨gb169, 4, none⟩ = some (.bool a1_4) := (blk_cell BK169.out 4).trans rfl; have hcz61_5 : w58.cell? ⟨gb169, 5, none⟩ = some (.int .i64 a1_5) := (blk_cell BK169.out 5).trans rfl; have hcz61_6 : w58.cell? ⟨gb169, 6, none⟩ = some (.int .i64 a1_6) := (blk_cell BK169.out 6).trans rfl; have hfz61_0 := blk_frozen BK169.out 0; have hfz61_1 := blk_frozen BK169.out 1; have hfz61_2 := blk_frozen BK169.out 2; have hfz61_3 := blk_frozen BK169.out 3; have hfz61_4 := blk_frozen BK169.out 4; have hfz61_5 := blk_frozen BK169.out 5; have hfz61_6 := blk_frozen BK169.out 6))
    go_ret
    exact ⟨by first | rfl | (simp [errW_none, errW_some] <;> rfl) | (simp [*, errW_none, errW_some] <;> rfl), by repeat (first | (with_reducible first | exact HB.out | apply below_alloc | apply pw_below_drewN | apply below_drew1 | refine below_set ?_ GE168.out | refine below_set ?_ GE169.out) | exact HB.out)⟩

end Go.Proofs.YtekmminmgjoabaaDoor.PFnJSTokens


namespace Go.Proofs.YtekmminmgjoabaaDoor.Js
open Go.RowKit Go.Proofs.YtekmminmgjoabaaDoorW.PrintWords Go.Proofs.YtekmminmgjoabaaDoorW.PrintLast Go.Proofs.YtekmminmgjoabaaDoorW.PrintMore Go.Proofs.YtekmminmgjoabaaDoor.PFnJSTokens
set_option linter.unusedVariables false
set_option linter.unusedSimpArgs false
def prn (c : Int) : Bool := decide (32 ≤ c) && decide (c ≤ 126)
theorem print_l (zs : List Int) (hb : Bytes zs) (hl : zs.length < 9000000000000000000) : ∀ (m i : Nat), i + m = zs.length → ascii_ValidPrintString.l0 (m + 1) (strOfNums zs) (i : Int) = some ((zs.drop i).all prn) := by
  intro m
  induction m with
  | zero =>
    intro i hi
    rw [ascii_ValidPrintString.l0, if_neg (by rw [strOf_size]; omega), List.drop_eq_nil_of_le (by omega)]
    rfl
  | succ m ih =>
    intro i hi
    have hil : i < zs.length := by omega
    have hbt : bt (strOfNums zs) (i : Int) = zs[i] := by
      have h1 : ((i : Int)).toNat < (strOfNums zs).size := by rw [strOf_size]; omega
      rw [← bt_at _ _ h1]
      have h2 := hb zs[i] (List.getElem_mem hil)
      show (((zs.map fun n => UInt8.ofNat n.toNat)[((i : Int)).toNat]'(by simpa using hil)).toNat : Int) = zs[i]
      simp only [Int.toNat_natCast, List.getElem_map, UInt8.toNat_ofNat']
      omega
    have hw : wrap64 ((i : Int) + 1) = ((i + 1 : Nat) : Int) := by unfold wrap64; omega
    rw [ascii_ValidPrintString.l0, if_pos (by rw [strOf_size]; omega), if_pos (by omega), hbt, hw, List.drop_eq_getElem_cons hil, List.all_cons, ih (i + 1) (by omega)]
    unfold ascii_ValidPrintByte.f prn
    by_cases h1 : 32 ≤ zs[i]
    · by_cases h2 : zs[i] ≤ 126
      · simp [h1, h2, prn]
      · simp [h1, h2, prn]
    · simp [h1, prn]
theorem print_calls (w : World) (B : Nat) (A : Option Addr) (n c : Nat) (zs : List Int) (h : Sl w B (.slice A n c) zs) (hb : Bytes zs) (hl : zs.length < 9000000000000000000) :
    Calls Tryd.prog 111 #[.slice A n c] w fun e w' => e = .returned (.bool (zs.all prn)) ∧ Below w.heap.size w w' := by
  obtain ⟨rfl, hnc, hC, -⟩ := h.cut
  refine (ascii_ValidPrint_111.calls (zs.length + 1) A c zs (zs.all prn) w hC hnc ?_).mono ?_
  · unfold ascii_ValidPrint_111.f ascii_ValidPrint_146.f ascii_ValidPrintString.f
    have := print_l zs hb hl zs.length 0 (by omega)
    rw [Int.natCast_zero, List.drop_zero] at this
    rw [show ascii_ValidPrintString.l0 (zs.length + 1) (strOfNums zs) 0 = some (zs.all prn) from this]
    rfl
  · rintro e w' ⟨rfl, hd⟩
    exact ⟨rfl, hd.below⟩
def flg (p q : Bool) : Int := (if p then 268435456 else 0) + (if q then 1073741824 else 0)
/-- What the flags of a text say. -/
def FlagsOk (zs : List Int) (p q : Bool) : Prop := (p = true → ∀ c ∈ zs, isSp c = true ∨ prn c = true) ∧ (q = true → 92 ∉ zs)
theorem idx_none (c : Int) : ∀ zs : List Int, idx zs c = -1 ↔ c ∉ zs := by
  intro zs
  induction zs with
  | nil => simp [idx]
  | cons b l ih =>
    have hge : ∀ l : List Int, -1 ≤ idx l c := by
      intro l
      induction l with
      | nil => exact Int.le_refl _
      | cons b l ih =>
        rw [idx]; split
        · decide
        · split
          · decide
          · omega
    rw [idx]
    by_cases h : b = c
    · simp [h]
    · rw [if_neg h, List.mem_cons]
      have h' : ¬ c = b := fun e => h e.symm
      have h2 := hge l
      by_cases h3 : idx l c = -1
      · rw [if_pos h3]; simp [h', ih.1 h3]
      · rw [if_neg h3]
        have : c ∈ l := by
          apply Classical.byContradiction
          intro h4
          exact h3 (ih.2 h4)
        simp [h', this]
        omega
theorem skip_parts : ∀ zs : List Int, ∀ c ∈ zs, isSp c = true ∨ c ∈ skipF zs := by
  intro zs
  induction zs with
  | nil => intro c h; simp at h
  | cons b l ih =>
    intro c hc
    by_cases hb : isSp b = true
    · have e : skipF (b :: l) = skipF l := by simp [skipF, hb]
      rw [e]
      rcases List.mem_cons.1 hc with rfl | h
      · exact .inl hb
      · exact ih c h
    · have e : skipF (b :: l) = b :: l := by simp [skipF, hb]
      rw [e]
      exact .inr hc
theorem trim_parts {zs ys : List Int} (h : Trimmed zs ys) : ∀ c ∈ zs, isSp c = true ∨ c ∈ ys := by
  obtain ⟨m, h1, h2, rfl⟩ := h
  intro c hc
  obtain ⟨i, hi, rfl⟩ := List.getElem_of_mem hc
  by_cases him : i < m
  · exact .inr (List.mem_take_iff_getElem.2 ⟨i, by omega, rfl⟩)
  · have := h2 i (by omega) hi
    rw [List.getD_eq_getElem?_getD, List.getElem?_eq_getElem hi] at this
    exact .inl this
theorem flags_ok {zs ys : List Int} (h : Trimmed (skipF zs) ys) : FlagsOk zs (ys.all prn) (decide (idx ys 92 = -1)) := by
  have hp : ∀ c ∈ zs, isSp c = true ∨ c ∈ ys := fun c hc => by
    rcases skip_parts zs c hc with h1 | h1
    · exact .inl h1
    · exact trim_parts h c h1
  refine ⟨fun hq c hc => ?_, fun hq hc => ?_⟩
  · rcases hp c hc with h1 | h1
    · exact .inl h1
    · exact .inr (List.all_eq_true.1 hq c h1)
  · rcases hp 92 hc with h1 | h1
    · simp [isSp] at h1
    · exact (idx_none 92 ys).1 (of_decide_eq_true hq) h1
theorem Bytes.sub {zs ys : List Int} (h : Bytes zs) (hs : ∀ c ∈ ys, c ∈ zs) : Bytes ys := fun c hc => h c (hs c hc)
theorem skip_sub (zs : List Int) : ∀ c ∈ skipF zs, c ∈ zs := fun c hc => (List.dropWhile_sublist _).subset hc
theorem trim_sub {zs ys : List Int} (h : Trimmed zs ys) : ∀ c ∈ ys, c ∈ zs := by
  obtain ⟨m, h1, h2, rfl⟩ := h
  exact fun c hc => List.mem_of_mem_take hc
set_option maxHeartbeats 4000000 in
set_option maxRecDepth 100000 in
theorem flags_calls (w : World) (B : Nat) (A : Option Addr) (n c : Nat) (zs : List Int) (h : Sl w B (.slice A n c) zs) (hb : Bytes zs) (hB : B ≤ w.heap.size) (hl : zs.length < 9000000000000000000) :
    Calls Tryd.prog 79 #[.slice A n c] w fun e w' => ∃ p q, e = .returned (.int .u32 (flg p q)) ∧ FlagsOk zs p q ∧ Below w.heap.size w w' := by
  have H1 := Aside0.mk (skip_calls w B A n c zs h hb hB)
  have HBy := Aside0.mk hb
  have HB := Aside0.mk hB
  have HL := Aside0.mk hl
  clear h hb hB hl
  go_enter Tryd.func79, Tryd.ntmps79
  go_upto_region 2 with (go_at_call 95; (with_reducible refine H1.out.mono ?_); rintro e w2 ⟨v, rfl, hv, hb2⟩; have HV := Aside0.mk hv; have HB2 := Aside0.mk hb2; clear hv hb2)
  obtain ⟨A1, c1, rfl, -⟩ := HV.out.form
  have HBs := Aside0.mk (HBy.out.sub (skip_sub zs))
  have H2 := Aside0.mk (trim_calls w2 B A1 _ c1 (skipF zs) HV.out HBs.out (by have := HB2.out.size; have := HB.out; omega))
  go_upto_region 3 with (go_at_call 110; (with_reducible refine H2.out.mono ?_); rintro e w3 ⟨v, ys, rfl, ht, hv, hb3⟩; have HT := Aside0.mk ht; have HV3 := Aside0.mk hv; have HB3 := Aside0.mk (HB2.out.trans (hb3.mono HB2.out.size)); clear ht hv hb3)
  obtain ⟨A3, c3, rfl, -⟩ := HV3.out.form
  have HBy3 := Aside0.mk (HBs.out.sub (trim_sub HT.out))
  have hyl : ys.length < 9000000000000000000 := by
    obtain ⟨m, h1, -, rfl⟩ := HT.out
    have h2 : (skipF zs).length ≤ zs.length := (List.dropWhile_sublist _).length_le
    have := HL.out
    rw [List.length_take]; omega
  have H3 := Aside0.mk (print_calls w3 B A3 _ c3 ys HV3.out HBy3.out hyl)
  clear hyl
  obtain ⟨pp, hpp⟩ : ∃ pp, pp = ys.all prn := ⟨_, rfl⟩
  rw [← hpp] at H3
  have HPP := Aside0.mk hpp
  clear hpp
  obtain ⟨ix, hix⟩ : ∃ ix, ix = idx ys 92 := ⟨_, rfl⟩
  have HIX := Aside0.mk hix
  clear hix
  cases pp
  case false =>
    go_upto_region 5 with (go_at_call 111; (with_reducible refine H3.out.mono ?_); rintro e w4 ⟨rfl, hb4⟩; have HB4 := Aside0.mk (HB3.out.trans (hb4.mono HB3.out.size)); have HV4 := Aside0.mk (HV3.out.below (hb4.mono (by have := HB3.out.size; have := HB.out; omega))); clear hb4)
    have H4 := Aside0.mk (index_calls w4 B A3 _ c3 ys 92 HV4.out HBy3.out (by decide) (by decide))
    rw [← HIX.out] at H4
    by_cases hq : ix = -1
    · have hd : (ix == -1) = true := by simpa using hq
      have HQ := Aside0.mk hq
      clear hq
      go_wp2_with (go_at_call 112; (with_reducible refine H4.out.mono ?_); rintro e w5 ⟨rfl, rfl⟩)
      go_returns
      refine ⟨false, true, ?val, ?fl, HB4.out⟩
      case fl =>
        have := flags_ok HT.out
        rw [← HPP.out, ← HIX.out, HQ.out] at this
        exact this
      case val => exact congrArg (fun x => Ending.returned (.int .u32 x)) (by decide)
    · have hd : (ix == -1) = false := by simpa using hq
      have HQ := Aside0.mk hq
      clear hq
      go_wp2_with (go_at_call 112; (with_reducible refine H4.out.mono ?_); rintro e w5 ⟨rfl, rfl⟩)
      go_returns
      refine ⟨false, false, ?val, ?fl, HB4.out⟩
      case fl =>
        have := flags_ok HT.out
        rw [← HPP.out, ← HIX.out, decide_eq_false HQ.out] at this
        exact this
      case val => exact congrArg (fun x => Ending.returned (.int .u32 x)) (by decide)
  case true =>
    go_upto_region 5 with (go_at_call 111; (with_reducible refine H3.out.mono ?_); rintro e w4 ⟨rfl, hb4⟩; have HB4 := Aside0.mk (HB3.out.trans (hb4.mono HB3.out.size)); have HV4 := Aside0.mk (HV3.out.below (hb4.mono (by have := HB3.out.size; have := HB.out; omega))); clear hb4)
    have H4 := Aside0.mk (index_calls w4 B A3 _ c3 ys 92 HV4.out HBy3.out (by decide) (by decide))
    rw [← HIX.out] at H4
    by_cases hq : ix = -1
    · have hd : (ix == -1) = true := by simpa using hq
      have HQ := Aside0.mk hq
      clear hq
      go_wp2_with (go_at_call 112; (with_reducible refine H4.out.mono ?_); rintro e w5 ⟨rfl, rfl⟩)
      go_returns
      refine ⟨true, true, ?val, ?fl, HB4.out⟩
      case fl =>
        have := flags_ok HT.out
        rw [← HPP.out, ← HIX.out, HQ.out] at this
        exact this
      case val => exact congrArg (fun x => Ending.returned (.int .u32 x)) (by decide)
    · have hd : (ix == -1) = false := by simpa using hq
      have HQ := Aside0.mk hq
      clear hq
      go_wp2_with (go_at_call 112; (with_reducible refine H4.out.mono ?_); rintro e w5 ⟨rfl, rfl⟩)
      go_returns
      refine ⟨true, false, ?val, ?fl, HB4.out⟩
      case fl =>
        have := flags_ok HT.out
        rw [← HPP.out, ← HIX.out, decide_eq_false HQ.out] at this
        exact this
      case val => exact congrArg (fun x => Ending.returned (.int .u32 x)) (by decide)
end Go.Proofs.YtekmminmgjoabaaDoor.Js

namespace Go.Proofs.YtekmminmgjoabaaDoor.Js
open Go.RowKit Go.Proofs.YtekmminmgjoabaaDoorW.PrintWords Go.Proofs.YtekmminmgjoabaaDoorW.PrintLast Go.Proofs.YtekmminmgjoabaaDoorW.PrintMore Go.Proofs.YtekmminmgjoabaaDoor.PFnJSTokens
set_option linter.unusedVariables false
set_option linter.unusedSimpArgs false
theorem str_is {ys : List Int} (hb : Bytes ys) : ∀ (l : List UInt8), ((strOfNums ys).toList == l) = decide (ys = l.map fun b => (b.toNat : Int)) := by
  intro l
  rw [Lib.strOfNums_toList, Bool.eq_iff_iff, beq_iff_eq, decide_eq_true_iff]
  constructor
  · rintro rfl
    rw [Lib.bytesOf, List.map_map]
    symm
    rw [List.map_congr_left (g := id), List.map_id]
    intro x hx
    have := hb x hx
    simp; omega
  · rintro rfl
    rw [Lib.bytesOf, List.map_map, List.map_congr_left (g := id), List.map_id]
    intro x hx
    simp
set_option maxHeartbeats 4000000 in
set_option maxRecDepth 100000 in
theorem null_pre (w : World) (B : Nat) (A : Option Addr) (n c : Nat) (zs : List Int) (h : Sl w B (.slice A n c) zs) (hb : Bytes zs) :
    Calls Tryd.prog 118 #[.slice A n c] w fun e w' => e = .returned (.bool (decide (zs.take 4 = [110, 117, 108, 108]))) ∧ Below w.heap.size w w' := by
  have hn := h.len
  by_cases h4 : 4 ≤ n
  · obtain ⟨hcut, hd⟩ := h.next_to 22 4 4 .i64 Tryd.underlying22 rfl h4
    have hcv := hd.text (src := 22) (dst := 9) Tryd.underlying22 Tryd.underlying9
    have d0 : decide (4 ≤ n) = true := by simpa using h4
    have HS := Aside0.mk (str_is (hb.sub (fun c hc => List.mem_of_mem_take hc)) (ys := zs.take 4) [110, 117, 108, 108])
    clear h hd
    go_enter Tryd.func118, Tryd.ntmps118
    go_wp2
    go_ret
    exact ⟨by rw [HS.out]; rfl, Below.refl _ _⟩
  · have d0 : decide (4 ≤ n) = false := by simpa using h4
    have hne : ¬ zs.take 4 = [110, 117, 108, 108] := by
      intro e
      have := congrArg List.length e
      rw [List.length_take] at this
      simp at this
      omega
    have HN := Aside0.mk hne
    clear h hne
    go_enter Tryd.func118, Tryd.ntmps118
    go_wp2
    go_ret
    exact ⟨by rw [decide_eq_false HN.out]; rfl, Below.refl _ _⟩
set_option maxHeartbeats 4000000 in
set_option maxRecDepth 100000 in
theorem true_pre (w : World) (B : Nat) (A : Option Addr) (n c : Nat) (zs : List Int) (h : Sl w B (.slice A n c) zs) (hb : Bytes zs) :
    Calls Tryd.prog 119 #[.slice A n c] w fun e w' => e = .returned (.bool (decide (zs.take 4 = [116, 114, 117, 101]))) ∧ Below w.heap.size w w' := by
  have hn := h.len
  by_cases h4 : 4 ≤ n
  · obtain ⟨hcut, hd⟩ := h.next_to 22 4 4 .i64 Tryd.underlying22 rfl h4
    have hcv := hd.text (src := 22) (dst := 9) Tryd.underlying22 Tryd.underlying9
    have d0 : decide (4 ≤ n) = true := by simpa using h4
    have HS := Aside0.mk (str_is (hb.sub (fun c hc => List.mem_of_mem_take hc)) (ys := zs.take 4) [116, 114, 117, 101])
    clear h hd
    go_enter Tryd.func119, Tryd.ntmps119
    go_wp2
    go_ret
    exact ⟨by rw [HS.out]; rfl, Below.refl _ _⟩
  · have d0 : decide (4 ≤ n) = false := by simpa using h4
    have hne : ¬ zs.take 4 = [116, 114, 117, 101] := by
      intro e
      have := congrArg List.length e
      rw [List.length_take] at this
      simp at this
      omega
    have HN := Aside0.mk hne
    clear h hne
    go_enter Tryd.func119, Tryd.ntmps119
    go_wp2
    go_ret
    exact ⟨by rw [decide_eq_false HN.out]; rfl, Below.refl _ _⟩
set_option maxHeartbeats 4000000 in
set_option maxRecDepth 100000 in
theorem false_pre (w : World) (B : Nat) (A : Option Addr) (n c : Nat) (zs : List Int) (h : Sl w B (.slice A n c) zs) (hb : Bytes zs) :
    Calls Tryd.prog 120 #[.slice A n c] w fun e w' => e = .returned (.bool (decide (zs.take 5 = [102, 97, 108, 115, 101]))) ∧ Below w.heap.size w w' := by
  have hn := h.len
  by_cases h4 : 5 ≤ n
  · obtain ⟨hcut, hd⟩ := h.next_to 22 5 5 .i64 Tryd.underlying22 rfl h4
    have hcv := hd.text (src := 22) (dst := 9) Tryd.underlying22 Tryd.underlying9
    have d0 : decide (5 ≤ n) = true := by simpa using h4
    have HS := Aside0.mk (str_is (hb.sub (fun c hc => List.mem_of_mem_take hc)) (ys := zs.take 5) [102, 97, 108, 115, 101])
    clear h hd
    go_enter Tryd.func120, Tryd.ntmps120
    go_wp2
    go_ret
    exact ⟨by rw [HS.out]; rfl, Below.refl _ _⟩
  · have d0 : decide (5 ≤ n) = false := by simpa using h4
    have hne : ¬ zs.take 5 = [102, 97, 108, 115, 101] := by
      intro e
      have := congrArg List.length e
      rw [List.length_take] at this
      simp at this
      omega
    have HN := Aside0.mk hne
    clear h hne
    go_enter Tryd.func120, Tryd.ntmps120
    go_wp2
    go_ret
    exact ⟨by rw [decide_eq_false HN.out]; rfl, Below.refl _ _⟩
end Go.Proofs.YtekmminmgjoabaaDoor.Js

namespace Go.Proofs.YtekmminmgjoabaaDoor.Js
open Go.RowKit Go.Proofs.YtekmminmgjoabaaDoorW.PrintWords Go.Proofs.YtekmminmgjoabaaDoorW.PrintLast Go.Proofs.YtekmminmgjoabaaDoorW.PrintMore Go.Proofs.YtekmminmgjoabaaDoor.PFnJSTokens
set_option linter.unusedVariables false
set_option linter.unusedSimpArgs false
set_option maxHeartbeats 4000000 in
set_option maxRecDepth 100000 in
theorem null_calls (w : World) (B : Nat) (A : Option Addr) (n c : Nat) (fl : Int) (zs r : List Int) (hz : zs = [110, 117, 108, 108] ++ r) (h : Sl w B (.slice A n c) zs) (hb : Bytes zs) (hB : B ≤ w.heap.size) :
    Calls Tryd.prog 81 #[.agg #[.int .u32 fl], .slice A n c] w fun e w' => ∃ v1 v2, e = .returned (.tuple #[v1, v2, .int .u64 1, .nilIface]) ∧ Sl w' B v1 [110, 117, 108, 108] ∧ Sl w' B v2 r ∧ Below w.heap.size w w' := by
  obtain ⟨rfl, hnc⟩ := h.len
  have hal := below_alloc (Below.refl w.heap.size w) (.cells #[.int .u32 fl] 116)
  have ht : zs.take 4 = [110, 117, 108, 108] := by rw [hz]; rfl
  have hdr : zs.drop 4 = r := by rw [hz]; rfl
  have hP : Calls Tryd.prog 118 #[.slice A zs.length c] (w.alloc (.cells #[.int .u32 fl] 116)) fun e w' => e = .returned (.bool true) ∧ Below (w.alloc (.cells #[.int .u32 fl] 116)).heap.size (w.alloc (.cells #[.int .u32 fl] 116)) w' := by
    have h2 := null_pre _ B A _ c zs (h.below (hal.mono hB)) hb
    rw [ht] at h2
    exact h2
  have hP := Aside0.mk hP
  have h4 : 4 ≤ zs.length := by rw [hz]; simp
  obtain ⟨hcut, hd⟩ := h.next_to 22 4 4 .i64 Tryd.underlying22 rfl h4
  obtain ⟨A', hcut2, hd2⟩ := h.next 22 4 .i64 Tryd.underlying22 h4
  have hcut3 : ∀ W : World, (Instr.slice 22 (.slice A zs.length c) (some (.int .i64 4)) none none).run Tryd.prog W = .ok (.slice A' (zs.length - 4) (c - 4)) W := hcut2
  rw [ht] at hd
  rw [hdr] at hd2
  have HD := Aside0.mk (And.intro hd hd2)
  have HB := Aside0.mk hB
  have HAL := Aside0.mk hal
  clear hz h hb hB hd hd2 ht hdr hal hcut2
  go_enter Tryd.func81, Tryd.ntmps81
  go_upto_region 2 with (go_at_call 118; (with_reducible refine hP.out.mono ?_); rintro e w2 ⟨rfl, hb2⟩; have HB2 := Aside0.mk (HAL.out.trans (hb2.mono HAL.out.size)); clear hb2)
  go_region_with (fail)
  all_goals
    go_wp2_with fail
    go_returns
    exact ⟨.slice A 4 c, .slice A' (zs.length - 4) (c - 4), by rfl, HD.out.1.below ((below_drew HB2.out).mono HB.out), HD.out.2.below ((below_drew HB2.out).mono HB.out), below_drew HB2.out⟩
set_option maxHeartbeats 4000000 in
set_option maxRecDepth 100000 in
theorem true_calls (w : World) (B : Nat) (A : Option Addr) (n c : Nat) (fl : Int) (zs r : List Int) (hz : zs = [116, 114, 117, 101] ++ r) (h : Sl w B (.slice A n c) zs) (hb : Bytes zs) (hB : B ≤ w.heap.size) :
    Calls Tryd.prog 82 #[.agg #[.int .u32 fl], .slice A n c] w fun e w' => ∃ v1 v2, e = .returned (.tuple #[v1, v2, .int .u64 3, .nilIface]) ∧ Sl w' B v1 [116, 114, 117, 101] ∧ Sl w' B v2 r ∧ Below w.heap.size w w' := by
  obtain ⟨rfl, hnc⟩ := h.len
  have hal := below_alloc (Below.refl w.heap.size w) (.cells #[.int .u32 fl] 116)
  have ht : zs.take 4 = [116, 114, 117, 101] := by rw [hz]; rfl
  have hdr : zs.drop 4 = r := by rw [hz]; rfl
  have hP : Calls Tryd.prog 119 #[.slice A zs.length c] (w.alloc (.cells #[.int .u32 fl] 116)) fun e w' => e = .returned (.bool true) ∧ Below (w.alloc (.cells #[.int .u32 fl] 116)).heap.size (w.alloc (.cells #[.int .u32 fl] 116)) w' := by
    have h2 := true_pre _ B A _ c zs (h.below (hal.mono hB)) hb
    rw [ht] at h2
    exact h2
  have hP := Aside0.mk hP
  have h4 : 4 ≤ zs.length := by rw [hz]; simp
  obtain ⟨hcut, hd⟩ := h.next_to 22 4 4 .i64 Tryd.underlying22 rfl h4
  obtain ⟨A', hcut2, hd2⟩ := h.next 22 4 .i64 Tryd.underlying22 h4
  have hcut3 : ∀ W : World, (Instr.slice 22 (.slice A zs.length c) (some (.int .i64 4)) none none).run Tryd.prog W = .ok (.slice A' (zs.length - 4) (c - 4)) W := hcut2
  rw [ht] at hd
  rw [hdr] at hd2
  have HD := Aside0.mk (And.intro hd hd2)
  have HB := Aside0.mk hB
  have HAL := Aside0.mk hal
  clear hz h hb hB hd hd2 ht hdr hal hcut2
  go_enter Tryd.func82, Tryd.ntmps82
  go_upto_region 2 with (go_at_call 119; (with_reducible refine hP.out.mono ?_); rintro e w2 ⟨rfl, hb2⟩; have HB2 := Aside0.mk (HAL.out.trans (hb2.mono HAL.out.size)); clear hb2)
  go_region_with (fail)
  all_goals
    go_wp2_with fail
    go_returns
    exact ⟨.slice A 4 c, .slice A' (zs.length - 4) (c - 4), by rfl, HD.out.1.below ((below_drew HB2.out).mono HB.out), HD.out.2.below ((below_drew HB2.out).mono HB.out), below_drew HB2.out⟩
set_option maxHeartbeats 4000000 in
set_option maxRecDepth 100000 in
theorem false_calls (w : World) (B : Nat) (A : Option Addr) (n c : Nat) (fl : Int) (zs r : List Int) (hz : zs = [102, 97, 108, 115, 101] ++ r) (h : Sl w B (.slice A n c) zs) (hb : Bytes zs) (hB : B ≤ w.heap.size) :
    Calls Tryd.prog 83 #[.agg #[.int .u32 fl], .slice A n c] w fun e w' => ∃ v1 v2, e = .returned (.tuple #[v1, v2, .int .u64 2, .nilIface]) ∧ Sl w' B v1 [102, 97, 108, 115, 101] ∧ Sl w' B v2 r ∧ Below w.heap.size w w' := by
  obtain ⟨rfl, hnc⟩ := h.len
  have hal := below_alloc (Below.refl w.heap.size w) (.cells #[.int .u32 fl] 116)
  have ht : zs.take 5 = [102, 97, 108, 115, 101] := by rw [hz]; rfl
  have hdr : zs.drop 5 = r := by rw [hz]; rfl
  have hP : Calls Tryd.prog 120 #[.slice A zs.length c] (w.alloc (.cells #[.int .u32 fl] 116)) fun e w' => e = .returned (.bool true) ∧ Below (w.alloc (.cells #[.int .u32 fl] 116)).heap.size (w.alloc (.cells #[.int .u32 fl] 116)) w' := by
    have h2 := false_pre _ B A _ c zs (h.below (hal.mono hB)) hb
    rw [ht] at h2
    exact h2
  have hP := Aside0.mk hP
  have h4 : 5 ≤ zs.length := by rw [hz]; simp
  obtain ⟨hcut, hd⟩ := h.next_to 22 5 5 .i64 Tryd.underlying22 rfl h4
  obtain ⟨A', hcut2, hd2⟩ := h.next 22 5 .i64 Tryd.underlying22 h4
  have hcut3 : ∀ W : World, (Instr.slice 22 (.slice A zs.length c) (some (.int .i64 5)) none none).run Tryd.prog W = .ok (.slice A' (zs.length - 5) (c - 5)) W := hcut2
  rw [ht] at hd
  rw [hdr] at hd2
  have HD := Aside0.mk (And.intro hd hd2)
  have HB := Aside0.mk hB
  have HAL := Aside0.mk hal
  clear hz h hb hB hd hd2 ht hdr hal hcut2
  go_enter Tryd.func83, Tryd.ntmps83
  go_upto_region 2 with (go_at_call 120; (with_reducible refine hP.out.mono ?_); rintro e w2 ⟨rfl, hb2⟩; have HB2 := Aside0.mk (HAL.out.trans (hb2.mono HAL.out.size)); clear hb2)
  go_region_with (fail)
  all_goals
    go_wp2_with fail
    go_returns
    exact ⟨.slice A 5 c, .slice A' (zs.length - 5) (c - 5), by rfl, HD.out.1.below ((below_drew HB2.out).mono HB.out), HD.out.2.below ((below_drew HB2.out).mono HB.out), below_drew HB2.out⟩
end Go.Proofs.YtekmminmgjoabaaDoor.Js



namespace Go.Proofs.YtekmminmgjoabaaDoor.Js
open Go.RowKit Go.Proofs.YtekmminmgjoabaaDoorW.PrintWords Go.Proofs.YtekmminmgjoabaaDoorW.PrintLast Go.Proofs.YtekmminmgjoabaaDoorW.PrintMore Go.Proofs.YtekmminmgjoabaaDoor.PFnJSTokens
set_option linter.unusedVariables false
set_option linter.unusedSimpArgs false
/-- What follows, behind a name that the walk does not open. -/
structure Seam (P : Program) (b : Code) (Q : Exit → Act → World → Prop) (a : Act) (w : World) : Prop where
  out : Code.wp P b Q a w
theorem wp_seam {P : Program} {a b : Code} {Q : Exit → Act → World → Prop} {s : Act} {w : World} (h : ∀ K : Act → World → Prop, (∀ s w, Seam P b Q s w → K s w) → Code.wp P a (Exit.then K Q) s w) : Code.wp P (.seq a b) Q s w :=
  wp_seq (h (b.wp P Q) (fun _ _ hs => hs.out))
/-- The code behind the first n statements. -/
def tl : Nat → Code → Code
  | n + 1, .seq _ b => tl n b
  | _, c => c
/-- The code at a place: 0 is the first of two, the arm of a test that says yes, what a block holds; 1 is the other one. -/
def pick : List Nat → Code → Code
  | [], c => c
  | 0 :: p, .seq a _ => pick p a
  | _ :: p, .seq _ b => pick p b
  | 0 :: p, .cond _ a _ => pick p a
  | _ :: p, .cond _ _ b => pick p b
  | _ :: p, .block _ c => pick p c
  | _ :: p, .loop c => pick p c
  | _ :: p, .scope c => pick p c
  | _, c => c
/-- What a scope holds. -/
def inScope : Code → Code
  | .scope c => c
  | .seq _ b => inScope b
  | c => c
/-- v[j:], v[:j]. -/
theorem Sl.both {w : World} {B : Nat} {A : Option Addr} {n c : Nat} {zs : List Int} (h : Sl w B (.slice A n c) zs) (t m : Nat) (j : Int) (kl : IntKind) (ht : Tryd.prog.underlying t = some (.slice 5)) (hj : j = (m : Int)) (hm : m ≤ n) : ∃ A', (∀ W : World, (Instr.slice t (.slice A n c) none (some (.int kl j)) none).run Tryd.prog W = .ok (.slice A m c) W) ∧ (∀ W : World, (Instr.slice t (.slice A n c) (some (.int kl j)) none none).run Tryd.prog W = .ok (.slice A' (n - m) (c - m)) W) ∧ Sl w B (.slice A m c) (zs.take m) ∧ Sl w B (.slice A' (n - m) (c - m)) (zs.drop m) := by
  obtain ⟨h1, h2⟩ := h.next_to t m j kl ht hj hm
  subst hj
  obtain ⟨A', h3, h4⟩ := h.next t m kl ht hm
  exact ⟨A', h1, h3, h2, h4⟩
end Go.Proofs.YtekmminmgjoabaaDoor.Js

