/- A tokenizer on the first token of a plain value's text. The decimal digits of a number, pure. Reading a whole number: parseUint over digits. Reading a whole number: parseInt over digits without a sign. Reading a whole number: parseInt over digits behind a sign. Tokenizer.Uint, Tokenizer.Int on a token of digits. impl.JSUint, impl.JSInt on blanks and a number's text. -/
import Derived.Test.YtekmminmgjoabaaDoorSa
import Derived.Lib.ItoaNum
import Derived.Test.YtekmminmgjoabaaDoorSv
import Derived.Deep.RegionHeld3
namespace Go.Proofs.YtekmminmgjoabaaDoor.Js
open Go.RowKit Go.Proofs.YtekmminmgjoabaaDoorW.PrintWords Go.Proofs.YtekmminmgjoabaaDoorW.PrintLast Go.Proofs.YtekmminmgjoabaaDoorW.PrintMore Go.Proofs.YtekmminmgjoabaaDoor.PFnJSTokens
set_option linter.unusedVariables false
set_option linter.unusedSimpArgs false
/-- The tokenizer at T stands on the token v. -/
def OnTok (w : World) (B T : Nat) (v : List Int) : Prop := ∃ vv js sp K p q dp ix ik nk, w.heap[T]? = some (.cells (tzr 0 vv .nilIface dp ix ik nk js sp (flK p q K)) 118 (0, 0)) ∧ Sl w B vv v
set_option maxHeartbeats 4000000 in
set_option maxRecDepth 100000 in
theorem first_calls (w : World) (B : Nat) (h3 : 3 < B) (hB : B ≤ w.heap.size) (A : Option Addr) (n c : Nat) (zs bs v : List Int) (k : Int) (st1 : St) (hst : (⟨[], false⟩ : St).after 0 = some st1) (hz : zs = bs ++ (v ++ [])) (hbs : ∀ c ∈ bs, isSp c = true) (hp : Plain k v) (hs : Sl w B (.slice A n c) zs) (hby : Bytes zs) (hl : zs.length ≤ 2000000000) (ht : Tab w) :
    Calls Tryd.prog 56 #[.slice A n c] w fun e w' => ∃ T, e = .returned (.tuple #[.pointer (some ⟨T, 0, none⟩), .bool true]) ∧ B ≤ T ∧ OnTok w' B T v ∧ TK TokT B w w' := by
  have HN := Aside0.mk (tnew w B A n c zs hs hby hB (by omega))
  have HX := Aside0.mk (fun (W : World) (T : Nat) (p q : Bool) (hT : B ≤ T) (hW : Below B w W) (h1 : W.heap[T]? = some (.cells (tzr 0 (.slice none 0 0) .nilIface 0 0 false false (.slice A n c) (.pointer none) (flK p q 0)) 118 (0, 0))) (hf : FlagsOk zs p q) => next_ok W B T ⟨[], false⟩ st1 zs bs v [] 0 k p q hT h3 ⟨⟨_, _, _, _, _, _, _, 0, by decide, h1, hs.below hW, .inl ⟨rfl, rfl⟩⟩⟩ hz hbs hst (.plain hp) (fun _ c t h => by cases h) ⟨by simp; omega, fun x hx => by simp at hx⟩ (ht.base h3 hW) hby hf.2)
  have HB := Aside0.mk hB
  clear hst hz hbs hp hs hby hl ht h3 hB
  go_enter Tryd.func56, Tryd.ntmps56
  go_wp2_with (first
    | (go_at_call 45; (with_reducible refine HN.out.mono ?_); rintro e W1 ⟨T, p, q, rfl, hT, ht1, hf, hb1⟩; have HTT := Aside0.mk (Nat.le_trans HB.out hT); have HB1 := Aside0.mk (hb1.mono HB.out); have HK1 := Aside0.mk (show TK TokT B w W1 from TK.of hb1 HB.out); have HX1 := Aside0.mk (HX.out W1 T p q HTT.out HB1.out ht1 hf); clear hT ht1 hf hb1)
    | (go_at_call 54; (with_reducible refine HX1.out.mono ?_); rintro e W2 ⟨rfl, ⟨vv, js, sp, K, hK, hcl, -, ht2, hv2, hj2, hs2⟩, hk2⟩; have HO := Aside0.mk (show OnTok W2 B T v from ⟨_, _, _, _, _, _, _, _, _, _, ht2, hv2⟩); have HB2 := Aside0.mk (HK1.out.trans hk2); clear hK hcl ht2 hv2 hj2 hs2 hk2))
  go_returns
  exact ⟨T, rfl, HTT.out, HO.out, HB2.out⟩
end Go.Proofs.YtekmminmgjoabaaDoor.Js

namespace Go.Proofs.YtekmminmgjoabaaDoor.Js
set_option linter.unusedVariables false
set_option linter.unusedSimpArgs false
def dval (l : List Int) : Nat := l.foldl (fun a c => a * 10 + (c - 48).toNat) 0
def nums (u : Nat) : List Int := (Lib.decDigits u).map fun b => (b.toNat : Int)
theorem fold_ge : ∀ (l : List Int) (a : Nat), a ≤ l.foldl (fun a c => a * 10 + (c - 48).toNat) a := by
  intro l
  induction l with
  | nil => intro a; exact Nat.le_refl _
  | cons c l ih =>
    intro a
    rw [List.foldl_cons]
    exact Nat.le_trans (by omega) (ih _)
theorem dval_take_le (l : List Int) (j : Nat) : dval (l.take j) ≤ dval l := by
  have h : dval l = (l.drop j).foldl (fun a c => a * 10 + (c - 48).toNat) (dval (l.take j)) := by
    unfold dval
    rw [← List.foldl_append, List.take_append_drop]
  rw [h]
  exact fold_ge _ _
theorem dval_take_succ (l : List Int) (j : Nat) (hj : j < l.length) : dval (l.take (j + 1)) = dval (l.take j) * 10 + (l.getD j 0 - 48).toNat := by
  have h : l.take (j + 1) = l.take j ++ [l.getD j 0] := by
    rw [List.take_add_one, List.getElem?_eq_getElem hj, List.getD_eq_getElem?_getD, List.getElem?_eq_getElem hj]
    rfl
  rw [h]
  unfold dval
  rw [List.foldl_append]
  rfl
theorem byte_dig (k : Nat) (h : k < 10) : ((UInt8.ofNat (48 + k)).toNat : Int) = 48 + (k : Int) := by
  have : (UInt8.ofNat (48 + k)).toNat = 48 + k := by simp [UInt8.toNat_ofNat']; omega
  rw [this]; omega
theorem nums_small {u : Nat} (h : u < 10) : nums u = [48 + (u : Int)] := by
  unfold nums
  rw [Lib.decDigits, dif_pos h, List.map_cons, byte_dig u h]
  rfl
theorem nums_big {u : Nat} (h : ¬ u < 10) : nums u = nums (u / 10) ++ [48 + ((u % 10 : Nat) : Int)] := by
  unfold nums
  rw [Lib.decDigits, dif_neg h, List.map_append, List.map_cons, byte_dig _ (Nat.mod_lt _ (by decide))]
  rfl
theorem nums_digits (u : Nat) : ∀ c ∈ nums u, 48 ≤ c ∧ c ≤ 57 := by
  induction u using Nat.strongRecOn with
  | _ u ih =>
    by_cases h : u < 10
    · rw [nums_small h]
      intro c hc
      simp only [List.mem_cons, List.not_mem_nil, or_false] at hc
      omega
    · rw [nums_big h]
      intro c hc
      rcases List.mem_append.1 hc with hc | hc
      · exact ih (u / 10) (by omega) c hc
      · simp only [List.mem_cons, List.not_mem_nil, or_false] at hc
        omega
theorem dval_nums (u : Nat) : dval (nums u) = u := by
  induction u using Nat.strongRecOn with
  | _ u ih =>
    by_cases h : u < 10
    · rw [nums_small h]
      show 0 * 10 + (48 + (u : Int) - 48).toNat = u
      omega
    · have h1 := ih (u / 10) (by omega)
      rw [nums_big h]
      unfold dval at h1 ⊢
      rw [List.foldl_append, h1]
      show u / 10 * 10 + (48 + ((u % 10 : Nat) : Int) - 48).toNat = u
      omega
theorem nums_pos (u : Nat) : 0 < (nums u).length := by
  by_cases h : u < 10
  · rw [nums_small h]; simp
  · rw [nums_big h]; simp
theorem nums_head (u : Nat) : 1 ≤ u → (nums u).getD 0 0 ≠ 48 := by
  induction u using Nat.strongRecOn with
  | _ u ih =>
    intro hu
    by_cases h : u < 10
    · rw [nums_small h]
      show 48 + (u : Int) ≠ 48
      omega
    · have h1 := ih (u / 10) (by omega) (by omega)
      have h2 := nums_pos (u / 10)
      rw [nums_big h, List.getD_eq_getElem?_getD, List.getElem?_append_left h2, ← List.getD_eq_getElem?_getD]
      exact h1
theorem nums_zero : nums 0 = [48] := nums_small (by decide)
theorem nums_len_small {u : Nat} (h : (nums u).length ≠ 1) : 10 ≤ u := by
  by_cases h1 : u < 10
  · rw [nums_small h1] at h; exact absurd rfl h
  · omega
end Go.Proofs.YtekmminmgjoabaaDoor.Js

namespace Go.Proofs.YtekmminmgjoabaaDoor.Js
open Go.RowKit Go.Proofs.YtekmminmgjoabaaDoorW.PrintWords Go.Proofs.YtekmminmgjoabaaDoorW.PrintLast Go.Proofs.YtekmminmgjoabaaDoorW.PrintMore Go.Proofs.YtekmminmgjoabaaDoor.PFnJSTokens
set_option linter.unusedVariables false
set_option linter.unusedSimpArgs false
set_option maxHeartbeats 4000000 in
set_option maxRecDepth 100000 in
theorem uint_calls (w : World) (B : Nat) (v : Value) (fl : Int) (s : Value) (zs : List Int) (u : Nat) (hd : ∀ c ∈ zs, 48 ≤ c ∧ c ≤ 57) (hp : 0 < zs.length) (hh : 1 < zs.length → zs.getD 0 0 ≠ 48) (hl : zs.length < 4000000000) (hv : dval zs = u) (hu : u < 18446744073709551616) (h : Sl w B v zs) (hB : B ≤ w.heap.size) :
    Calls Tryd.prog 109 #[.agg #[.int .u32 fl], v, s] w fun e w' => ∃ v', e = .returned (.tuple #[.int .u64 (u : Int), v', .nilIface]) ∧ Below w.heap.size w w' := by
  obtain ⟨A, m, c, rfl, hm⟩ := h.formv
  obtain ⟨ad, rfl, c0, -⟩ := h.at_ 0 (by omega)
  have e0 : ad.add 0 = ad := by simp [Addr.add]
  rw [e0] at c0
  have HD := Aside0.mk (fun j (hj : j < zs.length) => (show 48 ≤ zs.getD j 0 ∧ zs.getD j 0 ≤ 57 by
    rw [List.getD_eq_getElem?_getD, List.getElem?_eq_getElem hj]
    exact hd _ (List.getElem_mem hj)))
  have HV := Aside0.mk (And.intro hv hu)
  have HH := Aside0.mk (And.intro h hB)
  have HM := Aside0.mk (And.intro hm hl)
  have hz : ((m : Int) == 0) = false := by rw [beq_eq_false_iff_ne]; omega
  obtain ⟨w0, hw0⟩ : ∃ w0, w0 = w.alloc (.cells #[.int .u32 fl] 116) := ⟨_, rfl⟩
  have HAL := Aside0.mk (show Below w.heap.size w w0 by rw [hw0]; exact below_alloc (Below.refl _ _) _)
  have c1 : w0.cell? ad = some (.int .u8 (zs.getD 0 0)) := (pw_cell_below HAL.out c0).trans rfl
  have hne : 1 < m → ¬ zs.getD 0 0 = 48 := fun h => hh (by omega)
  obtain ⟨b0, hb0⟩ : ∃ b0, b0 = zs.getD 0 0 := ⟨_, rfl⟩
  rw [← hb0] at c1 hne
  have HB0 := Aside0.mk hb0
  clear h hB hd hp hh hl hv hu hm c0 e0 hb0
  have hlz : decide ((1 : Int) < (m : Int)) = decide (1 < m) := by by_cases h : 1 < m <;> simp [h] <;> omega
  go_enter Tryd.func109, Tryd.ntmps109
  go_upto_region 3 with (fail)
  rw [← hw0]
  clear hw0
  go_upto_region 5 with (fail)
  go_cut [45] (fun s45 wx => w0 = wx ∧ s45 = .bool false)
  case first =>
    by_cases h1 : 1 < m
    · have h1i : (1 : Int) < (m : Int) := by omega
      have hn0 : ¬ b0 = 48 := hne h1
      clear hne
      go_wp2_with fail
      all_goals (go_meet; exact ⟨rfl, rfl⟩)
    · have h1i : ¬ (1 : Int) < (m : Int) := by omega
      clear hne
      go_wp2_with fail
      all_goals (go_meet; exact ⟨rfl, rfl⟩)
  case rest =>
    obtain ⟨rfl, rfl⟩ := hcut
    clear hne hlz c1
    with_reducible apply_assumption
    go_upto_region 7 with (fail)
    go_loopg [9, 10, 11, 12] m (fun gk v9 v10 v11 v12 w' => ∃ j : Nat, v9 = .int .u64 ((dval (zs.take j) : Nat) : Int) ∧ v10 = .int .i64 (j : Int) ∧ Aside0 (j + gk = m) ∧ w0 = w')
    case atStart => exact ⟨0, rfl, rfl, ⟨by omega⟩, rfl⟩
    case round =>
      obtain ⟨j, rfl, rfl, HJ, rfl⟩ := hrel
      cases gk with
      | zero =>
        obtain rfl : j = m := by have := HJ.out; omega
        have hx : dval (zs.take j) = u := by rw [HM.out.1, List.take_length]; exact HV.out.1
        rw [hx]
        have dlt : decide ((j : Int) < (j : Int)) = false := by simp
        have hcut := fun W : World => cut_from 22 j j c .i64 (some ad) Tryd.underlying22 (Nat.le_refl _) W
        clear hx
        go_upto_region 26 with (fail)
        go_region
        all_goals (try (go_wp2_with fail))
        all_goals
          go_returns
          first | exact ⟨_, rfl, below_drew HAL.out⟩ | exact ⟨⟨_, rfl⟩, below_drew HAL.out⟩ | exact ⟨rfl, below_drew HAL.out⟩
      | succ k1 =>
        have hjm : j < m := by have := HJ.out; omega
        have dlt : decide ((j : Int) < (m : Int)) = true := by simpa using hjm
        obtain ⟨d, hdd⟩ : ∃ d, d = zs.getD j 0 := ⟨_, rfl⟩
        obtain ⟨x, hx⟩ : ∃ x, x = dval (zs.take j) := ⟨_, rfl⟩
        obtain ⟨y, hy⟩ : ∃ y, y = dval (zs.take (j + 1)) := ⟨_, rfl⟩
        obtain ⟨ad2, e2, k2, -⟩ := (HH.out.1.below (HAL.out.mono HH.out.2)).at_ j hjm
        obtain rfl : ad = ad2 := by injection e2
        have hdig := HD.out j (by rw [← HM.out.1]; exact hjm)
        rw [← hdd] at k2 hdig
        have hd1 : 48 ≤ d := hdig.1
        have hd2 : d ≤ 57 := hdig.2
        have hyx : (y : Int) = (x : Int) * 10 + (d - 48) := by
          have h := dval_take_succ zs j (by rw [← HM.out.1]; exact hjm)
          rw [← hy, ← hx, ← hdd] at h
          omega
        have hyu : y < 18446744073709551616 := by
          have h := dval_take_le zs (j + 1)
          rw [← hy, HV.out.1] at h
          have := HV.out.2
          omega
        have hw1 : IntKind.u8.wrap (d - 48) = d - 48 := by rw [IntKind.wrap_u8]; omega
        have hw2 : IntKind.u64.wrap (d - 48) = d - 48 := by rw [IntKind.wrap_u64]; omega
        have hw3 : IntKind.u64.wrap ((x : Int) * 10) = (x : Int) * 10 := by rw [IntKind.wrap_u64]; omega
        have hw4 : IntKind.u64.wrap ((x : Int) * 10 + (d - 48)) = (y : Int) := by rw [IntKind.wrap_u64, hyx]; omega
        have hlt : ¬ (y : Int) < (x : Int) := by omega
        have HY := Aside0.mk hy
        have hmi : (j : Int) < (m : Int) := by omega
        have hjb : j < 4000000000 := by have := HM.out; omega
        rw [← hx]
        clear hx hy hyx hyu hdig hdd e2
        go_wp2_with fail
        go_roundg k1
        case measure => omega
        case rel => exact ⟨j + 1, by rw [HY.out], by go_num, ⟨by have := HJ.out; omega⟩, rfl⟩
end Go.Proofs.YtekmminmgjoabaaDoor.Js

namespace Go.Proofs.YtekmminmgjoabaaDoor.Js
open Go.RowKit Go.Proofs.YtekmminmgjoabaaDoorW.PrintWords Go.Proofs.YtekmminmgjoabaaDoorW.PrintLast Go.Proofs.YtekmminmgjoabaaDoorW.PrintMore Go.Proofs.YtekmminmgjoabaaDoor.PFnJSTokens
set_option linter.unusedVariables false
set_option linter.unusedSimpArgs false
set_option maxHeartbeats 4000000 in
set_option maxRecDepth 100000 in
theorem int_calls (w : World) (B : Nat) (v : Value) (fl : Int) (s : Value) (zs : List Int) (u : Nat) (hd : ∀ c ∈ zs, 48 ≤ c ∧ c ≤ 57) (hp : 0 < zs.length) (hh : 1 < zs.length → zs.getD 0 0 ≠ 48) (hl : zs.length < 4000000000) (hv : dval zs = u) (hu : u < 9223372036854775808) (h : Sl w B v zs) (hB : B ≤ w.heap.size) :
    Calls Tryd.prog 104 #[.agg #[.int .u32 fl], v, s] w fun e w' => ∃ v', e = .returned (.tuple #[.int .i64 (u : Int), v', .nilIface]) ∧ Below w.heap.size w w' := by
  obtain ⟨A, m, c, rfl, hm⟩ := h.formv
  obtain ⟨ad, rfl, c0, -⟩ := h.at_ 0 (by omega)
  have e0 : ad.add 0 = ad := by simp [Addr.add]
  rw [e0] at c0
  have HD := Aside0.mk (fun j (hj : j < zs.length) => (show 48 ≤ zs.getD j 0 ∧ zs.getD j 0 ≤ 57 by
    rw [List.getD_eq_getElem?_getD, List.getElem?_eq_getElem hj]
    exact hd _ (List.getElem_mem hj)))
  have HV := Aside0.mk (And.intro hv hu)
  have HH := Aside0.mk (And.intro h hB)
  have HM := Aside0.mk (And.intro hm hl)
  have hz : ((m : Int) == 0) = false := by rw [beq_eq_false_iff_ne]; omega
  obtain ⟨w0, hw0⟩ : ∃ w0, w0 = w.alloc (.cells #[.int .u32 fl] 116) := ⟨_, rfl⟩
  have HAL := Aside0.mk (show Below w.heap.size w w0 by rw [hw0]; exact below_alloc (Below.refl _ _) _)
  have c1 : w0.cell? ad = some (.int .u8 (zs.getD 0 0)) := (pw_cell_below HAL.out c0).trans rfl
  have hne : 1 < m → ¬ zs.getD 0 0 = 48 := fun h => hh (by omega)
  obtain ⟨b0, hb0⟩ : ∃ b0, b0 = zs.getD 0 0 := ⟨_, rfl⟩
  rw [← hb0] at c1 hne
  have HB0 := Aside0.mk hb0
  have hmp : 0 < m := by omega
  have hb45 : ¬ b0 = 45 := by have h1 := HD.out 0 hp; omega
  clear h hB hd hp hh hl hv hu hm c0 e0 hb0
  have hlz : decide ((1 : Int) < (m : Int)) = decide (1 < m) := by by_cases h : 1 < m <;> simp [h] <;> omega
  go_enter Tryd.func104, Tryd.ntmps104
  go_upto_region 3 with (fail)
  rw [← hw0]
  clear hw0
  go_upto_region 27 with (fail)
  go_cut [135] (fun s45 wx => w0 = wx ∧ s45 = .bool false)
  case first =>
    by_cases h1 : 1 < m
    · have h1i : (1 : Int) < (m : Int) := by omega
      have hn0 : ¬ b0 = 48 := hne h1
      clear hne
      go_wp2_with fail
      all_goals (go_meet; exact ⟨rfl, rfl⟩)
    · have h1i : ¬ (1 : Int) < (m : Int) := by omega
      clear hne
      go_wp2_with fail
      all_goals (go_meet; exact ⟨rfl, rfl⟩)
  case rest =>
    obtain ⟨rfl, rfl⟩ := hcut
    clear hne hlz c1
    with_reducible apply_assumption
    go_upto_region 29 with (fail)
    go_loopg [9, 10, 16, 17] m (fun gk v9 v10 v11 v12 w' => ∃ j : Nat, v9 = .int .i64 ((dval (zs.take j) : Nat) : Int) ∧ v10 = .int .i64 (j : Int) ∧ Aside0 (j + gk = m) ∧ w0 = w')
    case atStart => exact ⟨0, rfl, rfl, ⟨by omega⟩, rfl⟩
    case round =>
      obtain ⟨j, rfl, rfl, HJ, rfl⟩ := hrel
      cases gk with
      | zero =>
        obtain rfl : j = m := by have := HJ.out; omega
        have hx : dval (zs.take j) = u := by rw [HM.out.1, List.take_length]; exact HV.out.1
        rw [hx]
        have dlt : decide ((j : Int) < (j : Int)) = false := by simp
        have hcut := fun W : World => cut_from 22 j j c .i64 (some ad) Tryd.underlying22 (Nat.le_refl _) W
        clear hx
        go_upto_region 48 with (fail)
        go_region
        all_goals (try (go_wp2_with fail))
        all_goals
          go_returns
          first | exact ⟨_, rfl, below_drew HAL.out⟩ | exact ⟨⟨_, rfl⟩, below_drew HAL.out⟩ | exact ⟨rfl, below_drew HAL.out⟩
      | succ k1 =>
        have hjm : j < m := by have := HJ.out; omega
        have dlt : decide ((j : Int) < (m : Int)) = true := by simpa using hjm
        obtain ⟨d, hdd⟩ : ∃ d, d = zs.getD j 0 := ⟨_, rfl⟩
        obtain ⟨x, hx⟩ : ∃ x, x = dval (zs.take j) := ⟨_, rfl⟩
        obtain ⟨y, hy⟩ : ∃ y, y = dval (zs.take (j + 1)) := ⟨_, rfl⟩
        obtain ⟨ad2, e2, k2, -⟩ := (HH.out.1.below (HAL.out.mono HH.out.2)).at_ j hjm
        obtain rfl : ad = ad2 := by injection e2
        have hdig := HD.out j (by rw [← HM.out.1]; exact hjm)
        rw [← hdd] at k2 hdig
        have hd1 : 48 ≤ d := hdig.1
        have hd2 : d ≤ 57 := hdig.2
        have hyx : (y : Int) = (x : Int) * 10 + (d - 48) := by
          have h := dval_take_succ zs j (by rw [← HM.out.1]; exact hjm)
          rw [← hy, ← hx, ← hdd] at h
          omega
        have hyu : y < 9223372036854775808 := by
          have h := dval_take_le zs (j + 1)
          rw [← hy, HV.out.1] at h
          have := HV.out.2
          omega
        have hw1 : IntKind.u8.wrap (d - 48) = d - 48 := by rw [IntKind.wrap_u8]; omega
        have hw2 : IntKind.i64.wrap (d - 48) = d - 48 := by rw [IntKind.wrap_i64]; omega
        have hw3 : IntKind.i64.wrap ((x : Int) * 10) = (x : Int) * 10 := by rw [IntKind.wrap_i64]; omega
        have hw4 : IntKind.i64.wrap ((x : Int) * 10 + (d - 48)) = (y : Int) := by rw [IntKind.wrap_i64, hyx]; omega
        have hlt : ¬ (y : Int) < (x : Int) := by omega
        have HY := Aside0.mk hy
        have hmi : (j : Int) < (m : Int) := by omega
        have hjb : j < 4000000000 := by have := HM.out; omega
        rw [← hx]
        clear hx hy hyx hyu hdig hdd e2
        go_wp2_with fail
        go_roundg k1
        case measure => omega
        case rel => exact ⟨j + 1, by rw [HY.out], by go_num, ⟨by have := HJ.out; omega⟩, rfl⟩
end Go.Proofs.YtekmminmgjoabaaDoor.Js

namespace Go.Proofs.YtekmminmgjoabaaDoor.Js
open Go.RowKit Go.Proofs.YtekmminmgjoabaaDoorW.PrintWords Go.Proofs.YtekmminmgjoabaaDoorW.PrintLast Go.Proofs.YtekmminmgjoabaaDoorW.PrintMore Go.Proofs.YtekmminmgjoabaaDoor.PFnJSTokens
set_option linter.unusedVariables false
set_option linter.unusedSimpArgs false
set_option maxHeartbeats 4000000 in
set_option maxRecDepth 100000 in
theorem int_neg (w : World) (B : Nat) (v : Value) (fl : Int) (s : Value) (zs : List Int) (u : Nat) (hd : ∀ c ∈ zs, 48 ≤ c ∧ c ≤ 57) (hp : 0 < zs.length) (hh : 1 < zs.length → zs.getD 0 0 ≠ 48) (hl : zs.length < 4000000000) (hv : dval zs = u) (hu : u ≤ 9223372036854775808) (h : Sl w B v (45 :: zs)) (hB : B ≤ w.heap.size) :
    Calls Tryd.prog 104 #[.agg #[.int .u32 fl], v, s] w fun e w' => ∃ v', e = .returned (.tuple #[.int .i64 (-(u : Int)), v', .nilIface]) ∧ Below w.heap.size w w' := by
  obtain ⟨A, m, c, rfl, hm⟩ := h.formv
  obtain ⟨ad, rfl, c0, -⟩ := h.at_ 0 (by rw [hm]; simp)
  have e0 : ad.add 0 = ad := by simp [Addr.add]
  rw [e0] at c0
  obtain ⟨A2, hcut, hd2⟩ := h.next 22 1 .i64 Tryd.underlying22 (by rw [hm]; simp)
  obtain ⟨n, hn⟩ : ∃ n, n = m - 1 := ⟨_, rfl⟩
  have hmn : n = zs.length := by rw [hn, hm]; simp
  have hm1 : m = n + 1 := by rw [hmn, hm]; rfl
  rw [← hn] at hcut hd2
  have hcut1 : ∀ W : World, (Instr.slice 22 (.slice (some ad) m c) (some (.int .i64 1)) none none).run Tryd.prog W = .ok (.slice A2 n (c - 1)) W := hcut
  have HD := Aside0.mk (fun j (hj : j < zs.length) => (show 48 ≤ zs.getD j 0 ∧ zs.getD j 0 ≤ 57 by
    rw [List.getD_eq_getElem?_getD, List.getElem?_eq_getElem hj]
    exact hd _ (List.getElem_mem hj)))
  have HV := Aside0.mk (And.intro hv hu)
  obtain ⟨w0, hw0⟩ : ∃ w0, w0 = w.alloc (.cells #[.int .u32 fl] 116) := ⟨_, rfl⟩
  have HAL := Aside0.mk (show Below w.heap.size w w0 by rw [hw0]; exact below_alloc (Below.refl _ _) _)
  have c1 : w0.cell? ad = some (.int .u8 45) := (pw_cell_below HAL.out c0).trans rfl
  have hsl0 : Sl w0 B (.slice (some ad) m c) (45 :: zs) := h.below (HAL.out.mono hB)
  have HS2 := Aside0.mk (show Sl w0 B (.slice A2 n (c - 1)) zs from hd2.below (HAL.out.mono hB))
  have hmp : 0 < m := by omega
  have hm2 : 1 < m := by omega
  have hz : ((m : Int) == 0) = false := by rw [beq_eq_false_iff_ne]; omega
  have hz1 : ((m : Int) == 1) = false := by rw [beq_eq_false_iff_ne]; omega
  have HM := Aside0.mk (And.intro hmn (And.intro hl hm1))
  obtain ⟨ad1, had1, k1, -⟩ := hsl0.at_ 1 hm2
  obtain rfl : ad = ad1 := by injection had1
  obtain ⟨b1, hb1⟩ : ∃ b1, b1 = zs.getD 0 0 := ⟨_, rfl⟩
  have k1' : w0.cell? (ad.add 1) = some (.int .u8 b1) := by rw [k1, hb1]; rfl
  have hne : 2 < m → ¬ b1 = 48 := fun h => by rw [hb1]; exact hh (by omega)
  have k1s := k1'
  simp [Addr.add] at k1s
  clear h hB hd hp hh hl hv hu hm c0 e0 hcut hd2 hn hmn hm1 k1 had1 hsl0 hb1
  go_enter Tryd.func104, Tryd.ntmps104
  go_upto_region 3 with (fail)
  rw [← hw0]
  clear hw0
  go_upto_region 8 with (fail)
  go_cut [60] (fun s60 wx => w0 = wx ∧ s60 = .bool false)
  case first =>
    by_cases h1 : 2 < m
    · have h1i : (2 : Int) < (m : Int) := by omega
      have hn0 : ¬ b1 = 48 := hne h1
      clear hne
      go_wp2_with fail
      all_goals (go_meet; exact ⟨rfl, rfl⟩)
    · have h1i : ¬ (2 : Int) < (m : Int) := by omega
      clear hne
      go_wp2_with fail
      all_goals (go_meet; exact ⟨rfl, rfl⟩)
  case rest =>
    obtain ⟨rfl, rfl⟩ := hcut
    clear hne c1 k1' k1s
    with_reducible apply_assumption
    go_upto_region 11 with (fail)
    go_loopg [9, 10, 12, 15, 67] n (fun gk v9 v10 v12 v15 v67 w' => ∃ j : Nat, v9 = .int .i64 (-((dval (zs.take j) : Nat) : Int)) ∧ v10 = .int .i64 (j : Int) ∧ v67 = .int .i64 (j : Int) ∧ Aside0 (j + gk = n) ∧ w0 = w')
    case atStart => exact ⟨0, rfl, rfl, rfl, ⟨by omega⟩, rfl⟩
    case round =>
      obtain ⟨j, rfl, rfl, rfl, HJ, rfl⟩ := hrel
      cases gk with
      | zero =>
        obtain rfl : j = n := by have := HJ.out; omega
        have hx : dval (zs.take j) = u := by rw [HM.out.1, List.take_length]; exact HV.out.1
        rw [hx]
        have hmj := HM.out.2.2
        subst hmj
        have hjb : j < 4000000000 := by have := HM.out; omega
        have dlt : decide ((j : Int) < (j : Int)) = false := by simp
        have hcut := fun W : World => cut_from 22 (j + 1) (j + 1) c .i64 (some ad) Tryd.underlying22 (Nat.le_refl _) W
        clear hx
        go_upto_region 48 with (fail)
        go_region
        all_goals (try (go_wp2_with fail))
        all_goals
          go_returns
          first | exact ⟨_, rfl, below_drew HAL.out⟩ | exact ⟨⟨_, rfl⟩, below_drew HAL.out⟩ | exact ⟨rfl, below_drew HAL.out⟩
      | succ k1 =>
        have hjm : j < n := by have := HJ.out; omega
        have dlt : decide ((j : Int) < (n : Int)) = true := by simpa using hjm
        obtain ⟨d, hdd⟩ : ∃ d, d = zs.getD j 0 := ⟨_, rfl⟩
        obtain ⟨x, hx⟩ : ∃ x, x = dval (zs.take j) := ⟨_, rfl⟩
        obtain ⟨y, hy⟩ : ∃ y, y = dval (zs.take (j + 1)) := ⟨_, rfl⟩
        obtain ⟨ad2, e2, k2, -⟩ := HS2.out.at_ j hjm
        subst e2
        have hdig := HD.out j (by rw [← HM.out.1]; exact hjm)
        rw [← hdd] at k2 hdig
        have hd1 : 48 ≤ d := hdig.1
        have hd2 : d ≤ 57 := hdig.2
        have hyx : (y : Int) = (x : Int) * 10 + (d - 48) := by
          have h := dval_take_succ zs j (by rw [← HM.out.1]; exact hjm)
          rw [← hy, ← hx, ← hdd] at h
          omega
        have hyu : y ≤ 9223372036854775808 := by
          have h := dval_take_le zs (j + 1)
          rw [← hy, HV.out.1] at h
          have := HV.out.2
          omega
        have hw0 : ¬ (-(x : Int)) < -922337203685477580 := by omega
        have hw1 : IntKind.u8.wrap (d - 48) = d - 48 := by rw [IntKind.wrap_u8]; omega
        have hw2 : IntKind.i64.wrap (d - 48) = d - 48 := by rw [IntKind.wrap_i64]; omega
        have hw3 : IntKind.i64.wrap (-(x : Int) * 10) = -(x : Int) * 10 := by rw [IntKind.wrap_i64]; omega
        have hw4 : IntKind.i64.wrap (-9223372036854775808 + (d - 48)) = -9223372036854775808 + (d - 48) := by rw [IntKind.wrap_i64]; omega
        have hw5 : IntKind.i64.wrap (-(x : Int) * 10 - (d - 48)) = -(y : Int) := by rw [IntKind.wrap_i64, hyx]; omega
        have hlt : ¬ (-(x : Int) * 10) < -9223372036854775808 + (d - 48) := by omega
        have HY := Aside0.mk hy
        have hmi : (j : Int) < (n : Int) := by omega
        have hjb : j < 4000000000 := by have := HM.out; omega
        rw [← hx]
        clear hx hy hyx hyu hdig hdd
        go_wp2_with fail
        go_roundg k1
        case measure => omega
        case rel => exact ⟨j + 1, by rw [HY.out], by go_num, by go_num, ⟨by have := HJ.out; omega⟩, rfl⟩
end Go.Proofs.YtekmminmgjoabaaDoor.Js

namespace Go.Proofs.YtekmminmgjoabaaDoor.Js
open Go.RowKit Go.Proofs.YtekmminmgjoabaaDoorW.PrintWords Go.Proofs.YtekmminmgjoabaaDoorW.PrintLast Go.Proofs.YtekmminmgjoabaaDoorW.PrintMore Go.Proofs.YtekmminmgjoabaaDoor.PFnJSTokens
set_option linter.unusedVariables false
set_option linter.unusedSimpArgs false
set_option maxHeartbeats 4000000 in
set_option maxRecDepth 100000 in
theorem tuint_calls (w : World) (B T : Nat) (v : List Int) (u : Nat) (hB : B ≤ T) (hd : ∀ c ∈ v, 48 ≤ c ∧ c ≤ 57) (hp : 0 < v.length) (hh : 1 < v.length → v.getD 0 0 ≠ 48) (hl : v.length < 4000000000) (hv : dval v = u) (hu : u < 18446744073709551616) (h : OnTok w B T v) :
    Calls Tryd.prog 74 #[.pointer (some ⟨T, 0, none⟩)] w fun e w' => e = .returned (.int .u64 (u : Int)) ∧ Below w.heap.size w w' := by
  obtain ⟨vv, js, sp, K, p, q, dp, ix, ik, nk, hT, hs⟩ := h
  have g1 := (tzr_cell hT 1).trans (show _ = some vv from rfl)
  have g9 := (tzr_cell hT 9).trans (show _ = some (Value.int .u32 (flK p q K)) from rfl)
  obtain ⟨fl, hfl⟩ : ∃ fl, fl = flK p q K := ⟨_, rfl⟩
  rw [← hfl] at g9
  have HC := Aside0.mk (fun (W : World) (s : Value) (hW : Below w.heap.size w W) => uint_calls W B vv fl s v u hd hp hh hl hv hu (hs.below (hW.mono (Nat.le_trans hB (Nat.le_of_lt (blk_lt hT))))) (Nat.le_trans hB (Nat.le_trans (Nat.le_of_lt (blk_lt hT)) hW.size)))
  clear hs hd hp hh hl hv hu hB hfl hT
  go_enter Tryd.func74, Tryd.ntmps74
  go_upto_region 1 with (fail)
  go_region_with (go_at_call 109; (with_reducible refine (HC.out _ _ ?_).mono ?_); (first | exact Below.refl _ _ | exact below_drew (Below.refl _ _)); rintro e W2 ⟨v', rfl, hb⟩; have HB2 := Aside0.mk (show Below w.heap.size w W2 from (below_drew (Below.refl _ _)).trans hb); clear hb)
  all_goals (try (go_wp2_with fail))
  all_goals
    go_returns
    exact ⟨rfl, HB2.out⟩
set_option maxHeartbeats 4000000 in
set_option maxRecDepth 100000 in
theorem tint_calls (w : World) (B T : Nat) (v : List Int) (u : Nat) (hB : B ≤ T) (hd : ∀ c ∈ v, 48 ≤ c ∧ c ≤ 57) (hp : 0 < v.length) (hh : 1 < v.length → v.getD 0 0 ≠ 48) (hl : v.length < 4000000000) (hv : dval v = u) (hu : u < 9223372036854775808) (h : OnTok w B T v) :
    Calls Tryd.prog 72 #[.pointer (some ⟨T, 0, none⟩)] w fun e w' => e = .returned (.int .i64 (u : Int)) ∧ Below w.heap.size w w' := by
  obtain ⟨vv, js, sp, K, p, q, dp, ix, ik, nk, hT, hs⟩ := h
  have g1 := (tzr_cell hT 1).trans (show _ = some vv from rfl)
  have g9 := (tzr_cell hT 9).trans (show _ = some (Value.int .u32 (flK p q K)) from rfl)
  obtain ⟨fl, hfl⟩ : ∃ fl, fl = flK p q K := ⟨_, rfl⟩
  rw [← hfl] at g9
  have HC := Aside0.mk (fun (W : World) (s : Value) (hW : Below w.heap.size w W) => int_calls W B vv fl s v u hd hp hh hl hv hu (hs.below (hW.mono (Nat.le_trans hB (Nat.le_of_lt (blk_lt hT))))) (Nat.le_trans hB (Nat.le_trans (Nat.le_of_lt (blk_lt hT)) hW.size)))
  clear hs hd hp hh hl hv hu hB hfl hT
  go_enter Tryd.func72, Tryd.ntmps72
  go_upto_region 1 with (fail)
  go_region_with (go_at_call 104; (with_reducible refine (HC.out _ _ ?_).mono ?_); (first | exact Below.refl _ _ | exact below_drew (Below.refl _ _)); rintro e W2 ⟨v', rfl, hb⟩; have HB2 := Aside0.mk (show Below w.heap.size w W2 from (below_drew (Below.refl _ _)).trans hb); clear hb)
  all_goals (try (go_wp2_with fail))
  all_goals
    go_returns
    exact ⟨rfl, HB2.out⟩
set_option maxHeartbeats 4000000 in
set_option maxRecDepth 100000 in
theorem tint_neg (w : World) (B T : Nat) (v : List Int) (u : Nat) (hB : B ≤ T) (hd : ∀ c ∈ v, 48 ≤ c ∧ c ≤ 57) (hp : 0 < v.length) (hh : 1 < v.length → v.getD 0 0 ≠ 48) (hl : v.length < 4000000000) (hv : dval v = u) (hu : u ≤ 9223372036854775808) (h : OnTok w B T (45 :: v)) :
    Calls Tryd.prog 72 #[.pointer (some ⟨T, 0, none⟩)] w fun e w' => e = .returned (.int .i64 (-(u : Int))) ∧ Below w.heap.size w w' := by
  obtain ⟨vv, js, sp, K, p, q, dp, ix, ik, nk, hT, hs⟩ := h
  have g1 := (tzr_cell hT 1).trans (show _ = some vv from rfl)
  have g9 := (tzr_cell hT 9).trans (show _ = some (Value.int .u32 (flK p q K)) from rfl)
  obtain ⟨fl, hfl⟩ : ∃ fl, fl = flK p q K := ⟨_, rfl⟩
  rw [← hfl] at g9
  have HC := Aside0.mk (fun (W : World) (s : Value) (hW : Below w.heap.size w W) => int_neg W B vv fl s v u hd hp hh hl hv hu (hs.below (hW.mono (Nat.le_trans hB (Nat.le_of_lt (blk_lt hT))))) (Nat.le_trans hB (Nat.le_trans (Nat.le_of_lt (blk_lt hT)) hW.size)))
  clear hs hd hp hh hl hv hu hB hfl hT
  go_enter Tryd.func72, Tryd.ntmps72
  go_upto_region 1 with (fail)
  go_region_with (go_at_call 104; (with_reducible refine (HC.out _ _ ?_).mono ?_); (first | exact Below.refl _ _ | exact below_drew (Below.refl _ _)); rintro e W2 ⟨v', rfl, hb⟩; have HB2 := Aside0.mk (show Below w.heap.size w W2 from (below_drew (Below.refl _ _)).trans hb); clear hb)
  all_goals (try (go_wp2_with fail))
  all_goals
    go_returns
    exact ⟨rfl, HB2.out⟩
end Go.Proofs.YtekmminmgjoabaaDoor.Js

namespace Go.Proofs.YtekmminmgjoabaaDoor.Js
open Go.RowKit Go.Proofs.YtekmminmgjoabaaDoorW.PrintWords Go.Proofs.YtekmminmgjoabaaDoorW.PrintLast Go.Proofs.YtekmminmgjoabaaDoorW.PrintMore Go.Proofs.YtekmminmgjoabaaDoor.PFnJSTokens
set_option linter.unusedVariables false
set_option linter.unusedSimpArgs false
theorem OnTok.keep {W W' : World} {B T g : Nat} {v : List Int} {b : Value} (h : OnTok W B T v) (hg : W.heap[g]? = some (.cells #[b] 4 (0, 0))) (hk : KeepBut W W' g none) (hb : Below B W W') : OnTok W' B T v := by
  obtain ⟨vv, js, sp, K, p, q, dp, ix, ik, nk, hT, hs⟩ := h
  have hne : T ≠ g := by
    rintro rfl
    rw [hT] at hg
    injection hg with hg
    injection hg with h1 h2
    exact absurd h2 (by decide)
  exact ⟨vv, js, sp, K, p, q, dp, ix, ik, nk, (hk.2 T (blk_lt hT) hne (by simp)).trans hT, hs.below hb⟩
theorem OnTok.drew {W : World} {B T : Nat} {v : List Int} (h : OnTok W B T v) : OnTok W.drew B T v := by
  obtain ⟨vv, js, sp, K, p, q, dp, ix, ik, nk, hT, hs⟩ := h
  exact ⟨vv, js, sp, K, p, q, dp, ix, ik, nk, hT, hs.same rfl⟩
/-- What holds all along the region behind the first token. -/
def Held3 (w W : World) : Prop := W.heap[w.heap.size]? = some (.cells #[.bool true] 4 (0, 0)) ∧ Below w.heap.size w W
theorem Held3.cell {w W : World} (h : Held3 w W) : W.cell? ⟨w.heap.size, 0, none⟩ = some (.bool true) := (blk_cell h.1 0).trans rfl
theorem Held3.free {w W : World} (h : Held3 w W) : W.frozen? ⟨w.heap.size, 0, none⟩ = false := blk_frozen h.1 0
theorem Held3.drew {w W : World} (h : Held3 w W) : Held3 w W.drew := ⟨h.1, below_drew h.2⟩
theorem Held3.below {w W W' : World} (h : Held3 w W) (hb : Below W.heap.size W W') : Held3 w W' := ⟨blk_below h.1 hb, h.2.trans (hb.mono h.2.size)⟩
theorem Held3.set {w W : World} (h : Held3 w W) : Held3 w (W.setCell ⟨w.heap.size, 0, none⟩ (.bool true)) := ⟨blk_set h.1 0 _, h.2.setCell (Nat.le_refl _) _⟩
set_option maxHeartbeats 4000000 in
set_option maxRecDepth 100000 in
theorem jsUint_calls (w : World) (A : Option Addr) (m c : Nat) (sp v : List Int) (u : Int) (st1 : St) (hst : (⟨[], false⟩ : St).after 0 = some st1) (hp : Plain 3 v) (hl : (sp ++ (v ++ [])).length < 2000000000) (hsp : ∀ c ∈ sp, isSp c = true) (hs : Sl w w.heap.size (.slice A m c) (sp ++ (v ++ []))) (hby : Bytes (sp ++ (v ++ []))) (ht : Tab w)
    (hu : ∀ (W : World) (T : Nat), w.heap.size ≤ T → OnTok W w.heap.size T v → Calls Tryd.prog 74 #[.pointer (some ⟨T, 0, none⟩)] W fun e w' => e = .returned (.int .u64 u) ∧ Below W.heap.size W w') :
    Calls Tryd.prog 40 #[.slice A m c] w fun e w' => e = .returned (.tuple #[.int .u64 u, .bool true]) ∧ Below w.heap.size w w' := by
  have h3 := tab_lt ht
  have hal := below_alloc (Below.refl w.heap.size w) (.cells #[.bool false] 4)
  have HOK := Aside0.mk (blk_new w (.cells #[.bool false] 4))
  have HAL := Aside0.mk hal
  have HN := Aside0.mk (first_calls (w.alloc (.cells #[.bool false] 4)) w.heap.size h3 (by simp) A m c _ sp v 3 st1 hst rfl hsp hp (hs.below hal) hby (by omega) ((ht.base h3 hal)))
  have HU := Aside0.mk hu
  clear hal hs hby hl ht h3 hsp hp hst hu
  go_enter_defers Tryd.func40, Tryd.ntmps40
  go_upto_region 3 with (first
    | (go_at_call 56; (with_reducible refine HN.out.mono ?_); rintro e W1 ⟨T, rfl, hT, ho, hb1⟩; have HOT := Aside0.mk ho; have HTT := Aside0.mk hT; have HOK1 := Aside0.mk (hb1.keep _ _ _ HOK.out (by rintro (h | h | h) <;> cases h)); have HB1 := Aside0.mk (HAL.out.trans hb1.below); clear ho hT hb1)
    | ((with_reducible refine gate_st rfl ?_); refine store_any _ _ _ rfl rfl rfl HOK1.out rfl (by simp) rfl rfl rfl (by kernel_rfl) ?_; intro W2 hb2 hk2 hg2; have HS2 := Aside0.mk (show Held3 w W2 from ⟨hb2, HB1.out.trans hg2⟩); have HOT2 := Aside0.mk (HOT.out.keep HOK1.out hk2 hg2); clear hb2 hk2 hg2))
  have HU2 := Aside0.mk (HU.out _ T HTT.out HOT2.out.drew)
  have HSD := Aside0.mk HS2.out.drew
  clear HU HN HOK HAL HOT HOK1 HB1 HOT2 HS2
  refine wp_region_held_drew (S := Held3 w) (by kernel_rfl) HSD.out (fun hHeld => ?_)
  (try simp only [Act.put, List.setIfInBounds_toArray, List.set_cons_zero, List.set_cons_succ])
  refine wpAnyH_ready (rs := [0, 2]) (by kernel_rfl) (by simp) ?_
  refine AllReadyH.cons (o := ⟨_, _, _, _, _, _⟩) rfl (fun K hK => ?_) (AllReadyH.cons (o := ⟨_, _, _, _, _, _⟩) rfl (fun K hK => ?_) AllReadyH.nil)
  · go_simp
    refine hK.out _ _ HSD.out (fun hHeld => ?_)
    clear hK K
    (try simp only [Act.put, List.setIfInBounds_toArray, List.set_cons_zero, List.set_cons_succ])
    refine wpAnyH_ready (rs := [1, 2]) (by kernel_rfl) (by simp) ?_
    refine AllReadyH.cons (o := ⟨_, _, _, _, _, _⟩) rfl (fun K hK => ?_) (AllReadyH.cons (o := ⟨_, _, _, _, _, _⟩) rfl (fun K hK => ?_) AllReadyH.nil)
    · go_simp
      go_at_call 74
      (with_reducible refine HU2.out.mono ?_)
      rintro e w9 ⟨rfl, hb⟩
      have HS9 := Aside0.mk (HSD.out.below hb)
      clear hb
      refine hK.out _ _ HS9.out (fun hHeld => ?_)
      clear hK K
      (try simp only [Act.put, List.setIfInBounds_toArray, List.set_cons_zero, List.set_cons_succ])
      refine wpAnyH_ready (rs := [2, 3]) (by kernel_rfl) (by simp) ?_
      refine AllReadyH.cons (o := ⟨_, _, _, _, _, _⟩) rfl (fun K hK => ?_) (AllReadyH.cons (o := ⟨_, _, _, _, _, _⟩) rfl (fun K hK => ?_) AllReadyH.nil)
      · have c2 := HS9.out.cell
        go_simp
        refine hK.out _ _ HS9.out (fun hHeld => ?_)
        clear hK K
        clear c2
        (try simp only [Act.put, List.setIfInBounds_toArray, List.set_cons_zero, List.set_cons_succ])
        refine wpAnyH_ready (rs := [3]) (by kernel_rfl) (by simp) ?_
        refine AllReadyH.cons (o := ⟨_, _, _, _, _, _⟩) rfl (fun K hK => ?_) AllReadyH.nil
        go_simp
        refine hK.out _ _ HS9.out (fun hHeld => ?_)
        clear hK K
        (try simp only [Act.put, List.setIfInBounds_toArray, List.set_cons_zero, List.set_cons_succ])
        refine wpAnyH_ready (rs := [4]) (by kernel_rfl) (by simp) ?_
        refine AllReadyH.cons (o := ⟨_, _, _, _, _, _⟩) rfl (fun K hK => ?_) AllReadyH.nil
        have c9 := HS9.out.cell
        have f9 := HS9.out.free
        go_simp
        refine hK.out _ _ HS9.out.set (fun hHeld => ?_)
        clear hK K
        refine wpAnyH_done (by kernel_rfl) ?_ _
        have HS10 := Aside0.mk HS9.out.set
        obtain ⟨W10, hW10⟩ : ∃ W10, W10 = w9.setCell ⟨w.heap.size, 0, none⟩ (.bool true) := ⟨_, rfl⟩
        rw [← hW10] at HS10 ⊢
        clear hW10 HS9 c9 f9 HSD
        go_wp2_with fail
        refine leaves_cons (f := 53) (args := #[.pointer (some ⟨w.heap.size, 0, none⟩)]) (by simp) (by simp [go_sem]) ?_
        refine (caught_idle _ _).mono ?_
        rintro e u' w'' ⟨rfl, rfl, rfl⟩
        have hcc := HS10.out.cell
        refine ⟨.tuple #[.int .u64 u, .bool true], ?_, ?_⟩
        · simp [results, Tryd.results40, go_sem, hcc]
        · exact ⟨rfl, HS10.out.2⟩
      · go_simp
        refine hK.out _ _ HS9.out (fun hHeld => ?_)
        clear hK K
        (try simp only [Act.put, List.setIfInBounds_toArray, List.set_cons_zero, List.set_cons_succ])
        refine wpAnyH_ready (rs := [2]) (by kernel_rfl) (by simp) ?_
        refine AllReadyH.cons (o := ⟨_, _, _, _, _, _⟩) rfl (fun K hK => ?_) AllReadyH.nil
        have c2 := HS9.out.cell
        go_simp
        refine hK.out _ _ HS9.out (fun hHeld => ?_)
        clear hK K
        clear c2
        (try simp only [Act.put, List.setIfInBounds_toArray, List.set_cons_zero, List.set_cons_succ])
        refine wpAnyH_ready (rs := [4]) (by kernel_rfl) (by simp) ?_
        refine AllReadyH.cons (o := ⟨_, _, _, _, _, _⟩) rfl (fun K hK => ?_) AllReadyH.nil
        have c9 := HS9.out.cell
        have f9 := HS9.out.free
        go_simp
        refine hK.out _ _ HS9.out.set (fun hHeld => ?_)
        clear hK K
        refine wpAnyH_done (by kernel_rfl) ?_ _
        have HS10 := Aside0.mk HS9.out.set
        obtain ⟨W10, hW10⟩ : ∃ W10, W10 = w9.setCell ⟨w.heap.size, 0, none⟩ (.bool true) := ⟨_, rfl⟩
        rw [← hW10] at HS10 ⊢
        clear hW10 HS9 c9 f9 HSD
        go_wp2_with fail
        refine leaves_cons (f := 53) (args := #[.pointer (some ⟨w.heap.size, 0, none⟩)]) (by simp) (by simp [go_sem]) ?_
        refine (caught_idle _ _).mono ?_
        rintro e u' w'' ⟨rfl, rfl, rfl⟩
        have hcc := HS10.out.cell
        refine ⟨.tuple #[.int .u64 u, .bool true], ?_, ?_⟩
        · simp [results, Tryd.results40, go_sem, hcc]
        · exact ⟨rfl, HS10.out.2⟩
    · have c2 := HSD.out.cell
      go_simp
      refine hK.out _ _ HSD.out (fun hHeld => ?_)
      clear hK K
      clear c2
      (try simp only [Act.put, List.setIfInBounds_toArray, List.set_cons_zero, List.set_cons_succ])
      refine wpAnyH_ready (rs := [1]) (by kernel_rfl) (by simp) ?_
      refine AllReadyH.cons (o := ⟨_, _, _, _, _, _⟩) rfl (fun K hK => ?_) AllReadyH.nil
      go_simp
      go_at_call 74
      (with_reducible refine HU2.out.mono ?_)
      rintro e w9 ⟨rfl, hb⟩
      have HS9 := Aside0.mk (HSD.out.below hb)
      clear hb
      refine hK.out _ _ HS9.out (fun hHeld => ?_)
      clear hK K
      (try simp only [Act.put, List.setIfInBounds_toArray, List.set_cons_zero, List.set_cons_succ])
      refine wpAnyH_ready (rs := [3]) (by kernel_rfl) (by simp) ?_
      refine AllReadyH.cons (o := ⟨_, _, _, _, _, _⟩) rfl (fun K hK => ?_) AllReadyH.nil
      go_simp
      refine hK.out _ _ HS9.out (fun hHeld => ?_)
      clear hK K
      (try simp only [Act.put, List.setIfInBounds_toArray, List.set_cons_zero, List.set_cons_succ])
      refine wpAnyH_ready (rs := [4]) (by kernel_rfl) (by simp) ?_
      refine AllReadyH.cons (o := ⟨_, _, _, _, _, _⟩) rfl (fun K hK => ?_) AllReadyH.nil
      have c9 := HS9.out.cell
      have f9 := HS9.out.free
      go_simp
      refine hK.out _ _ HS9.out.set (fun hHeld => ?_)
      clear hK K
      refine wpAnyH_done (by kernel_rfl) ?_ _
      have HS10 := Aside0.mk HS9.out.set
      obtain ⟨W10, hW10⟩ : ∃ W10, W10 = w9.setCell ⟨w.heap.size, 0, none⟩ (.bool true) := ⟨_, rfl⟩
      rw [← hW10] at HS10 ⊢
      clear hW10 HS9 c9 f9 HSD
      go_wp2_with fail
      refine leaves_cons (f := 53) (args := #[.pointer (some ⟨w.heap.size, 0, none⟩)]) (by simp) (by simp [go_sem]) ?_
      refine (caught_idle _ _).mono ?_
      rintro e u' w'' ⟨rfl, rfl, rfl⟩
      have hcc := HS10.out.cell
      refine ⟨.tuple #[.int .u64 u, .bool true], ?_, ?_⟩
      · simp [results, Tryd.results40, go_sem, hcc]
      · exact ⟨rfl, HS10.out.2⟩
  · have c2 := HSD.out.cell
    go_simp
    refine hK.out _ _ HSD.out (fun hHeld => ?_)
    clear hK K
    clear c2
    (try simp only [Act.put, List.setIfInBounds_toArray, List.set_cons_zero, List.set_cons_succ])
    refine wpAnyH_ready (rs := [0]) (by kernel_rfl) (by simp) ?_
    refine AllReadyH.cons (o := ⟨_, _, _, _, _, _⟩) rfl (fun K hK => ?_) AllReadyH.nil
    go_simp
    refine hK.out _ _ HSD.out (fun hHeld => ?_)
    clear hK K
    (try simp only [Act.put, List.setIfInBounds_toArray, List.set_cons_zero, List.set_cons_succ])
    refine wpAnyH_ready (rs := [1]) (by kernel_rfl) (by simp) ?_
    refine AllReadyH.cons (o := ⟨_, _, _, _, _, _⟩) rfl (fun K hK => ?_) AllReadyH.nil
    go_simp
    go_at_call 74
    (with_reducible refine HU2.out.mono ?_)
    rintro e w9 ⟨rfl, hb⟩
    have HS9 := Aside0.mk (HSD.out.below hb)
    clear hb
    refine hK.out _ _ HS9.out (fun hHeld => ?_)
    clear hK K
    (try simp only [Act.put, List.setIfInBounds_toArray, List.set_cons_zero, List.set_cons_succ])
    refine wpAnyH_ready (rs := [3]) (by kernel_rfl) (by simp) ?_
    refine AllReadyH.cons (o := ⟨_, _, _, _, _, _⟩) rfl (fun K hK => ?_) AllReadyH.nil
    go_simp
    refine hK.out _ _ HS9.out (fun hHeld => ?_)
    clear hK K
    (try simp only [Act.put, List.setIfInBounds_toArray, List.set_cons_zero, List.set_cons_succ])
    refine wpAnyH_ready (rs := [4]) (by kernel_rfl) (by simp) ?_
    refine AllReadyH.cons (o := ⟨_, _, _, _, _, _⟩) rfl (fun K hK => ?_) AllReadyH.nil
    have c9 := HS9.out.cell
    have f9 := HS9.out.free
    go_simp
    refine hK.out _ _ HS9.out.set (fun hHeld => ?_)
    clear hK K
    refine wpAnyH_done (by kernel_rfl) ?_ _
    have HS10 := Aside0.mk HS9.out.set
    obtain ⟨W10, hW10⟩ : ∃ W10, W10 = w9.setCell ⟨w.heap.size, 0, none⟩ (.bool true) := ⟨_, rfl⟩
    rw [← hW10] at HS10 ⊢
    clear hW10 HS9 c9 f9 HSD
    go_wp2_with fail
    refine leaves_cons (f := 53) (args := #[.pointer (some ⟨w.heap.size, 0, none⟩)]) (by simp) (by simp [go_sem]) ?_
    refine (caught_idle _ _).mono ?_
    rintro e u' w'' ⟨rfl, rfl, rfl⟩
    have hcc := HS10.out.cell
    refine ⟨.tuple #[.int .u64 u, .bool true], ?_, ?_⟩
    · simp [results, Tryd.results40, go_sem, hcc]
    · exact ⟨rfl, HS10.out.2⟩
set_option maxHeartbeats 4000000 in
set_option maxRecDepth 100000 in
theorem jsInt_calls (w : World) (A : Option Addr) (m c : Nat) (sp v : List Int) (u : Int) (st1 : St) (hst : (⟨[], false⟩ : St).after 0 = some st1) (hp : Plain 3 v) (hl : (sp ++ (v ++ [])).length < 2000000000) (hsp : ∀ c ∈ sp, isSp c = true) (hs : Sl w w.heap.size (.slice A m c) (sp ++ (v ++ []))) (hby : Bytes (sp ++ (v ++ []))) (ht : Tab w)
    (hu : ∀ (W : World) (T : Nat), w.heap.size ≤ T → OnTok W w.heap.size T v → Calls Tryd.prog 72 #[.pointer (some ⟨T, 0, none⟩)] W fun e w' => e = .returned (.int .i64 u) ∧ Below W.heap.size W w') :
    Calls Tryd.prog 38 #[.slice A m c] w fun e w' => e = .returned (.tuple #[.int .i64 u, .bool true]) ∧ Below w.heap.size w w' := by
  have h3 := tab_lt ht
  have hal := below_alloc (Below.refl w.heap.size w) (.cells #[.bool false] 4)
  have HOK := Aside0.mk (blk_new w (.cells #[.bool false] 4))
  have HAL := Aside0.mk hal
  have HN := Aside0.mk (first_calls (w.alloc (.cells #[.bool false] 4)) w.heap.size h3 (by simp) A m c _ sp v 3 st1 hst rfl hsp hp (hs.below hal) hby (by omega) ((ht.base h3 hal)))
  have HU := Aside0.mk hu
  clear hal hs hby hl ht h3 hsp hp hst hu
  go_enter_defers Tryd.func38, Tryd.ntmps38
  go_upto_region 3 with (first
    | (go_at_call 56; (with_reducible refine HN.out.mono ?_); rintro e W1 ⟨T, rfl, hT, ho, hb1⟩; have HOT := Aside0.mk ho; have HTT := Aside0.mk hT; have HOK1 := Aside0.mk (hb1.keep _ _ _ HOK.out (by rintro (h | h | h) <;> cases h)); have HB1 := Aside0.mk (HAL.out.trans hb1.below); clear ho hT hb1)
    | ((with_reducible refine gate_st rfl ?_); refine store_any _ _ _ rfl rfl rfl HOK1.out rfl (by simp) rfl rfl rfl (by kernel_rfl) ?_; intro W2 hb2 hk2 hg2; have HS2 := Aside0.mk (show Held3 w W2 from ⟨hb2, HB1.out.trans hg2⟩); have HOT2 := Aside0.mk (HOT.out.keep HOK1.out hk2 hg2); clear hb2 hk2 hg2))
  have HU2 := Aside0.mk (HU.out _ T HTT.out HOT2.out.drew)
  have HSD := Aside0.mk HS2.out.drew
  clear HU HN HOK HAL HOT HOK1 HB1 HOT2 HS2
  refine wp_region_held_drew (S := Held3 w) (by kernel_rfl) HSD.out (fun hHeld => ?_)
  (try simp only [Act.put, List.setIfInBounds_toArray, List.set_cons_zero, List.set_cons_succ])
  refine wpAnyH_ready (rs := [0, 2]) (by kernel_rfl) (by simp) ?_
  refine AllReadyH.cons (o := ⟨_, _, _, _, _, _⟩) rfl (fun K hK => ?_) (AllReadyH.cons (o := ⟨_, _, _, _, _, _⟩) rfl (fun K hK => ?_) AllReadyH.nil)
  · go_simp
    refine hK.out _ _ HSD.out (fun hHeld => ?_)
    clear hK K
    (try simp only [Act.put, List.setIfInBounds_toArray, List.set_cons_zero, List.set_cons_succ])
    refine wpAnyH_ready (rs := [1, 2]) (by kernel_rfl) (by simp) ?_
    refine AllReadyH.cons (o := ⟨_, _, _, _, _, _⟩) rfl (fun K hK => ?_) (AllReadyH.cons (o := ⟨_, _, _, _, _, _⟩) rfl (fun K hK => ?_) AllReadyH.nil)
    · go_simp
      go_at_call 72
      (with_reducible refine HU2.out.mono ?_)
      rintro e w9 ⟨rfl, hb⟩
      have HS9 := Aside0.mk (HSD.out.below hb)
      clear hb
      refine hK.out _ _ HS9.out (fun hHeld => ?_)
      clear hK K
      (try simp only [Act.put, List.setIfInBounds_toArray, List.set_cons_zero, List.set_cons_succ])
      refine wpAnyH_ready (rs := [2, 3]) (by kernel_rfl) (by simp) ?_
      refine AllReadyH.cons (o := ⟨_, _, _, _, _, _⟩) rfl (fun K hK => ?_) (AllReadyH.cons (o := ⟨_, _, _, _, _, _⟩) rfl (fun K hK => ?_) AllReadyH.nil)
      · have c2 := HS9.out.cell
        go_simp
        refine hK.out _ _ HS9.out (fun hHeld => ?_)
        clear hK K
        clear c2
        (try simp only [Act.put, List.setIfInBounds_toArray, List.set_cons_zero, List.set_cons_succ])
        refine wpAnyH_ready (rs := [3]) (by kernel_rfl) (by simp) ?_
        refine AllReadyH.cons (o := ⟨_, _, _, _, _, _⟩) rfl (fun K hK => ?_) AllReadyH.nil
        go_simp
        refine hK.out _ _ HS9.out (fun hHeld => ?_)
        clear hK K
        (try simp only [Act.put, List.setIfInBounds_toArray, List.set_cons_zero, List.set_cons_succ])
        refine wpAnyH_ready (rs := [4]) (by kernel_rfl) (by simp) ?_
        refine AllReadyH.cons (o := ⟨_, _, _, _, _, _⟩) rfl (fun K hK => ?_) AllReadyH.nil
        have c9 := HS9.out.cell
        have f9 := HS9.out.free
        go_simp
        refine hK.out _ _ HS9.out.set (fun hHeld => ?_)
        clear hK K
        refine wpAnyH_done (by kernel_rfl) ?_ _
        have HS10 := Aside0.mk HS9.out.set
        obtain ⟨W10, hW10⟩ : ∃ W10, W10 = w9.setCell ⟨w.heap.size, 0, none⟩ (.bool true) := ⟨_, rfl⟩
        rw [← hW10] at HS10 ⊢
        clear hW10 HS9 c9 f9 HSD
        go_wp2_with fail
        refine leaves_cons (f := 53) (args := #[.pointer (some ⟨w.heap.size, 0, none⟩)]) (by simp) (by simp [go_sem]) ?_
        refine (caught_idle _ _).mono ?_
        rintro e u' w'' ⟨rfl, rfl, rfl⟩
        have hcc := HS10.out.cell
        refine ⟨.tuple #[.int .i64 u, .bool true], ?_, ?_⟩
        · simp [results, Tryd.results38, go_sem, hcc]
        · exact ⟨rfl, HS10.out.2⟩
      · go_simp
        refine hK.out _ _ HS9.out (fun hHeld => ?_)
        clear hK K
        (try simp only [Act.put, List.setIfInBounds_toArray, List.set_cons_zero, List.set_cons_succ])
        refine wpAnyH_ready (rs := [2]) (by kernel_rfl) (by simp) ?_
        refine AllReadyH.cons (o := ⟨_, _, _, _, _, _⟩) rfl (fun K hK => ?_) AllReadyH.nil
        have c2 := HS9.out.cell
        go_simp
        refine hK.out _ _ HS9.out (fun hHeld => ?_)
        clear hK K
        clear c2
        (try simp only [Act.put, List.setIfInBounds_toArray, List.set_cons_zero, List.set_cons_succ])
        refine wpAnyH_ready (rs := [4]) (by kernel_rfl) (by simp) ?_
        refine AllReadyH.cons (o := ⟨_, _, _, _, _, _⟩) rfl (fun K hK => ?_) AllReadyH.nil
        have c9 := HS9.out.cell
        have f9 := HS9.out.free
        go_simp
        refine hK.out _ _ HS9.out.set (fun hHeld => ?_)
        clear hK K
        refine wpAnyH_done (by kernel_rfl) ?_ _
        have HS10 := Aside0.mk HS9.out.set
        obtain ⟨W10, hW10⟩ : ∃ W10, W10 = w9.setCell ⟨w.heap.size, 0, none⟩ (.bool true) := ⟨_, rfl⟩
        rw [← hW10] at HS10 ⊢
        clear hW10 HS9 c9 f9 HSD
        go_wp2_with fail
        refine leaves_cons (f := 53) (args := #[.pointer (some ⟨w.heap.size, 0, none⟩)]) (by simp) (by simp [go_sem]) ?_
        refine (caught_idle _ _).mono ?_
        rintro e u' w'' ⟨rfl, rfl, rfl⟩
        have hcc := HS10.out.cell
        refine ⟨.tuple #[.int .i64 u, .bool true], ?_, ?_⟩
        · simp [results, Tryd.results38, go_sem, hcc]
        · exact ⟨rfl, HS10.out.2⟩
    · have c2 := HSD.out.cell
      go_simp
      refine hK.out _ _ HSD.out (fun hHeld => ?_)
      clear hK K
      clear c2
      (try simp only [Act.put, List.setIfInBounds_toArray, List.set_cons_zero, List.set_cons_succ])
      refine wpAnyH_ready (rs := [1]) (by kernel_rfl) (by simp) ?_
      refine AllReadyH.cons (o := ⟨_, _, _, _, _, _⟩) rfl (fun K hK => ?_) AllReadyH.nil
      go_simp
      go_at_call 72
      (with_reducible refine HU2.out.mono ?_)
      rintro e w9 ⟨rfl, hb⟩
      have HS9 := Aside0.mk (HSD.out.below hb)
      clear hb
      refine hK.out _ _ HS9.out (fun hHeld => ?_)
      clear hK K
      (try simp only [Act.put, List.setIfInBounds_toArray, List.set_cons_zero, List.set_cons_succ])
      refine wpAnyH_ready (rs := [3]) (by kernel_rfl) (by simp) ?_
      refine AllReadyH.cons (o := ⟨_, _, _, _, _, _⟩) rfl (fun K hK => ?_) AllReadyH.nil
      go_simp
      refine hK.out _ _ HS9.out (fun hHeld => ?_)
      clear hK K
      (try simp only [Act.put, List.setIfInBounds_toArray, List.set_cons_zero, List.set_cons_succ])
      refine wpAnyH_ready (rs := [4]) (by kernel_rfl) (by simp) ?_
      refine AllReadyH.cons (o := ⟨_, _, _, _, _, _⟩) rfl (fun K hK => ?_) AllReadyH.nil
      have c9 := HS9.out.cell
      have f9 := HS9.out.free
      go_simp
      refine hK.out _ _ HS9.out.set (fun hHeld => ?_)
      clear hK K
      refine wpAnyH_done (by kernel_rfl) ?_ _
      have HS10 := Aside0.mk HS9.out.set
      obtain ⟨W10, hW10⟩ : ∃ W10, W10 = w9.setCell ⟨w.heap.size, 0, none⟩ (.bool true) := ⟨_, rfl⟩
      rw [← hW10] at HS10 ⊢
      clear hW10 HS9 c9 f9 HSD
      go_wp2_with fail
      refine leaves_cons (f := 53) (args := #[.pointer (some ⟨w.heap.size, 0, none⟩)]) (by simp) (by simp [go_sem]) ?_
      refine (caught_idle _ _).mono ?_
      rintro e u' w'' ⟨rfl, rfl, rfl⟩
      have hcc := HS10.out.cell
      refine ⟨.tuple #[.int .i64 u, .bool true], ?_, ?_⟩
      · simp [results, Tryd.results38, go_sem, hcc]
      · exact ⟨rfl, HS10.out.2⟩
  · have c2 := HSD.out.cell
    go_simp
    refine hK.out _ _ HSD.out (fun hHeld => ?_)
    clear hK K
    clear c2
    (try simp only [Act.put, List.setIfInBounds_toArray, List.set_cons_zero, List.set_cons_succ])
    refine wpAnyH_ready (rs := [0]) (by kernel_rfl) (by simp) ?_
    refine AllReadyH.cons (o := ⟨_, _, _, _, _, _⟩) rfl (fun K hK => ?_) AllReadyH.nil
    go_simp
    refine hK.out _ _ HSD.out (fun hHeld => ?_)
    clear hK K
    (try simp only [Act.put, List.setIfInBounds_toArray, List.set_cons_zero, List.set_cons_succ])
    refine wpAnyH_ready (rs := [1]) (by kernel_rfl) (by simp) ?_
    refine AllReadyH.cons (o := ⟨_, _, _, _, _, _⟩) rfl (fun K hK => ?_) AllReadyH.nil
    go_simp
    go_at_call 72
    (with_reducible refine HU2.out.mono ?_)
    rintro e w9 ⟨rfl, hb⟩
    have HS9 := Aside0.mk (HSD.out.below hb)
    clear hb
    refine hK.out _ _ HS9.out (fun hHeld => ?_)
    clear hK K
    (try simp only [Act.put, List.setIfInBounds_toArray, List.set_cons_zero, List.set_cons_succ])
    refine wpAnyH_ready (rs := [3]) (by kernel_rfl) (by simp) ?_
    refine AllReadyH.cons (o := ⟨_, _, _, _, _, _⟩) rfl (fun K hK => ?_) AllReadyH.nil
    go_simp
    refine hK.out _ _ HS9.out (fun hHeld => ?_)
    clear hK K
    (try simp only [Act.put, List.setIfInBounds_toArray, List.set_cons_zero, List.set_cons_succ])
    refine wpAnyH_ready (rs := [4]) (by kernel_rfl) (by simp) ?_
    refine AllReadyH.cons (o := ⟨_, _, _, _, _, _⟩) rfl (fun K hK => ?_) AllReadyH.nil
    have c9 := HS9.out.cell
    have f9 := HS9.out.free
    go_simp
    refine hK.out _ _ HS9.out.set (fun hHeld => ?_)
    clear hK K
    refine wpAnyH_done (by kernel_rfl) ?_ _
    have HS10 := Aside0.mk HS9.out.set
    obtain ⟨W10, hW10⟩ : ∃ W10, W10 = w9.setCell ⟨w.heap.size, 0, none⟩ (.bool true) := ⟨_, rfl⟩
    rw [← hW10] at HS10 ⊢
    clear hW10 HS9 c9 f9 HSD
    go_wp2_with fail
    refine leaves_cons (f := 53) (args := #[.pointer (some ⟨w.heap.size, 0, none⟩)]) (by simp) (by simp [go_sem]) ?_
    refine (caught_idle _ _).mono ?_
    rintro e u' w'' ⟨rfl, rfl, rfl⟩
    have hcc := HS10.out.cell
    refine ⟨.tuple #[.int .i64 u, .bool true], ?_, ?_⟩
    · simp [results, Tryd.results38, go_sem, hcc]
    · exact ⟨rfl, HS10.out.2⟩
end Go.Proofs.YtekmminmgjoabaaDoor.Js
