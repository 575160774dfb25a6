/- A list of calls is written: the bytes of each one, one behind the other. -/
import Derived.Test.YtmjilokgpgajjaaGreatSThM2
import Derived.Test.YtmjilokgpgajjaaGreatSThM1
namespace Go.Proofs.YtmjilokgpgajjaaGreat.Th
open Go.RowKit Go.Proofs.YtmjilokgpgajjaaGreatW.PrintWords Go.Proofs.YtmjilokgpgajjaaGreatW.PrintLast Go.Proofs.YtmjilokgpgajjaaGreatW.PrintMore Go.Proofs.YtmjilokgpgajjaaGreat.PFnTHScripts
set_option linter.unusedVariables false
set_option linter.unusedSimpArgs false
/-- The call is written as these bytes, by a writer of this kind. -/
def Wr (wt T off SZ PT : Nat) (ps : Array Value) (pv : Nat → Value) (c : Cl) (ys : List Int) : Prop := ∀ (w : World) (base Sg Wg Pg : Nat) (xs : List Int), St w base Sg Wg T off SZ Pg PT ps (pv Pg) xs → xs.length < 700000000 →
  Calls Tryz.prog 17 #[.agg #[.int .i64 c.op, .int .i64 c.n, .string c.S, .int .i64 c.a, .int .i64 c.b, .bool c.d], .iface wt (.pointer (some ⟨Wg, 0, none⟩))] w fun e w' => e = .returned (.bool true) ∧ St w' base Sg Wg T off SZ Pg PT ps (pv Pg) (xs ++ ys) ∧ Below base w w' ∧ Rest w w' Sg Wg
/-- A list of calls, as it lies. -/
def Laid (w : World) (B : Nat) (cs : List Cl) : Prop := ∃ arr : Array Value, w.heap[B]? = some (.cells arr 25 (0, 0)) ∧ ∀ k c, cs[k]? = some c → arr[k * 6]? = some (.int .i64 c.op) ∧ arr[k * 6 + 1]? = some (.int .i64 c.n) ∧ arr[k * 6 + 2]? = some (.string c.S) ∧ arr[k * 6 + 3]? = some (.int .i64 c.a) ∧ arr[k * 6 + 4]? = some (.int .i64 c.b) ∧ arr[k * 6 + 5]? = some (.bool c.d)
theorem flat_succ (ys : Cl → List Int) (cs : List Cl) (k : Nat) (c : Cl) (h : cs[k]? = some c) : (cs.take (k + 1)).flatMap ys = (cs.take k).flatMap ys ++ ys c := by
  rw [List.take_add_one, h, List.flatMap_append]
  simp

set_option maxHeartbeats 4000000 in
set_option maxRecDepth 100000 in
theorem list_0 (w : World) (B C : Nat) (cs : List Cl) (ys : Cl → List Int) (hB : B < w.heap.size) (hl : Laid w B cs) (hn : cs.length < 1000) (hw : ∀ c, c ∈ cs → Wr 161 163 0 10 69 #[.bool false] (fun P => .pointer (some ⟨P, 0, none⟩)) c (ys c)) (hy : ∀ k, k < cs.length → ((cs.take k).flatMap ys).length < 700000000) :
    Calls Tryz.prog 10 #[.int .i64 0, .slice (some ⟨B, 0, none⟩) cs.length C] w fun e w' => ∃ (A : Option Addr) (c : Nat), e = .returned (.tuple #[.slice A (cs.flatMap ys).length c, .int .i64 (cs.length : Int)]) ∧ (Kd.int .u8).R 5 w' w.heap.size (fun _ => True) (.slice A (cs.flatMap ys).length c) (cs.flatMap ys) ∧ Below w.heap.size w w' := by
  obtain ⟨zs, hzs⟩ : ∃ zs, zs = cs.flatMap ys := ⟨_, rfl⟩
  rw [← hzs]
  have HZ := Aside0.mk hzs
  clear hzs
  have HB := Aside0.mk hB
  have HL := Aside0.mk hl
  have HN := Aside0.mk hn
  have HW := Aside0.mk hw
  have HY := Aside0.mk hy
  clear hB hl hn hw hy
  go_enter Tryz.func10, Tryz.ntmps10
  go_upto_region 4 with (first | (go_at_call 16; (with_reducible refine (protocol_0 _).mono ?_); rintro e w2 ⟨rfl, hb2, hg2⟩; have HP2 := Aside0.mk hb2; have HG2 := Aside0.mk hg2; clear hb2 hg2) | (go_at_call 46; (with_reducible refine (new_b _ _ _).mono ?_); rintro e w3 ⟨rfl, hb3, hg3⟩; have HW3 := Aside0.mk hb3; have HG3 := Aside0.mk hg3; clear hb3 hg3) | ((with_reducible refine gate_dst (N := 11) rfl ?_); refine box_event ?xhg (N := 11) ?xhd (cs := #[.slice none 0 0]) (t := 44) ?xhr ?_; (case xhd => rfl); (case xhg => rfl); (case xhr => first | (go_simp; done) | (go_simp; rfl)); intro Sg hG w1 hb1 hg1; have HSG := Aside0.mk hG; have HS1 := Aside0.mk hb1; have HG1 := Aside0.mk hg1; clear hG hb1 hg1))
  have hs1 := blk_lt HS1.out
  have hs2 := blk_lt HP2.out
  have hs3 := blk_lt HW3.out
  obtain ⟨Pg, hPg⟩ : ∃ Pg, Pg = w1.heap.size := ⟨_, rfl⟩
  obtain ⟨Wg, hWg⟩ : ∃ Wg, Wg = w2.heap.size := ⟨_, rfl⟩
  simp only [← hPg, ← hWg] at HP2 HG2 HW3 HG3 hs1 hs2 hs3 ⊢
  have g3 := HG3.out
  have g2 := HG2.out
  have hst : St w3 w.heap.size Sg Wg 163 0 10 Pg 69 #[.bool false] ((fun P => .pointer (some ⟨P, 0, none⟩)) Pg) [] := ⟨⟨.slice none 0 0, blk_below (blk_below HS1.out (by rw [hPg] at g2; exact g2)) (by rw [hWg] at g3; exact g3), Kd.R_nil _ _ _ _ _⟩, ⟨_, HW3.out, rfl, rfl, rfl, fun i hi => ⟨0, by rcases (by omega : i = 0 ∨ i = 1 ∨ i = 2 ∨ i = 3 ∨ i = 4 ∨ i = 5 ∨ i = 6 ∨ i = 7) with rfl | rfl | rfl | rfl | rfl | rfl | rfl | rfl <;> rfl⟩⟩, blk_below HP2.out (by rw [hWg] at g3; exact g3), by decide, by decide, by decide, by omega, by omega, by omega, Nat.le_of_eq HSG.out.symm, by have := HG1.out.size; omega, by have := HG1.out.size; omega⟩
  have HST := Aside0.mk hst
  have HBW := Aside0.mk (HG1.out.trans ((g2.mono (by have := HG1.out.size; omega)).trans (g3.mono (by have := HG1.out.size; omega))))
  clear hst g2 g3 hs1 hs2 hs3 HP2 HG2 HW3 HG3 HS1 HG1 HSG hPg hWg
  go_loopg [5, 19] cs.length (fun kq v5 v19 w' => ∃ k : Nat, v5 = .int .i64 (k : Int) ∧ v19 = .int .i64 (k : Int) ∧ Aside0 (k + kq = cs.length) ∧ Aside0 (St w' w.heap.size Sg Wg 163 0 10 Pg 69 #[.bool false] ((fun P => .pointer (some ⟨P, 0, none⟩)) Pg) ((cs.take k).flatMap ys)) ∧ Aside0 (Below w.heap.size w w'))
  case atStart => exact ⟨0, rfl, rfl, ⟨by omega⟩, HST, HBW⟩
  case round =>
    obtain ⟨k, rfl, rfl, HK, HS, HG⟩ := hrel
    clear HST HBW
    cases gk with
    | zero =>
      have d : decide (k < cs.length) = false := by have := HK.out; simp; omega
      obtain ⟨v, hv1, hv2⟩ := HS.out.hS
      have hk : k = cs.length := by have := HK.out; omega
      subst hk
      rw [List.take_length, ← HZ.out] at hv2
      obtain ⟨A, C', rfl, hc1, hC1⟩ := Kd.R_reads hv2
      have HV2 := Aside0.mk hv2
      have hc0 : wr.cell? ⟨Sg, 0, none⟩ = some (.slice A zs.length C') := (blk_cell hv1 0).trans rfl
      clear hv1 hv2 hc1 hC1
      go_wp2_with fail
      go_returns
      exact ⟨A, C', rfl, HV2.out, HG.out⟩
    | succ k1 =>
      have d : decide (k < cs.length) = true := by have := HK.out; simp; omega
      obtain ⟨c, hc⟩ : ∃ c, cs[k]? = some c := ⟨cs[k]'(by have := HK.out; omega), List.getElem?_eq_getElem _⟩
      obtain ⟨arr, ha, hcs⟩ := HL.out
      obtain ⟨a0, a1, a2, a3, a4, a5⟩ := hcs k c hc
      have ha' := (HG.out.block B HB.out).trans ha
      have e0 := (blk_cell ha' (k * 6)).trans a0
      have e1 := (blk_cell ha' (k * 6 + 1)).trans a1
      have e2 := (blk_cell ha' (k * 6 + 2)).trans a2
      have e3 := (blk_cell ha' (k * 6 + 3)).trans a3
      have e4 := (blk_cell ha' (k * 6 + 4)).trans a4
      have e5 := (blk_cell ha' (k * 6 + 5)).trans a5
      have HC := Aside0.mk hc
      have hwc : Wr 161 163 0 10 69 #[.bool false] (fun P => .pointer (some ⟨P, 0, none⟩)) c (ys c) := HW.out c (List.mem_of_getElem? hc)
      unfold Wr at hwc
      have HWC := Aside0.mk hwc
      have hlt : k < cs.length := by have := HK.out; omega
      have hkN : k < 1000 := by have := HN.out; omega
      have HLT := Aside0.mk (HY.out k hlt)
      clear ha ha' hcs a0 a1 a2 a3 a4 a5 hc hwc
      go_wp2_with (go_at_call 17; (with_reducible refine (HWC.out _ w.heap.size Sg Wg Pg _ (HS.out.below (below_alloc (Below.refl _ _) _)) HLT.out).mono ?_); rintro e w5 ⟨rfl, hs5, hb5, hr5⟩; have HS5 := Aside0.mk hs5; have HG5 := Aside0.mk (HG.out.trans ((below_alloc (Below.refl wr.heap.size wr) _).mono HS.out.b3 |>.trans hb5)); clear hs5 hb5 hr5 e0 e1 e2 e3 e4 e5)
      go_roundg k1
      case measure => omega
      case rel => exact ⟨k + 1, rfl, rfl, ⟨by have := HK.out; omega⟩, ⟨by rw [flat_succ ys cs k c HC.out]; exact HS5.out⟩, HG5⟩

set_option maxHeartbeats 4000000 in
set_option maxRecDepth 100000 in
theorem list_1 (w : World) (B C : Nat) (cs : List Cl) (ys : Cl → List Int) (hB : B < w.heap.size) (hl : Laid w B cs) (hn : cs.length < 1000) (hw : ∀ c, c ∈ cs → Wr 161 163 0 10 69 #[.bool true] (fun P => .pointer (some ⟨P, 0, none⟩)) c (ys c)) (hy : ∀ k, k < cs.length → ((cs.take k).flatMap ys).length < 700000000) :
    Calls Tryz.prog 10 #[.int .i64 1, .slice (some ⟨B, 0, none⟩) cs.length C] w fun e w' => ∃ (A : Option Addr) (c : Nat), e = .returned (.tuple #[.slice A (cs.flatMap ys).length c, .int .i64 (cs.length : Int)]) ∧ (Kd.int .u8).R 5 w' w.heap.size (fun _ => True) (.slice A (cs.flatMap ys).length c) (cs.flatMap ys) ∧ Below w.heap.size w w' := by
  obtain ⟨zs, hzs⟩ : ∃ zs, zs = cs.flatMap ys := ⟨_, rfl⟩
  rw [← hzs]
  have HZ := Aside0.mk hzs
  clear hzs
  have HB := Aside0.mk hB
  have HL := Aside0.mk hl
  have HN := Aside0.mk hn
  have HW := Aside0.mk hw
  have HY := Aside0.mk hy
  clear hB hl hn hw hy
  go_enter Tryz.func10, Tryz.ntmps10
  go_upto_region 4 with (first | (go_at_call 16; (with_reducible refine (protocol_1 _).mono ?_); rintro e w2 ⟨rfl, hb2, hg2⟩; have HP2 := Aside0.mk hb2; have HG2 := Aside0.mk hg2; clear hb2 hg2) | (go_at_call 46; (with_reducible refine (new_b _ _ _).mono ?_); rintro e w3 ⟨rfl, hb3, hg3⟩; have HW3 := Aside0.mk hb3; have HG3 := Aside0.mk hg3; clear hb3 hg3) | ((with_reducible refine gate_dst (N := 11) rfl ?_); refine box_event ?xhg (N := 11) ?xhd (cs := #[.slice none 0 0]) (t := 44) ?xhr ?_; (case xhd => rfl); (case xhg => rfl); (case xhr => first | (go_simp; done) | (go_simp; rfl)); intro Sg hG w1 hb1 hg1; have HSG := Aside0.mk hG; have HS1 := Aside0.mk hb1; have HG1 := Aside0.mk hg1; clear hG hb1 hg1))
  have hs1 := blk_lt HS1.out
  have hs2 := blk_lt HP2.out
  have hs3 := blk_lt HW3.out
  obtain ⟨Pg, hPg⟩ : ∃ Pg, Pg = w1.heap.size := ⟨_, rfl⟩
  obtain ⟨Wg, hWg⟩ : ∃ Wg, Wg = w2.heap.size := ⟨_, rfl⟩
  simp only [← hPg, ← hWg] at HP2 HG2 HW3 HG3 hs1 hs2 hs3 ⊢
  have g3 := HG3.out
  have g2 := HG2.out
  have hst : St w3 w.heap.size Sg Wg 163 0 10 Pg 69 #[.bool true] ((fun P => .pointer (some ⟨P, 0, none⟩)) Pg) [] := ⟨⟨.slice none 0 0, blk_below (blk_below HS1.out (by rw [hPg] at g2; exact g2)) (by rw [hWg] at g3; exact g3), Kd.R_nil _ _ _ _ _⟩, ⟨_, HW3.out, rfl, rfl, rfl, fun i hi => ⟨0, by rcases (by omega : i = 0 ∨ i = 1 ∨ i = 2 ∨ i = 3 ∨ i = 4 ∨ i = 5 ∨ i = 6 ∨ i = 7) with rfl | rfl | rfl | rfl | rfl | rfl | rfl | rfl <;> rfl⟩⟩, blk_below HP2.out (by rw [hWg] at g3; exact g3), by decide, by decide, by decide, by omega, by omega, by omega, Nat.le_of_eq HSG.out.symm, by have := HG1.out.size; omega, by have := HG1.out.size; omega⟩
  have HST := Aside0.mk hst
  have HBW := Aside0.mk (HG1.out.trans ((g2.mono (by have := HG1.out.size; omega)).trans (g3.mono (by have := HG1.out.size; omega))))
  clear hst g2 g3 hs1 hs2 hs3 HP2 HG2 HW3 HG3 HS1 HG1 HSG hPg hWg
  go_loopg [5, 19] cs.length (fun kq v5 v19 w' => ∃ k : Nat, v5 = .int .i64 (k : Int) ∧ v19 = .int .i64 (k : Int) ∧ Aside0 (k + kq = cs.length) ∧ Aside0 (St w' w.heap.size Sg Wg 163 0 10 Pg 69 #[.bool true] ((fun P => .pointer (some ⟨P, 0, none⟩)) Pg) ((cs.take k).flatMap ys)) ∧ Aside0 (Below w.heap.size w w'))
  case atStart => exact ⟨0, rfl, rfl, ⟨by omega⟩, HST, HBW⟩
  case round =>
    obtain ⟨k, rfl, rfl, HK, HS, HG⟩ := hrel
    clear HST HBW
    cases gk with
    | zero =>
      have d : decide (k < cs.length) = false := by have := HK.out; simp; omega
      obtain ⟨v, hv1, hv2⟩ := HS.out.hS
      have hk : k = cs.length := by have := HK.out; omega
      subst hk
      rw [List.take_length, ← HZ.out] at hv2
      obtain ⟨A, C', rfl, hc1, hC1⟩ := Kd.R_reads hv2
      have HV2 := Aside0.mk hv2
      have hc0 : wr.cell? ⟨Sg, 0, none⟩ = some (.slice A zs.length C') := (blk_cell hv1 0).trans rfl
      clear hv1 hv2 hc1 hC1
      go_wp2_with fail
      go_returns
      exact ⟨A, C', rfl, HV2.out, HG.out⟩
    | succ k1 =>
      have d : decide (k < cs.length) = true := by have := HK.out; simp; omega
      obtain ⟨c, hc⟩ : ∃ c, cs[k]? = some c := ⟨cs[k]'(by have := HK.out; omega), List.getElem?_eq_getElem _⟩
      obtain ⟨arr, ha, hcs⟩ := HL.out
      obtain ⟨a0, a1, a2, a3, a4, a5⟩ := hcs k c hc
      have ha' := (HG.out.block B HB.out).trans ha
      have e0 := (blk_cell ha' (k * 6)).trans a0
      have e1 := (blk_cell ha' (k * 6 + 1)).trans a1
      have e2 := (blk_cell ha' (k * 6 + 2)).trans a2
      have e3 := (blk_cell ha' (k * 6 + 3)).trans a3
      have e4 := (blk_cell ha' (k * 6 + 4)).trans a4
      have e5 := (blk_cell ha' (k * 6 + 5)).trans a5
      have HC := Aside0.mk hc
      have hwc : Wr 161 163 0 10 69 #[.bool true] (fun P => .pointer (some ⟨P, 0, none⟩)) c (ys c) := HW.out c (List.mem_of_getElem? hc)
      unfold Wr at hwc
      have HWC := Aside0.mk hwc
      have hlt : k < cs.length := by have := HK.out; omega
      have hkN : k < 1000 := by have := HN.out; omega
      have HLT := Aside0.mk (HY.out k hlt)
      clear ha ha' hcs a0 a1 a2 a3 a4 a5 hc hwc
      go_wp2_with (go_at_call 17; (with_reducible refine (HWC.out _ w.heap.size Sg Wg Pg _ (HS.out.below (below_alloc (Below.refl _ _) _)) HLT.out).mono ?_); rintro e w5 ⟨rfl, hs5, hb5, hr5⟩; have HS5 := Aside0.mk hs5; have HG5 := Aside0.mk (HG.out.trans ((below_alloc (Below.refl wr.heap.size wr) _).mono HS.out.b3 |>.trans hb5)); clear hs5 hb5 hr5 e0 e1 e2 e3 e4 e5)
      go_roundg k1
      case measure => omega
      case rel => exact ⟨k + 1, rfl, rfl, ⟨by have := HK.out; omega⟩, ⟨by rw [flat_succ ys cs k c HC.out]; exact HS5.out⟩, HG5⟩

set_option maxHeartbeats 4000000 in
set_option maxRecDepth 100000 in
theorem list_2 (w : World) (B C : Nat) (cs : List Cl) (ys : Cl → List Int) (hB : B < w.heap.size) (hl : Laid w B cs) (hn : cs.length < 1000) (hw : ∀ c, c ∈ cs → Wr 167 170 1 21 72 #[] (fun _ => .pointer none) c (ys c)) (hy : ∀ k, k < cs.length → ((cs.take k).flatMap ys).length < 700000000) :
    Calls Tryz.prog 10 #[.int .i64 2, .slice (some ⟨B, 0, none⟩) cs.length C] w fun e w' => ∃ (A : Option Addr) (c : Nat), e = .returned (.tuple #[.slice A (cs.flatMap ys).length c, .int .i64 (cs.length : Int)]) ∧ (Kd.int .u8).R 5 w' w.heap.size (fun _ => True) (.slice A (cs.flatMap ys).length c) (cs.flatMap ys) ∧ Below w.heap.size w w' := by
  obtain ⟨zs, hzs⟩ : ∃ zs, zs = cs.flatMap ys := ⟨_, rfl⟩
  rw [← hzs]
  have HZ := Aside0.mk hzs
  clear hzs
  have HB := Aside0.mk hB
  have HL := Aside0.mk hl
  have HN := Aside0.mk hn
  have HW := Aside0.mk hw
  have HY := Aside0.mk hy
  clear hB hl hn hw hy
  go_enter Tryz.func10, Tryz.ntmps10
  go_upto_region 4 with (first | (go_at_call 16; (with_reducible refine (protocol_2 _).mono ?_); rintro e w2 ⟨rfl, hb2, hg2⟩; have HP2 := Aside0.mk hb2; have HG2 := Aside0.mk hg2; clear hb2 hg2) | (go_at_call 49; (with_reducible refine (new_c _ _ _).mono ?_); rintro e w3 ⟨rfl, hb3, hg3⟩; have HW3 := Aside0.mk hb3; have HG3 := Aside0.mk hg3; clear hb3 hg3) | ((with_reducible refine gate_dst (N := 11) rfl ?_); refine box_event ?xhg (N := 11) ?xhd (cs := #[.slice none 0 0]) (t := 44) ?xhr ?_; (case xhd => rfl); (case xhg => rfl); (case xhr => first | (go_simp; done) | (go_simp; rfl)); intro Sg hG w1 hb1 hg1; have HSG := Aside0.mk hG; have HS1 := Aside0.mk hb1; have HG1 := Aside0.mk hg1; clear hG hb1 hg1))
  have hs1 := blk_lt HS1.out
  have hs2 := blk_lt HP2.out
  have hs3 := blk_lt HW3.out
  obtain ⟨Pg, hPg⟩ : ∃ Pg, Pg = w1.heap.size := ⟨_, rfl⟩
  obtain ⟨Wg, hWg⟩ : ∃ Wg, Wg = w2.heap.size := ⟨_, rfl⟩
  simp only [← hPg, ← hWg] at HP2 HG2 HW3 HG3 hs1 hs2 hs3 ⊢
  have g3 := HG3.out
  have g2 := HG2.out
  have hst : St w3 w.heap.size Sg Wg 170 1 21 Pg 72 #[] ((fun _ => .pointer none) Pg) [] := ⟨⟨.slice none 0 0, blk_below (blk_below HS1.out (by rw [hPg] at g2; exact g2)) (by rw [hWg] at g3; exact g3), Kd.R_nil _ _ _ _ _⟩, ⟨_, HW3.out, rfl, rfl, rfl, fun i hi => ⟨0, by rcases (by omega : i = 0 ∨ i = 1 ∨ i = 2 ∨ i = 3 ∨ i = 4 ∨ i = 5 ∨ i = 6 ∨ i = 7) with rfl | rfl | rfl | rfl | rfl | rfl | rfl | rfl <;> rfl⟩⟩, blk_below HP2.out (by rw [hWg] at g3; exact g3), by decide, by decide, by decide, by omega, by omega, by omega, Nat.le_of_eq HSG.out.symm, by have := HG1.out.size; omega, by have := HG1.out.size; omega⟩
  have HST := Aside0.mk hst
  have HBW := Aside0.mk (HG1.out.trans ((g2.mono (by have := HG1.out.size; omega)).trans (g3.mono (by have := HG1.out.size; omega))))
  clear hst g2 g3 hs1 hs2 hs3 HP2 HG2 HW3 HG3 HS1 HG1 HSG hPg hWg
  go_loopg [5, 19] cs.length (fun kq v5 v19 w' => ∃ k : Nat, v5 = .int .i64 (k : Int) ∧ v19 = .int .i64 (k : Int) ∧ Aside0 (k + kq = cs.length) ∧ Aside0 (St w' w.heap.size Sg Wg 170 1 21 Pg 72 #[] ((fun _ => .pointer none) Pg) ((cs.take k).flatMap ys)) ∧ Aside0 (Below w.heap.size w w'))
  case atStart => exact ⟨0, rfl, rfl, ⟨by omega⟩, HST, HBW⟩
  case round =>
    obtain ⟨k, rfl, rfl, HK, HS, HG⟩ := hrel
    clear HST HBW
    cases gk with
    | zero =>
      have d : decide (k < cs.length) = false := by have := HK.out; simp; omega
      obtain ⟨v, hv1, hv2⟩ := HS.out.hS
      have hk : k = cs.length := by have := HK.out; omega
      subst hk
      rw [List.take_length, ← HZ.out] at hv2
      obtain ⟨A, C', rfl, hc1, hC1⟩ := Kd.R_reads hv2
      have HV2 := Aside0.mk hv2
      have hc0 : wr.cell? ⟨Sg, 0, none⟩ = some (.slice A zs.length C') := (blk_cell hv1 0).trans rfl
      clear hv1 hv2 hc1 hC1
      go_wp2_with fail
      go_returns
      exact ⟨A, C', rfl, HV2.out, HG.out⟩
    | succ k1 =>
      have d : decide (k < cs.length) = true := by have := HK.out; simp; omega
      obtain ⟨c, hc⟩ : ∃ c, cs[k]? = some c := ⟨cs[k]'(by have := HK.out; omega), List.getElem?_eq_getElem _⟩
      obtain ⟨arr, ha, hcs⟩ := HL.out
      obtain ⟨a0, a1, a2, a3, a4, a5⟩ := hcs k c hc
      have ha' := (HG.out.block B HB.out).trans ha
      have e0 := (blk_cell ha' (k * 6)).trans a0
      have e1 := (blk_cell ha' (k * 6 + 1)).trans a1
      have e2 := (blk_cell ha' (k * 6 + 2)).trans a2
      have e3 := (blk_cell ha' (k * 6 + 3)).trans a3
      have e4 := (blk_cell ha' (k * 6 + 4)).trans a4
      have e5 := (blk_cell ha' (k * 6 + 5)).trans a5
      have HC := Aside0.mk hc
      have hwc : Wr 167 170 1 21 72 #[] (fun _ => .pointer none) c (ys c) := HW.out c (List.mem_of_getElem? hc)
      unfold Wr at hwc
      have HWC := Aside0.mk hwc
      have hlt : k < cs.length := by have := HK.out; omega
      have hkN : k < 1000 := by have := HN.out; omega
      have HLT := Aside0.mk (HY.out k hlt)
      clear ha ha' hcs a0 a1 a2 a3 a4 a5 hc hwc
      go_wp2_with (go_at_call 17; (with_reducible refine (HWC.out _ w.heap.size Sg Wg Pg _ (HS.out.below (below_alloc (Below.refl _ _) _)) HLT.out).mono ?_); rintro e w5 ⟨rfl, hs5, hb5, hr5⟩; have HS5 := Aside0.mk hs5; have HG5 := Aside0.mk (HG.out.trans ((below_alloc (Below.refl wr.heap.size wr) _).mono HS.out.b3 |>.trans hb5)); clear hs5 hb5 hr5 e0 e1 e2 e3 e4 e5)
      go_roundg k1
      case measure => omega
      case rel => exact ⟨k + 1, rfl, rfl, ⟨by have := HK.out; omega⟩, ⟨by rw [flat_succ ys cs k c HC.out]; exact HS5.out⟩, HG5⟩
end Go.Proofs.YtmjilokgpgajjaaGreat.Th

