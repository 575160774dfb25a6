/- The law on deltas: its walk. -/
import Derived.Test.YtmjilokgpgajjaaGreatSThStop
import Derived.Deep.QuietTactic
import Derived.BigQuiet
import Derived.RegionTactic
import Derived.BigRegion
import Derived.Deep.RegionHeld3
namespace Go.Proofs.YtmjilokgpgajjaaGreat.Th
open Go.RowKit Go.Proofs.YtmjilokgpgajjaaGreatW.PrintWords Go.Proofs.YtmjilokgpgajjaaGreatW.PrintLast Go.Proofs.YtmjilokgpgajjaaGreatW.PrintMore
set_option linter.unusedVariables false
set_option linter.unusedSimpArgs false
set_option maxHeartbeats 8000000 in
set_option maxRecDepth 100000 in
theorem law_delta (w : World) (g : Int) (g0 : 0 ≤ g) (g1 : g ≤ 255) (k : Int) (k0 : 0 ≤ k) (k1 : k ≤ 255) :
    Calls Tryz.prog 4 #[.int .u8 g, .int .u8 k] w fun e w' => e = .returned (.bool true) ∧ Below w.heap.size w w' := by
  obtain ⟨n, hn⟩ : ∃ n, n = 1 + g % 15 := ⟨_, rfl⟩
  obtain ⟨a, ha⟩ : ∃ a, a = 2 + k % 11 := ⟨_, rfl⟩
  have HW : Aside0 (One 2 ⟨11, n, ⟨#[]⟩, a, 0, true⟩ (deltaz n a)) := Aside0.mk (one_delta (n := n) (a := a) (by omega) (by omega) (by omega) (by omega))
  have HT : Aside0 (Sp 2 ⟨11, n, ⟨#[]⟩, a, 0, true⟩ (deltaz n a)) := Aside0.mk (sp_delta (n := n) (a := a) (by omega) (by omega) (by omega))
  have HR : Aside0 (OneD 2 ⟨11, n, ⟨#[]⟩, a, 0, true⟩ [] (deltaz n a)) := Aside0.mk (OneR.to (rd_delta (n := n) (a := a) (by omega) (by omega) (by omega) (by omega)) (rs := []) (ds := deltaz n a) (by simp))
  obtain ⟨zs, hzs⟩ : ∃ zs, zs = deltaz n a := ⟨_, rfl⟩
  have hzl : zs.length = 1 := by rw [hzs]; rfl
  rw [← hzs] at HW HT HR
  have HZL := Aside0.mk hzl
  clear hzs hzl
  go_enter Tryz.func4, Tryz.ntmps4
  go_upto_region 2 with (fail)
  rw [← hn, ← ha]
  clear hn ha g0 g1 k0 k1
  obtain ⟨W, hW⟩ : ∃ W, W = w.alloc (.cells #[.int .i64 11, .int .i64 n, .string ⟨#[]⟩, .int .i64 a, .int .i64 0, .bool true] 25) := ⟨_, rfl⟩
  obtain ⟨G, hG⟩ : ∃ G, G = w.heap.size := ⟨_, rfl⟩
  have BK := Aside0.mk (show W.heap[G]? = some (.cells #[.int .i64 11, .int .i64 n, .string ⟨#[]⟩, .int .i64 a, .int .i64 0, .bool true] 25 (0, 0)) by rw [hW, hG]; exact blk_new _ _)
  have HB3 := Aside0.mk (show Below w.heap.size w W by rw [hW]; exact below_alloc (Below.refl _ _) _)
  rw [← hW, ← hG]
  clear hW hG
  have q0 : W.cell? ⟨G, 0, none⟩ = some (.int .i64 11) := (blk_cell BK.out 0).trans rfl
  have q1 : W.cell? ⟨G, 1, none⟩ = some (.int .i64 n) := (blk_cell BK.out 1).trans rfl
  have q2 : W.cell? ⟨G, 2, none⟩ = some (.string ⟨#[]⟩) := (blk_cell BK.out 2).trans rfl
  have q3 : W.cell? ⟨G, 3, none⟩ = some (.int .i64 a) := (blk_cell BK.out 3).trans rfl
  have q4 : W.cell? ⟨G, 4, none⟩ = some (.int .i64 0) := (blk_cell BK.out 4).trans rfl
  have q5 : W.cell? ⟨G, 5, none⟩ = some (.bool true) := (blk_cell BK.out 5).trans rfl
  have hltG := blk_lt BK.out
  go_upto_region 3 with (go_at_call 10; (with_reducible refine (HW.out.at_ _ _ _ (blk_lt (blk_new W _)) (blk_new W _)).mono ?_); rintro e w4 ⟨A4, c4, rfl, hr, hb⟩; have hbW := below_alloc (Below.refl W.heap.size W) (.cells #[.int .i64 11, .int .i64 n, .string ⟨#[]⟩, .int .i64 a, .int .i64 0, .bool true] 25); have HB4 := Aside0.mk ((HB3.out.trans (hbW.mono HB3.out.size)).trans (hb.mono (HB3.out.trans (hbW.mono HB3.out.size)).size)); have BK4 := Aside0.mk (blk_below (blk_below BK.out hbW) hb); have HC4 := Aside0.mk (Kd.R_reads' hr); clear hr hb hbW)
  have BK5 := Aside0.mk (blk_below BK4.out (below_alloc (Below.refl w4.heap.size w4) (.cells #[.int .i64 11] 3)))
  have HB5 := Aside0.mk (below_alloc HB4.out (.cells #[.int .i64 11] 3))
  clear q0 q1 q2 q3 q4 q5 hltG HB3 BK
  go_upto_region 4 with (go_at_call 11; (with_reducible refine (HR.out.at_ (w4.alloc (.cells #[.int .i64 11] 3)) w4.heap.size A4 c4 (blk_new w4 _) (Kd.C_below HC4.out.2.2 (below_alloc (Below.refl w4.heap.size w4) _)) HC4.out.2.1 (by have := HZL.out; omega)).mono ?_); rintro e w7 ⟨v7, rfl, ho, hb⟩; have HV7 := Aside0.mk ho; have HB7 := Aside0.mk (HB5.out.trans (hb.mono HB5.out.size)); have BK7 := Aside0.mk (blk_below BK5.out hb); have HC7 := Aside0.mk (Kd.C_below (Kd.C_below HC4.out.2.2 (below_alloc (Below.refl w4.heap.size w4) (.cells #[.int .i64 11] 3))) hb); clear ho hb)
  obtain ⟨hvl, (⟨_, hv0⟩ | ⟨gv, cap, cur, rfl, hgN, hgb, h1c, hcm, hcs, hct⟩)⟩ := HV7.out
  · omega
  have HGB := Aside0.mk hgb
  have HCT := Aside0.mk hct
  have HCS := Aside0.mk hcs
  clear hvl hgN hgb hcm hcs hct HV7
  have hk (V : World) (hV : Below w7.heap.size w7 V) (j : Nat) (hj : j < 6) : V.cell? ⟨gv, j, none⟩ = (cl6 ⟨11, n, ⟨#[]⟩, a, 0, true⟩)[j]? := by
    rw [blk_cell (blk_below HGB.out hV) j, ← HCT.out, List.getElem?_take_of_lt (by omega), Array.getElem?_toList]
  have hc (V : World) (hV : Below w7.heap.size w7 V) (j : Nat) : V.cell? ⟨G, j, none⟩ = #[Value.int .i64 11, .int .i64 n, .string ⟨#[]⟩, .int .i64 a, .int .i64 0, .bool true][j]? := blk_cell (blk_below BK7.out hV) j
  have hs (V : World) (hV : Below w7.heap.size w7 V) : Sem.run Tryz.prog (convert 28 9 (.slice A4 zs.length c4)) V = .ok (.string (strOfNums zs)) V := Kd.C_string Tryz.underlying28 Tryz.underlying5 Tryz.underlying9 (Kd.C_below HC7.out hV)
  have hkeep (V : World) (hV : Below w7.heap.size w7 V) : (fun W' => W'.cell? ⟨gv, 0, none⟩ = some (.int .i64 11) ∧ W'.cell? ⟨gv, 1, none⟩ = some (.int .i64 n) ∧ W'.cell? ⟨gv, 2, none⟩ = some (.string ⟨#[]⟩) ∧ W'.cell? ⟨gv, 3, none⟩ = some (.int .i64 a) ∧ W'.cell? ⟨gv, 4, none⟩ = some (.int .i64 0) ∧ W'.cell? ⟨gv, 5, none⟩ = some (.bool true) ∧ W'.cell? ⟨G, 0, none⟩ = some (.int .i64 11) ∧ W'.cell? ⟨G, 1, none⟩ = some (.int .i64 n) ∧ W'.cell? ⟨G, 2, none⟩ = some (.string ⟨#[]⟩) ∧ W'.cell? ⟨G, 3, none⟩ = some (.int .i64 a) ∧ W'.cell? ⟨G, 4, none⟩ = some (.int .i64 0) ∧ W'.cell? ⟨G, 5, none⟩ = some (.bool true) ∧ Sem.run Tryz.prog (convert 28 9 (.slice A4 zs.length c4)) W' = .ok (.string (strOfNums zs)) W') V := ⟨(hk V hV 0 (by decide)).trans rfl, (hk V hV 1 (by decide)).trans rfl, (hk V hV 2 (by decide)).trans rfl, (hk V hV 3 (by decide)).trans rfl, (hk V hV 4 (by decide)).trans rfl, (hk V hV 5 (by decide)).trans rfl, (hc V hV 0).trans rfl, (hc V hV 1).trans rfl, (hc V hV 2).trans rfl, (hc V hV 3).trans rfl, (hc V hV 4).trans rfl, (hc V hV 5).trans rfl, hs V hV⟩
  have HKP := Aside0.mk hkeep
  have hz1 : ((zs.length : Int) == 1) = true := by rw [HZL.out]; rfl
  have HBD := Aside0.mk (below_drew (Below.refl w7.heap.size w7))
  clear hk hc hs hkeep
  refine wp_region_held_drew (S := (fun W' => W'.cell? ⟨gv, 0, none⟩ = some (.int .i64 11) ∧ W'.cell? ⟨gv, 1, none⟩ = some (.int .i64 n) ∧ W'.cell? ⟨gv, 2, none⟩ = some (.string ⟨#[]⟩) ∧ W'.cell? ⟨gv, 3, none⟩ = some (.int .i64 a) ∧ W'.cell? ⟨gv, 4, none⟩ = some (.int .i64 0) ∧ W'.cell? ⟨gv, 5, none⟩ = some (.bool true) ∧ W'.cell? ⟨G, 0, none⟩ = some (.int .i64 11) ∧ W'.cell? ⟨G, 1, none⟩ = some (.int .i64 n) ∧ W'.cell? ⟨G, 2, none⟩ = some (.string ⟨#[]⟩) ∧ W'.cell? ⟨G, 3, none⟩ = some (.int .i64 a) ∧ W'.cell? ⟨G, 4, none⟩ = some (.int .i64 0) ∧ W'.cell? ⟨G, 5, none⟩ = some (.bool true) ∧ Sem.run Tryz.prog (convert 28 9 (.slice A4 zs.length c4)) W' = .ok (.string (strOfNums zs)) W')) (by kernel_rfl) (HKP.out _ HBD.out) (fun hHeld => ?_)
  refine wpAnyH_take (i := 0) (oi := ⟨_, _, _, _, _, _⟩) (v := ?_) rfl (by kernel_rfl) (by kernel_rfl) (by kernel_rfl) (fun _ _ _ h => h) (Or.inl ⟨by rfl, ?_⟩) hHeld ?_
  case refine_2 => (intro w hSw; (try dsimp only at hSw); go_simp; try with_reducible rfl)
  (try simp only [Act.put, List.setIfInBounds_toArray, List.set_cons_zero, List.set_cons_succ])
  refine wpAnyH_take (i := 1) (oi := ⟨_, _, _, _, _, _⟩) (v := ?_) rfl (by kernel_rfl) (by kernel_rfl) (by kernel_rfl) (fun _ _ _ h => h) (Or.inl ⟨by rfl, ?_⟩) hHeld ?_
  case refine_2 => (intro w hSw; (try dsimp only at hSw); go_simp; try with_reducible rfl)
  (try simp only [Act.put, List.setIfInBounds_toArray, List.set_cons_zero, List.set_cons_succ])
  refine wpAnyH_take (i := 2) (oi := ⟨_, _, _, _, _, _⟩) (v := ?_) rfl (by kernel_rfl) (by kernel_rfl) (by kernel_rfl) (fun _ _ _ h => h) (Or.inl ⟨by rfl, ?_⟩) hHeld ?_
  case refine_2 => (intro w hSw; (try dsimp only at hSw); go_simp; try with_reducible rfl)
  (try simp only [Act.put, List.setIfInBounds_toArray, List.set_cons_zero, List.set_cons_succ])
  refine wpAnyH_take (i := 3) (oi := ⟨_, _, _, _, _, _⟩) (v := ?_) rfl (by kernel_rfl) (by kernel_rfl) (by kernel_rfl) (fun _ _ _ h => h) (Or.inl ⟨by rfl, ?_⟩) hHeld ?_
  case refine_2 => (intro w hSw; (try dsimp only at hSw); go_simp; try with_reducible rfl)
  (try simp only [Act.put, List.setIfInBounds_toArray, List.set_cons_zero, List.set_cons_succ])
  refine wpAnyH_take (i := 4) (oi := ⟨_, _, _, _, _, _⟩) (v := ?_) rfl (by kernel_rfl) (by kernel_rfl) (by kernel_rfl) (fun _ _ _ h => h) (Or.inl ⟨by rfl, ?_⟩) hHeld ?_
  case refine_2 => (intro w hSw; (try dsimp only at hSw); go_simp; try with_reducible rfl)
  (try simp only [Act.put, List.setIfInBounds_toArray, List.set_cons_zero, List.set_cons_succ])
  refine wpAnyH_take (i := 5) (oi := ⟨_, _, _, _, _, _⟩) (v := ?_) rfl (by kernel_rfl) (by kernel_rfl) (by kernel_rfl) (fun _ _ _ h => h) (Or.inl ⟨by rfl, ?_⟩) hHeld ?_
  case refine_2 => (intro w hSw; (try dsimp only at hSw); go_simp; try with_reducible rfl)
  (try simp only [Act.put, List.setIfInBounds_toArray, List.set_cons_zero, List.set_cons_succ])
  refine wpAnyH_take (i := 6) (oi := ⟨_, _, _, _, _, _⟩) (v := ?_) rfl (by kernel_rfl) (by kernel_rfl) (by kernel_rfl) (fun _ _ _ h => h) (Or.inl ⟨by rfl, ?_⟩) hHeld ?_
  case refine_2 => (intro w hSw; (try dsimp only at hSw); go_simp; try with_reducible rfl)
  (try simp only [Act.put, List.setIfInBounds_toArray, List.set_cons_zero, List.set_cons_succ])
  refine wpAnyH_take (i := 7) (oi := ⟨_, _, _, _, _, _⟩) (v := ?_) rfl (by kernel_rfl) (by kernel_rfl) (by kernel_rfl) (fun _ _ _ h => h) (Or.inl ⟨by rfl, ?_⟩) hHeld ?_
  case refine_2 => (intro w hSw; (try dsimp only at hSw); go_simp; try with_reducible rfl)
  (try simp only [Act.put, List.setIfInBounds_toArray, List.set_cons_zero, List.set_cons_succ])
  refine wpAnyH_take (i := 8) (oi := ⟨_, _, _, _, _, _⟩) (v := ?_) rfl (by kernel_rfl) (by kernel_rfl) (by kernel_rfl) (fun _ _ _ h => h) (Or.inl ⟨by rfl, ?_⟩) hHeld ?_
  case refine_2 => (intro w hSw; (try dsimp only at hSw); go_simp; try with_reducible rfl)
  (try simp only [Act.put, List.setIfInBounds_toArray, List.set_cons_zero, List.set_cons_succ])
  refine wpAnyH_take (i := 9) (oi := ⟨_, _, _, _, _, _⟩) (v := ?_) rfl (by kernel_rfl) (by kernel_rfl) (by kernel_rfl) (fun _ _ _ h => h) (Or.inl ⟨by rfl, ?_⟩) hHeld ?_
  case refine_2 => (intro w hSw; (try dsimp only at hSw); go_simp; try with_reducible rfl)
  (try simp only [Act.put, List.setIfInBounds_toArray, List.set_cons_zero, List.set_cons_succ])
  refine wpAnyH_take (i := 10) (oi := ⟨_, _, _, _, _, _⟩) (v := ?_) rfl (by kernel_rfl) (by kernel_rfl) (by kernel_rfl) (fun _ _ _ h => h) (Or.inl ⟨by rfl, ?_⟩) hHeld ?_
  case refine_2 => (intro w hSw; (try dsimp only at hSw); go_simp; try with_reducible rfl)
  (try simp only [Act.put, List.setIfInBounds_toArray, List.set_cons_zero, List.set_cons_succ])
  refine wpAnyH_take (i := 11) (oi := ⟨_, _, _, _, _, _⟩) (v := ?_) rfl (by kernel_rfl) (by kernel_rfl) (by kernel_rfl) (fun _ _ _ h => h) (Or.inl ⟨by rfl, ?_⟩) hHeld ?_
  case refine_2 => (intro w hSw; (try dsimp only at hSw); go_simp; try with_reducible rfl)
  (try simp only [Act.put, List.setIfInBounds_toArray, List.set_cons_zero, List.set_cons_succ])
  refine wpAnyH_take (i := 12) (oi := ⟨_, _, _, _, _, _⟩) (v := ?_) rfl (by kernel_rfl) (by kernel_rfl) (by kernel_rfl) (fun _ _ _ h => h) (Or.inl ⟨by rfl, ?_⟩) hHeld ?_
  case refine_2 => (intro w hSw; (try dsimp only at hSw); go_simp; try with_reducible rfl)
  (try simp only [Act.put, List.setIfInBounds_toArray, List.set_cons_zero, List.set_cons_succ])
  refine wpAnyH_take (i := 13) (oi := ⟨_, _, _, _, _, _⟩) (v := ?_) rfl (by kernel_rfl) (by kernel_rfl) (by kernel_rfl) (fun _ _ _ h => h) (Or.inl ⟨by rfl, ?_⟩) hHeld ?_
  case refine_2 => (intro w hSw; (try dsimp only at hSw); go_simp; try with_reducible rfl)
  (try simp only [Act.put, List.setIfInBounds_toArray, List.set_cons_zero, List.set_cons_succ])
  refine wpAnyH_take (i := 14) (oi := ⟨_, _, _, _, _, _⟩) (v := ?_) rfl (by kernel_rfl) (by kernel_rfl) (by kernel_rfl) (fun _ _ _ h => h) (Or.inl ⟨by rfl, ?_⟩) hHeld ?_
  case refine_2 => (intro w hSw; (try dsimp only at hSw); go_simp; try with_reducible rfl)
  (try simp only [Act.put, List.setIfInBounds_toArray, List.set_cons_zero, List.set_cons_succ])
  refine wpAnyH_take (i := 15) (oi := ⟨_, _, _, _, _, _⟩) (v := ?_) rfl (by kernel_rfl) (by kernel_rfl) (by kernel_rfl) (fun _ _ _ h => h) (Or.inl ⟨by rfl, ?_⟩) hHeld ?_
  case refine_2 => (intro w hSw; (try dsimp only at hSw); go_simp; try with_reducible rfl)
  (try simp only [Act.put, List.setIfInBounds_toArray, List.set_cons_zero, List.set_cons_succ])
  refine wpAnyH_take (i := 16) (oi := ⟨_, _, _, _, _, _⟩) (v := ?_) rfl (by kernel_rfl) (by kernel_rfl) (by kernel_rfl) (fun _ _ _ h => h) (Or.inl ⟨by rfl, ?_⟩) hHeld ?_
  case refine_2 => (intro w hSw; (try dsimp only at hSw); go_simp; try with_reducible rfl)
  (try simp only [Act.put, List.setIfInBounds_toArray, List.set_cons_zero, List.set_cons_succ])
  refine wpAnyH_take (i := 17) (oi := ⟨_, _, _, _, _, _⟩) (v := ?_) rfl (by kernel_rfl) (by kernel_rfl) (by kernel_rfl) (fun _ _ _ h => h) (Or.inl ⟨by rfl, ?_⟩) hHeld ?_
  case refine_2 => (intro w hSw; (try dsimp only at hSw); go_simp; try with_reducible rfl)
  (try simp only [Act.put, List.setIfInBounds_toArray, List.set_cons_zero, List.set_cons_succ])
  refine wpAnyH_take (i := 18) (oi := ⟨_, _, _, _, _, _⟩) (v := ?_) rfl (by kernel_rfl) (by kernel_rfl) (by kernel_rfl) (fun _ _ _ h => h) (Or.inl ⟨by rfl, ?_⟩) hHeld ?_
  case refine_2 => (intro w hSw; (try dsimp only at hSw); go_simp; try with_reducible rfl)
  (try simp only [Act.put, List.setIfInBounds_toArray, List.set_cons_zero, List.set_cons_succ])
  refine wpAnyH_take (i := 19) (oi := ⟨_, _, _, _, _, _⟩) (v := ?_) rfl (by kernel_rfl) (by kernel_rfl) (by kernel_rfl) (fun _ _ _ h => h) (Or.inl ⟨by rfl, ?_⟩) hHeld ?_
  case refine_2 => (intro w hSw; (try dsimp only at hSw); go_simp; try with_reducible rfl)
  (try simp only [Act.put, List.setIfInBounds_toArray, List.set_cons_zero, List.set_cons_succ])
  refine wpAnyH_take (i := 20) (oi := ⟨_, _, _, _, _, _⟩) (v := ?_) rfl (by kernel_rfl) (by kernel_rfl) (by kernel_rfl) (fun _ _ _ h => h) (Or.inl ⟨by rfl, ?_⟩) hHeld ?_
  case refine_2 => (intro w hSw; (try dsimp only at hSw); go_simp; try with_reducible rfl)
  (try simp only [Act.put, List.setIfInBounds_toArray, List.set_cons_zero, List.set_cons_succ])
  refine wpAnyH_take (i := 21) (oi := ⟨_, _, _, _, _, _⟩) (v := ?_) rfl (by kernel_rfl) (by kernel_rfl) (by kernel_rfl) (fun _ _ _ h => h) (Or.inl ⟨by rfl, ?_⟩) hHeld ?_
  case refine_2 => (intro w hSw; (try dsimp only at hSw); go_simp; try with_reducible rfl)
  (try simp only [Act.put, List.setIfInBounds_toArray, List.set_cons_zero, List.set_cons_succ])
  refine wpAnyH_take (i := 22) (oi := ⟨_, _, _, _, _, _⟩) (v := ?_) rfl (by kernel_rfl) (by kernel_rfl) (by kernel_rfl) (fun _ _ _ h => h) (Or.inl ⟨by rfl, ?_⟩) hHeld ?_
  case refine_2 => (intro w hSw; (try dsimp only at hSw); go_simp; try with_reducible rfl)
  (try simp only [Act.put, List.setIfInBounds_toArray, List.set_cons_zero, List.set_cons_succ])
  refine wpAnyH_take (i := 23) (oi := ⟨_, _, _, _, _, _⟩) (v := ?_) rfl (by kernel_rfl) (by kernel_rfl) (by kernel_rfl) (fun _ _ _ h => h) (Or.inl ⟨by rfl, ?_⟩) hHeld ?_
  case refine_2 => (intro w hSw; (try dsimp only at hSw); go_simp; try with_reducible rfl)
  (try simp only [Act.put, List.setIfInBounds_toArray, List.set_cons_zero, List.set_cons_succ])
  refine wpAnyH_take (i := 24) (oi := ⟨_, _, _, _, _, _⟩) (v := ?_) rfl (by kernel_rfl) (by kernel_rfl) (by kernel_rfl) (fun _ _ _ h => h) (Or.inl ⟨by rfl, ?_⟩) hHeld ?_
  case refine_2 => (intro w hSw; (try dsimp only at hSw); go_simp; try with_reducible rfl)
  (try simp only [Act.put, List.setIfInBounds_toArray, List.set_cons_zero, List.set_cons_succ])
  refine wpAnyH_take (i := 25) (oi := ⟨_, _, _, _, _, _⟩) (v := ?_) rfl (by kernel_rfl) (by kernel_rfl) (by kernel_rfl) (fun _ _ _ h => h) (Or.inl ⟨by rfl, ?_⟩) hHeld ?_
  case refine_2 => (intro w hSw; (try dsimp only at hSw); go_simp; try with_reducible rfl)
  (try simp only [Act.put, List.setIfInBounds_toArray, List.set_cons_zero, List.set_cons_succ])
  refine wpAnyH_take (i := 26) (oi := ⟨_, _, _, _, _, _⟩) (v := ?_) rfl (by kernel_rfl) (by kernel_rfl) (by kernel_rfl) (fun _ _ _ h => h) (Or.inl ⟨by rfl, ?_⟩) hHeld ?_
  case refine_2 => (intro w hSw; (try dsimp only at hSw); go_simp; try with_reducible rfl)
  (try simp only [Act.put, List.setIfInBounds_toArray, List.set_cons_zero, List.set_cons_succ])
  refine wpAnyH_ready (rs := [27]) (by kernel_rfl) (by simp) ?_
  refine AllReadyH.cons (o := ⟨_, _, _, _, _, _⟩) rfl (fun K hK => ?_) AllReadyH.nil
  go_simp
  go_at_call 12
  (with_reducible refine (HT.out.at_ _).mono ?_)
  rintro e w9 ⟨v9, rfl, ho, hb⟩
  obtain ⟨A5, c5, rfl, hc5, hC5⟩ := Kd.R_reads ho
  have HB9x := Aside0.mk (HBD.out.trans (hb.mono HBD.out.size))
  have t59 : Sem.run Tryz.prog (convert 28 9 (.slice A5 zs.length c5)) w9 = .ok (.string (strOfNums zs)) w9 := Kd.C_string Tryz.underlying28 Tryz.underlying5 Tryz.underlying9 hC5
  have HB9 := Aside0.mk (HB7.out.trans (HB9x.out.mono HB7.out.size))
  clear ho hb hC5
  refine hK.out _ _ (HKP.out _ HB9x.out) (fun hHeld => ?_)
  clear hK K
  (try simp only [Act.put, List.setIfInBounds_toArray, List.set_cons_zero, List.set_cons_succ])
  refine wpAnyH_ready (rs := [28]) (by kernel_rfl) (by simp) ?_
  refine AllReadyH.cons (o := ⟨_, _, _, _, _, _⟩) rfl (fun K hK => ?_) AllReadyH.nil
  go_simp
  refine hK.out _ _ (HKP.out _ HB9x.out) (fun hHeld => ?_)
  clear hK K
  (try simp only [Act.put, List.setIfInBounds_toArray, List.set_cons_zero, List.set_cons_succ])
  refine wpAnyH_ready (rs := [29]) (by kernel_rfl) (by simp) ?_
  refine AllReadyH.cons (o := ⟨_, _, _, _, _, _⟩) rfl (fun K hK => ?_) AllReadyH.nil
  go_simp
  refine hK.out _ _ (HKP.out _ HB9x.out) (fun hHeld => ?_)
  clear hK K
  (try simp only [Act.put, List.setIfInBounds_toArray, List.set_cons_zero, List.set_cons_succ])
  refine wpAnyH_ready (rs := [30]) (by kernel_rfl) (by simp) ?_
  refine AllReadyH.cons (o := ⟨_, _, _, _, _, _⟩) rfl (fun K hK => ?_) AllReadyH.nil
  go_simp
  refine hK.out _ _ (HKP.out _ HB9x.out) (fun hHeld => ?_)
  clear hK K
  (try simp only [Act.put, List.setIfInBounds_toArray, List.set_cons_zero, List.set_cons_succ])
  refine wpAnyH_ready (rs := [31]) (by kernel_rfl) (by simp) ?_
  refine AllReadyH.cons (o := ⟨_, _, _, _, _, _⟩) rfl (fun K hK => ?_) AllReadyH.nil
  go_simp
  refine hK.out _ _ (HKP.out _ HB9x.out) (fun hHeld => ?_)
  clear hK K
  (try simp only [Act.put, List.setIfInBounds_toArray, List.set_cons_zero, List.set_cons_succ])
  refine wpAnyH_done (by kernel_rfl) ?_ _
  go_wp2_with fail
  go_ret
  exact ⟨rfl, HB9.out⟩
end Go.Proofs.YtmjilokgpgajjaaGreat.Th

