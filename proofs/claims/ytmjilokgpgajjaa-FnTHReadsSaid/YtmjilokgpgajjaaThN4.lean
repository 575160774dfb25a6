/- Merged by merge.py (wip/tpl) out of ThReads, ThLawR: The law on reads: the walk, given what its parts tell. The law on reads, for every input. -/
import Derived.Test.YtmjilokgpgajjaaThRt
import Derived.Test.YtmjilokgpgajjaaThM3
import Derived.Test.YtmjilokgpgajjaaPFnTHWritesx1
import Derived.Deep.QuietTactic
import Derived.BigQuiet
import Derived.Test.YtmjilokgpgajjaaThM8
import Derived.Test.YtmjilokgpgajjaaThN3
namespace Go.Proofs.Ytmjilokgpgajjaa.Th
open Go.RowKit Go.Proofs.YtmjilokgpgajjaaW.PrintWords Go.Proofs.YtmjilokgpgajjaaW.PrintLast Go.Proofs.YtmjilokgpgajjaaW.PrintMore Go.Proofs.Ytmjilokgpgajjaa.PFnTHWrites
set_option linter.unusedVariables false
set_option linter.unusedSimpArgs false
theorem Bk.at_ {p : Int} {c c' : Cl} (h : Bk p c c') (w : World) : Calls Try.prog 15 #[.int .i64 p, .agg #[.int .i64 c.op, .int .i64 c.n, .string c.S, .int .i64 c.a, .int .i64 c.b, .bool c.d]] w fun e w' => e = .returned (.agg #[.int .i64 c'.op, .int .i64 c'.n, .string c'.S, .int .i64 c'.a, .int .i64 c'.b, .bool c'.d]) ∧ Below w.heap.size w w' := h w
/-- What THRead reads of one call. -/
def OneR (p : Int) (c : Cl) (zs : List Int) : Prop := ∀ (w : World) (rest : List Int) (B : Nat) (A : Option Addr) (C : Nat), w.heap[B]? = some (.cells #[.int .i64 c.op] 3 (0, 0)) → (Kd.int .u8).C w A (zs ++ rest).length (zs ++ rest) → (zs ++ rest).length ≤ C → (zs ++ rest).length < 4000000000 →
    Calls Try.prog 14 #[.int .i64 p, .slice (some ⟨B, 0, none⟩) 1 1, .slice A (zs ++ rest).length C] w fun e w' => ∃ v, e = .returned (.tuple #[v, .int .i64 (rest.length : Int)]) ∧ w'.ownsRow w.heap.size 30 6 v 1 (cl6 c) ∧ Below w.heap.size w w'
theorem OneR.at_ {p : Int} {c : Cl} {zs : List Int} (h : OneR p c zs) (w : World) (rest : List Int) (B : Nat) (A : Option Addr) (C : Nat) (h1 : w.heap[B]? = some (.cells #[.int .i64 c.op] 3 (0, 0))) (h2 : (Kd.int .u8).C w A (zs ++ rest).length (zs ++ rest)) (h3 : (zs ++ rest).length ≤ C) (h4 : (zs ++ rest).length < 4000000000) :
    Calls Try.prog 14 #[.int .i64 p, .slice (some ⟨B, 0, none⟩) 1 1, .slice A (zs ++ rest).length C] w fun e w' => ∃ v, e = .returned (.tuple #[v, .int .i64 (rest.length : Int)]) ∧ w'.ownsRow w.heap.size 30 6 v 1 (cl6 c) ∧ Below w.heap.size w w' := h w rest B A C h1 h2 h3 h4
/-- The same over one name for the bytes. -/
def OneD (p : Int) (c : Cl) (rs ds : List Int) : Prop := ∀ (w : World) (B : Nat) (A : Option Addr) (C : Nat), w.heap[B]? = some (.cells #[.int .i64 c.op] 3 (0, 0)) → (Kd.int .u8).C w A ds.length ds → ds.length ≤ C → ds.length < 4000000000 →
    Calls Try.prog 14 #[.int .i64 p, .slice (some ⟨B, 0, none⟩) 1 1, .slice A ds.length C] w fun e w' => ∃ v, e = .returned (.tuple #[v, .int .i64 (rs.length : Int)]) ∧ w'.ownsRow w.heap.size 30 6 v 1 (cl6 c) ∧ Below w.heap.size w w'
theorem OneD.at_ {p : Int} {c : Cl} {rs ds : List Int} (h : OneD p c rs ds) (w : World) (B : Nat) (A : Option Addr) (C : Nat) (h1 : w.heap[B]? = some (.cells #[.int .i64 c.op] 3 (0, 0))) (h2 : (Kd.int .u8).C w A ds.length ds) (h3 : ds.length ≤ C) (h4 : ds.length < 4000000000) :
    Calls Try.prog 14 #[.int .i64 p, .slice (some ⟨B, 0, none⟩) 1 1, .slice A ds.length C] w fun e w' => ∃ v, e = .returned (.tuple #[v, .int .i64 (rs.length : Int)]) ∧ w'.ownsRow w.heap.size 30 6 v 1 (cl6 c) ∧ Below w.heap.size w w' := h w B A C h1 h2 h3 h4
theorem OneR.to {p : Int} {c : Cl} {zs rs ds : List Int} (h : OneR p c zs) (hd : ds = zs ++ rs) : OneD p c rs ds := by
  subst hd
  exact fun w B A C h1 h2 h3 h4 => h w rs B A C h1 h2 h3 h4
theorem C_op {w : World} {B T : Nat} {x : Int} (h : w.heap[B]? = some (.cells #[.int .i64 x] T (0, 0))) : (Kd.int .i64).C w (some ⟨B, 0, none⟩) 1 [x] :=
  Kd.C_of_reads (d := 0) ⟨rfl, by decide, fun _ => ⟨_, rfl, fun j hj => by
    obtain rfl : j = 0 := by omega
    rw [add_at]
    exact (blk_cell h 0).trans rfl⟩⟩
theorem read_one {p : Int} {op : Int} {c : Cl} {zs : List Int} (hop : c.op = op) (hp : p = 0 ∨ p = 1 ∨ p = 2) (h : RdP p op c zs) : OneR p c zs := by
  subst hop
  intro w rest B A C h1 h2 h3 h4
  have hf : flatz [(c, zs)] = zs := by simp [flatz]
  have h6 : flat6 [(c, zs)] = cl6 c := by simp [flat6]
  have ho : (Kd.int .i64).C w (some ⟨B, 0, none⟩) [(c, zs)].length ([(c, zs)].map (·.1.op)) := C_op h1
  rcases h with ⟨hp2, h⟩ | ⟨rfl, h⟩
  · rcases hp with rfl | rfl | rfl
    · have k := rlist_0 w [(c, zs)] rest (some ⟨B, 0, none⟩) 1 A C (fun x hx => by simp at hx; subst hx; exact h) (by simp) ho (by rw [hf]; exact h2) (by rw [hf]; exact h3) (by rw [hf]; exact h4)
      rw [hf, h6] at k
      exact k
    · have k := rlist_1 w [(c, zs)] rest (some ⟨B, 0, none⟩) 1 A C (fun x hx => by simp at hx; subst hx; exact h) (by simp) ho (by rw [hf]; exact h2) (by rw [hf]; exact h3) (by rw [hf]; exact h4)
      rw [hf, h6] at k
      exact k
    · exact absurd rfl hp2
  · have k := rlist_2 w [(c, zs)] rest (some ⟨B, 0, none⟩) 1 A C (fun x hx => by simp at hx; subst hx; exact h) (by simp) ho (by rw [hf]; exact h2) (by rw [hf]; exact h3) (by rw [hf]; exact h4)
    rw [hf, h6] at k
    exact k
set_option maxHeartbeats 8000000 in
set_option maxRecDepth 100000 in
theorem reads_go (w : World) (g k n : Int) (S : ByteArray) (x y p : Int) (c0 c1 c2 : Cl) (zs : List Int) (hS2 : S.size ≤ 2147483647) (Am : Option Addr) (len m Cm : Nat) (ms : List Int) (hml : ms.length = len) (hC : (Kd.int .u8).C w Am len ms) (hlc : len ≤ Cm) (hl2 : len ≤ 2147483647) (hm : m = min len 9) (hp : laws_wrProtocol.f g = some p) (hc : Mk k n S x y false c0) (hf : laws_wrFor.f 3 p c0.op c0.n c0.S c0.a c0.b c0.d = some (c1.op, c1.n, c1.S, c1.a, c1.b, c1.d)) (ht : Sp p c1 zs) (hb : Bk p c1 c2) (ho : c2.op = c1.op) (hr : OneR p c2 zs) (hzl : zs.length < 2200000000) :
    Calls Try.prog 6 #[.int .u8 g, .int .u8 k, .int .i64 n, .string S, .agg #[.int .u8 x, .int .u8 y], .slice Am len Cm] w fun e w' => e = .returned (.bool true) ∧ Below w.heap.size w w' := by
  have d1 : decide ((2147483647 : Int) < (S.size : Int)) = false := by simp; omega
  have d2 : decide ((2147483647 : Int) < (len : Int)) = false := by simp; omega
  have HP := Aside0.mk hp
  have HC := Aside0.mk hc
  have HF := Aside0.mk hf
  have HT := Aside0.mk ht
  have HBK := Aside0.mk hb
  have HRR := Aside0.mk hr
  have HMS := Aside0.mk hC
  obtain ⟨op1, n1, S1, a1, b1, e1⟩ := c1
  obtain ⟨op2, n2, S2, a2, b2, e2⟩ := c2
  obtain rfl : op2 = op1 := ho
  obtain ⟨op0, n0, S0, a0, b0, e0⟩ := c0
  have HB0 := Aside0.mk (below_alloc (Below.refl w.heap.size w) (.cells #[.int .u8 x, .int .u8 y] 34))
  have HM := Aside0.mk hm
  have HML := Aside0.mk hml
  have HZL := Aside0.mk hzl
  have hmn : Go.Proofs.YtmjilokgpgajjaaW.PrintWords.mn (len : Int) 9 = (m : Int) := by unfold Go.Proofs.YtmjilokgpgajjaaW.PrintWords.mn; omega
  clear hp hc hf ht hb hr hC hS2 hm hml hzl
  go_enter Try.func6, Try.ntmps6
  go_upto_region 6 with (first | (go_at_call 10; (with_reducible refine (laws_wrProtocol.calls g p _ HP.out).mono ?_); rintro e w1 ⟨rfl, hd1⟩; obtain ⟨q, rfl⟩ := hd1.out) | (go_at_call 12; (with_reducible refine (HC.out.at_ _).mono ?_); rintro e w2 ⟨rfl, hb⟩; have HB1 := Aside0.mk ((pw_below_drewN HB0.out _).trans (hb.mono (pw_below_drewN HB0.out _).size)); clear hb) | (go_at_call 11; (with_reducible refine (laws_wrFor.calls 3 _ _ _ _ _ _ _ _ _ _ _ _ _ _ HF.out).mono ?_); rintro e w3 ⟨rfl, hb⟩; have HB2 := Aside0.mk (HB1.out.trans (hb.mono HB1.out.size)); clear hb))
  have es : (if (9 : Int) < (len : Int) then (9 : Int) else (len : Int)).toNat = m := by have := HM.out; split <;> omega
  rw [es]
  obtain ⟨W, hW⟩ : ∃ W, W = w3.alloc (.cells #[.int .i64 op2, .int .i64 n1, .string S1, .int .i64 a1, .int .i64 b1, .bool e1] 30) := ⟨_, rfl⟩
  obtain ⟨G, hG⟩ : ∃ G, G = w3.heap.size := ⟨_, rfl⟩
  have BK := Aside0.mk (show W.heap[G]? = some (.cells #[.int .i64 op2, .int .i64 n1, .string S1, .int .i64 a1, .int .i64 b1, .bool e1] 30 (0, 0)) by rw [hW, hG]; exact blk_new _ _)
  have HB3 := Aside0.mk (show Below w.heap.size w W by rw [hW]; exact below_alloc HB2.out _)
  rw [← hW, ← hG]
  obtain ⟨rs, hrs⟩ : ∃ rs, rs = ms.take m := ⟨_, rfl⟩
  have hrl : rs.length = m := by rw [hrs, List.length_take, HML.out]; have := HM.out; omega
  have HRL := Aside0.mk hrl
  have HM9 := Aside0.mk (show m ≤ 9 by have := HM.out; omega)
  obtain ⟨ds, hds⟩ : ∃ ds, ds = zs ++ rs := ⟨_, rfl⟩
  have HDS := Aside0.mk hds
  have HRD := Aside0.mk (OneR.to HRR.out hds)
  have HDL := Aside0.mk (show ds.length < 4000000000 by have := HZL.out; have := HM9.out; rw [hds, List.length_append, hrl]; omega)
  clear hds
  have HCM := Aside0.mk (fun (W' : World) (hb : Below w.heap.size w W') => (show (Kd.int .u8).C W' Am m rs from (by
    have hr := Kd.reads_of_C (d := (0 : Int)) (Kd.C_below HMS.out (hb.mono (Nat.le_refl _)))
    refine Kd.C_of_reads (d := 0) ⟨hrl, by have := HM9.out; omega, fun hn => ?_⟩
    obtain ⟨ad, ha, hh⟩ := hr.2.2 (by have := HM.out; omega)
    refine ⟨ad, ha, fun j hj => ?_⟩
    rw [hh j (by have := HM.out; omega), hrs]
    congr 2
    simp only [List.getD_eq_getElem?_getD]
    rw [List.getElem?_take_of_lt hj])))
  clear hW hG HB0 HB1 HB2 hrs hrl es hmn
  have q0 : W.cell? ⟨G, 0, none⟩ = some (.int .i64 op2) := (blk_cell BK.out 0).trans rfl
  have q1 : W.cell? ⟨G, 1, none⟩ = some (.int .i64 n1) := (blk_cell BK.out 1).trans rfl
  have q2 : W.cell? ⟨G, 2, none⟩ = some (.string S1) := (blk_cell BK.out 2).trans rfl
  have q3 : W.cell? ⟨G, 3, none⟩ = some (.int .i64 a1) := (blk_cell BK.out 3).trans rfl
  have q4 : W.cell? ⟨G, 4, none⟩ = some (.int .i64 b1) := (blk_cell BK.out 4).trans rfl
  have q5 : W.cell? ⟨G, 5, none⟩ = some (.bool e1) := (blk_cell BK.out 5).trans rfl
  have hltG := blk_lt BK.out
  have HBD := Aside0.mk (below_drew HB3.out)
  have BKD := Aside0.mk (blk_below BK.out (below_drew (Below.refl _ W)))
  have hbx := below_alloc (Below.refl W.heap.size W) (.cells #[.int .i64 op2] 3)
  have HBX := Aside0.mk (below_drew (below_alloc HB3.out (.cells #[.int .i64 op2] 3)))
  have BKX := Aside0.mk (blk_below BK.out (below_drew hbx))
  have BOX := Aside0.mk (show (W.alloc (.cells #[.int .i64 op2] 3)).drew.heap[W.heap.size]? = some (.cells #[.int .i64 op2] 3 (0, 0)) from blk_drew (blk_new W _))
  have x0 : (W.alloc (.cells #[.int .i64 op2] 3)).drew.cell? ⟨G, 0, none⟩ = some (.int .i64 op2) := (blk_cell BKX.out 0).trans rfl
  have x1 : (W.alloc (.cells #[.int .i64 op2] 3)).drew.cell? ⟨G, 1, none⟩ = some (.int .i64 n1) := (blk_cell BKX.out 1).trans rfl
  have x2 : (W.alloc (.cells #[.int .i64 op2] 3)).drew.cell? ⟨G, 2, none⟩ = some (.string S1) := (blk_cell BKX.out 2).trans rfl
  have x3 : (W.alloc (.cells #[.int .i64 op2] 3)).drew.cell? ⟨G, 3, none⟩ = some (.int .i64 a1) := (blk_cell BKX.out 3).trans rfl
  have x4 : (W.alloc (.cells #[.int .i64 op2] 3)).drew.cell? ⟨G, 4, none⟩ = some (.int .i64 b1) := (blk_cell BKX.out 4).trans rfl
  have x5 : (W.alloc (.cells #[.int .i64 op2] 3)).drew.cell? ⟨G, 5, none⟩ = some (.bool e1) := (blk_cell BKX.out 5).trans rfl
  clear hbx
  go_cut [16, 17] (fun s16 s17 wx => s17 = .int .i64 (rs.length : Int) ∧ (∃ (N : Nat), Aside0 (wx.ownsRow N 30 6 s16 1 (cl6 ⟨op2, n2, S2, a2, b2, e2⟩))) ∧ Aside0 (wx.heap[G]? = some (.cells #[.int .i64 op2, .int .i64 n1, .string S1, .int .i64 a1, .int .i64 b1, .bool e1] 30 (0, 0))) ∧ Aside0 (Below w.heap.size w wx))
  case first =>
   go_region_law (first
    | (go_simp; go_at_call 13; (with_reducible refine (HT.out.at_ W.drew).mono ?_); rintro e w5 ⟨v5, rfl, ho, hb⟩; have HR5 := Aside0.mk (Kd.R_lower ho HBD.out.size); have HB5 := Aside0.mk (HBD.out.trans (hb.mono HBD.out.size)); have BK5 := Aside0.mk (blk_below BKD.out hb); have hx5 := below_alloc (Below.refl w5.heap.size w5) (.cells #[.int .i64 op2] 3); have HRX5 := Aside0.mk (Kd.R_below HR5.out hx5); have HBX5 := Aside0.mk (below_alloc HB5.out (.cells #[.int .i64 op2] 3)); have BKX5 := Aside0.mk (blk_below BK5.out hx5); have BOX5 := Aside0.mk (show (w5.alloc (.cells #[.int .i64 op2] 3)).heap[w5.heap.size]? = some (.cells #[.int .i64 op2] 3 (0, 0)) from blk_new w5 _); have y0 : w5.cell? ⟨G, 0, none⟩ = some (.int .i64 op2) := (blk_cell BK5.out 0).trans rfl; have TOKA := Aside0.mk trivial; clear ho hb hx5)
    | (go_simp; go_at_call 13; (with_reducible refine (HT.out.at_ (W.alloc (.cells #[.int .i64 op2] 3)).drew).mono ?_); rintro e w5 ⟨v5, rfl, ho, hb⟩; have HRB := Aside0.mk (Kd.R_lower ho HBX.out.size); have HBB := Aside0.mk (HBX.out.trans (hb.mono HBX.out.size)); have BKB := Aside0.mk (blk_below BKX.out hb); have BOB := Aside0.mk (blk_below BOX.out hb); clear ho hb)
    | (refine Kd.R_append_rows_step (Kd.int .u8) (w0 := w) w.heap.size (by simp [Region.wanted]) (.tmp 48) (.tmp 49) 26 5 (.int .u8 0) 1 rfl Try.underlying26 info5 rfl (by decide) (by decide) _ zs rs Am m Cm (fun _ => True) (fun _ => False) rfl rfl HRB.out (HCM.out _ HBB.out) (fun _ _ h => h) (fun _ h => h.elim) (fun _ _ => trivial) HBB.out HBB.out.size (by have := HZL.out; have := HM9.out; omega) ?_; intro v2 w2 ho hb hg hat; have BK2 := Aside0.mk (blk_grown BKB.out hg (Kd.R_ne HRB.out BKB.out (by decide))); have BO2 := Aside0.mk (blk_grown BOB.out hg (Kd.R_ne HRB.out BOB.out (by decide))); have HB2x := Aside0.mk hb; rw [← HDS.out] at ho; obtain ⟨A2, c2, rfl, hc2, hC2⟩ := Kd.R_reads ho; have HCC := Aside0.mk hC2; have HZC := Aside0.mk (show ds.length ≤ c2 ∧ ds.length < 4000000000 from ⟨hc2, HDL.out⟩); clear ho hb hg hat hC2 hc2)
    | (refine Kd.R_append_rows_step (Kd.int .u8) (w0 := w) w.heap.size (by simp [Region.wanted]) (.tmp 48) (.tmp 49) 26 5 (.int .u8 0) 1 rfl Try.underlying26 info5 rfl (by decide) (by decide) _ zs rs Am m Cm (fun _ => True) (fun _ => False) rfl rfl HRX5.out (HCM.out _ HBX5.out) (fun _ _ h => h) (fun _ h => h.elim) (fun _ _ => trivial) HBX5.out HBX5.out.size (by have := HZL.out; have := HM9.out; omega) ?_; intro v2 w2 ho hb hg hat; have BK2 := Aside0.mk (blk_grown BKX5.out hg (Kd.R_ne HRX5.out BKX5.out (by decide))); have BO2 := Aside0.mk (blk_grown BOX5.out hg (Kd.R_ne HRX5.out BOX5.out (by decide))); have HB2x := Aside0.mk hb; rw [← HDS.out] at ho; obtain ⟨A2, c2, rfl, hc2, hC2⟩ := Kd.R_reads ho; have HCC := Aside0.mk hC2; have HZC := Aside0.mk (show ds.length ≤ c2 ∧ ds.length < 4000000000 from ⟨hc2, HDL.out⟩); clear ho hb hg hat hC2 hc2)
    | (refine Kd.R_append_rows_step (Kd.int .u8) (w0 := w) w.heap.size (by simp [Region.wanted]) (.tmp 48) (.tmp 49) 26 5 (.int .u8 0) 1 rfl Try.underlying26 info5 rfl (by decide) (by decide) _ zs rs Am m Cm (fun _ => True) (fun _ => False) rfl rfl HR5.out (HCM.out _ HB5.out) (fun _ _ h => h) (fun _ h => h.elim) (fun _ _ => trivial) HB5.out HB5.out.size (by have := HZL.out; have := HM9.out; omega) ?_; intro v2 w2 ho hb hg hat; have BK1 := Aside0.mk (blk_grown BK5.out hg (Kd.R_ne HR5.out BK5.out (by decide))); have z0 : w2.cell? ⟨G, 0, none⟩ = some (.int .i64 op2) := (blk_cell BK1.out 0).trans rfl; have hx2 := below_alloc (Below.refl w2.heap.size w2) (.cells #[.int .i64 op2] 3); have HB1x := Aside0.mk (below_alloc hb (.cells #[.int .i64 op2] 3)); rw [← HDS.out] at ho; obtain ⟨A2, c2, rfl, hc2, hC2⟩ := Kd.R_reads ho; have HCC1 := Aside0.mk (Kd.C_below hC2 hx2); have BKY := Aside0.mk (blk_below BK1.out hx2); have BOY := Aside0.mk (show (w2.alloc (.cells #[.int .i64 op2] 3)).heap[w2.heap.size]? = some (.cells #[.int .i64 op2] 3 (0, 0)) from blk_new w2 _); have HZC := Aside0.mk (show ds.length ≤ c2 ∧ ds.length < 4000000000 from ⟨hc2, HDL.out⟩); clear ho hb hg hat hC2 hc2 hx2)
    | (go_simp; go_at_call 14; (with_reducible refine (HRD.out.at_ (w2.alloc (.cells #[.int .i64 op2] 3)) w2.heap.size A2 c2 BOY.out HCC1.out HZC.out.1 HZC.out.2).mono ?_); rintro e w7 ⟨v7, rfl, ho, hb⟩; have HV7 := Aside0.mk ho; have HB7 := Aside0.mk (HB1x.out.trans (hb.mono HB1x.out.size)); have BK7 := Aside0.mk (blk_below BKY.out hb); clear ho hb)
    | (go_simp; go_at_call 14; (with_reducible refine (HRD.out.at_ w2 _ A2 c2 BO2.out HCC.out HZC.out.1 HZC.out.2).mono ?_); rintro e w7 ⟨v7, rfl, ho, hb⟩; have HV7 := Aside0.mk ho; have HB7 := Aside0.mk (HB2x.out.trans (hb.mono HB2x.out.size)); have BK7 := Aside0.mk (blk_below BK2.out hb); clear ho hb))
   all_goals
    go_wp2_with fail
    all_goals
     go_meet
     exact ⟨rfl, ⟨_, HV7⟩, BK7, HB7⟩
  case rest =>
   obtain ⟨rfl, ⟨N, HV⟩, BKc, HBc⟩ := hcut
   have r0 : wc.cell? ⟨G, 0, none⟩ = some (.int .i64 op2) := (blk_cell BKc.out 0).trans rfl
   have r1 : wc.cell? ⟨G, 1, none⟩ = some (.int .i64 n1) := (blk_cell BKc.out 1).trans rfl
   have r2 : wc.cell? ⟨G, 2, none⟩ = some (.string S1) := (blk_cell BKc.out 2).trans rfl
   have r3 : wc.cell? ⟨G, 3, none⟩ = some (.int .i64 a1) := (blk_cell BKc.out 3).trans rfl
   have r4 : wc.cell? ⟨G, 4, none⟩ = some (.int .i64 b1) := (blk_cell BKc.out 4).trans rfl
   have r5 : wc.cell? ⟨G, 5, none⟩ = some (.bool e1) := (blk_cell BKc.out 5).trans rfl
   clear q0 q1 q2 q3 q4 q5 x0 x1 x2 x3 x4 x5 HBD BKD HBX BKX BOX BK HCM HB3 HMS
   obtain ⟨hvl, (⟨_, hv0⟩ | ⟨gv, cap, cur, rfl, hgN, hgb, h1c, hcm, hcs, hct⟩)⟩ := HV.out
   · omega
   have HGB := Aside0.mk hgb
   have HCT := Aside0.mk hct
   have HCS := Aside0.mk (And.intro h1c hcs)
   clear hvl hgN hgb hcm hcs hct h1c HV
   go_upto_region 8 with (go_at_call 15; (with_reducible refine (HBK.out.at_ _).mono ?_); rintro e w8 ⟨rfl, hb⟩; have HB8 := Aside0.mk (HBc.out.trans (hb.mono HBc.out.size)); have HG8 := Aside0.mk (blk_below HGB.out hb); clear hb)
   have hx8 := below_alloc (Below.refl w8.heap.size w8) (.cells #[.int .i64 op2, .int .i64 n2, .string S2, .int .i64 a2, .int .i64 b2, .bool e2] 30)
   have HG9 := Aside0.mk (blk_below HG8.out hx8)
   have HB9 := Aside0.mk (below_alloc HB8.out (.cells #[.int .i64 op2, .int .i64 n2, .string S2, .int .i64 a2, .int .i64 b2, .bool e2] 30))
   have HN9 := Aside0.mk (blk_new w8 (.cells #[.int .i64 op2, .int .i64 n2, .string S2, .int .i64 a2, .int .i64 b2, .bool e2] 30))
   obtain ⟨W9, hW9⟩ : ∃ W9, W9 = w8.alloc (.cells #[.int .i64 op2, .int .i64 n2, .string S2, .int .i64 a2, .int .i64 b2, .bool e2] 30) := ⟨_, rfl⟩
   obtain ⟨G9, hG9⟩ : ∃ G9, G9 = w8.heap.size := ⟨_, rfl⟩
   rw [← hW9, ← hG9]
   rw [← hW9] at HG9 HB9
   rw [← hW9, ← hG9] at HN9
   clear hW9 hG9 hx8 HB8 HG8 r0 r1 r2 r3 r4 r5
   have hk (j : Nat) (hj : j < 6) : W9.cell? ⟨gv, j, none⟩ = (cl6 ⟨op2, n2, S2, a2, b2, e2⟩)[j]? := by
     rw [blk_cell HG9.out j, ← HCT.out, List.getElem?_take_of_lt (by omega), Array.getElem?_toList]
   have v0 : W9.cell? ⟨gv, 0, none⟩ = some (.int .i64 op2) := (hk 0 (by decide)).trans rfl
   have v1 : W9.cell? ⟨gv, 1, none⟩ = some (.int .i64 n2) := (hk 1 (by decide)).trans rfl
   have v2 : W9.cell? ⟨gv, 2, none⟩ = some (.string S2) := (hk 2 (by decide)).trans rfl
   have v3 : W9.cell? ⟨gv, 3, none⟩ = some (.int .i64 a2) := (hk 3 (by decide)).trans rfl
   have v4 : W9.cell? ⟨gv, 4, none⟩ = some (.int .i64 b2) := (hk 4 (by decide)).trans rfl
   have v5 : W9.cell? ⟨gv, 5, none⟩ = some (.bool e2) := (hk 5 (by decide)).trans rfl
   have u0 : W9.cell? ⟨G9, 0, none⟩ = some (.int .i64 op2) := (blk_cell HN9.out 0).trans rfl
   have u1 : W9.cell? ⟨G9, 1, none⟩ = some (.int .i64 n2) := (blk_cell HN9.out 1).trans rfl
   have u2 : W9.cell? ⟨G9, 2, none⟩ = some (.string S2) := (blk_cell HN9.out 2).trans rfl
   have u3 : W9.cell? ⟨G9, 3, none⟩ = some (.int .i64 a2) := (blk_cell HN9.out 3).trans rfl
   have u4 : W9.cell? ⟨G9, 4, none⟩ = some (.int .i64 b2) := (blk_cell HN9.out 4).trans rfl
   have u5 : W9.cell? ⟨G9, 5, none⟩ = some (.bool e2) := (blk_cell HN9.out 5).trans rfl
   have hrl := HRL.out
   subst hrl
   have h1c := HCS.out.1
   clear hk HRL HM HM9
   go_quiet (fail)
   go_wp2_with fail
   go_ret
   exact ⟨rfl, pw_below_drewN HB9.out _⟩
set_option maxHeartbeats 4000000 in
set_option maxRecDepth 100000 in
theorem reads_big (w : World) (g k n : Int) (S : ByteArray) (x y : Int) (hS : S.size ≤ 9223372036854775807) (hS2 : 2147483647 < S.size) (M : Value) :
    Calls Try.prog 6 #[.int .u8 g, .int .u8 k, .int .i64 n, .string S, .agg #[.int .u8 x, .int .u8 y], M] w fun e w' => e = .returned (.bool true) ∧ Below w.heap.size w w' := by
  have d1 : decide ((2147483647 : Int) < (S.size : Int)) = true := by simp; omega
  have HB0 := Aside0.mk (below_alloc (Below.refl w.heap.size w) (.cells #[.int .u8 x, .int .u8 y] 34))
  clear hS hS2
  go_enter Try.func6, Try.ntmps6
  go_wp2
  go_ret
  exact ⟨rfl, HB0.out⟩
set_option maxHeartbeats 4000000 in
set_option maxRecDepth 100000 in
theorem reads_long (w : World) (g k n : Int) (S : ByteArray) (x y : Int) (hS2 : S.size ≤ 2147483647) (Am : Option Addr) (len Cm : Nat) (hlen : 2147483647 < len) :
    Calls Try.prog 6 #[.int .u8 g, .int .u8 k, .int .i64 n, .string S, .agg #[.int .u8 x, .int .u8 y], .slice Am len Cm] w fun e w' => e = .returned (.bool true) ∧ Below w.heap.size w w' := by
  have d1 : decide ((2147483647 : Int) < (S.size : Int)) = false := by simp; omega
  have d2 : decide ((2147483647 : Int) < (len : Int)) = true := by simp; omega
  have HB0 := Aside0.mk (below_alloc (Below.refl w.heap.size w) (.cells #[.int .u8 x, .int .u8 y] 34))
  clear hS2 hlen
  go_enter Try.func6, Try.ntmps6
  go_wp2
  go_ret
  exact ⟨rfl, HB0.out⟩
end Go.Proofs.Ytmjilokgpgajjaa.Th

namespace Go.Proofs.Ytmjilokgpgajjaa.Th
open Go.RowKit Go.Proofs.YtmjilokgpgajjaaW.PrintWords Go.Proofs.YtmjilokgpgajjaaW.PrintLast Go.Proofs.YtmjilokgpgajjaaW.PrintMore Go.Proofs.Ytmjilokgpgajjaa.PFnTHWrites
set_option linter.unusedVariables false
set_option linter.unusedSimpArgs false
theorem good_len {p : Int} {c : Cl} {zs : List Int} (h : Good p c zs) : zs.length < 2200000000 := by
  rcases h with ⟨-, h | h⟩ | ⟨-, h | h⟩ | ⟨-, h⟩ <;> cases h <;> simp [hib_len, vbytes_len, bytesOf_length] <;> omega
theorem law_reads (w : World) (g : Int) (g0 : 0 ≤ g) (g1 : g ≤ 255) (k : Int) (k0 : 0 ≤ k) (k1 : k ≤ 255) (n : Int) (n0 : -9223372036854775808 ≤ n) (n1 : n ≤ 9223372036854775807) (S : ByteArray) (hS : S.size ≤ 9223372036854775807) (x y : Int) (x0 : 0 ≤ x) (x1 : x ≤ 255) (y0 : 0 ≤ y) (y1 : y ≤ 255)
    (Am : Option Addr) (len Cm : Nat) (ms : List Int) (hml : ms.length = len) (hll : len ≤ 140737488351232) (hlc : len ≤ Cm) (hC : (Kd.int .u8).C w Am ms.length ms) (hu : ∀ y ∈ ms, 0 ≤ y ∧ y ≤ 255) :
    Calls Try.prog 6 #[.int .u8 g, .int .u8 k, .int .i64 n, .string S, .agg #[.int .u8 x, .int .u8 y], .slice Am len Cm] w fun e w' => e = .returned (.bool true) ∧ Below w.heap.size w w' := by
  by_cases h : S.size ≤ 2147483647
  · by_cases h2 : len ≤ 2147483647
    · have hp : laws_wrProtocol.f g = some (g % 3) := by
        have e : wrap64 g = g := by unfold wrap64; omega
        show some (Int.tmod (wrap64 g) 3) = _
        rw [e, Int.tmod_eq_emod_of_nonneg g0]
      obtain ⟨c0, c1, zs, hc, hf, hg⟩ := good_all k n x y S k0 k1 n0 n1 x0 x1 y0 y1 h (g % 3) (by omega)
      obtain ⟨c2, hb, hr, ho⟩ := good_read hg
      exact reads_go w g k n S x y (g % 3) c0 c1 c2 zs h Am len (min len 9) Cm ms hml (by rw [hml] at hC; exact hC) hlc h2 rfl hp hc hf (good_sp hg) hb ho (read_one ho (by omega) hr) (good_len hg)
    · exact reads_long w g k n S x y h Am len Cm (by omega)
  · exact reads_big w g k n S x y hS (by omega) _
end Go.Proofs.Ytmjilokgpgajjaa.Th
