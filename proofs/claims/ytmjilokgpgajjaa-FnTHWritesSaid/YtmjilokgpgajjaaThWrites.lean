/- The law on writes: the walk, given what its parts tell. -/
import Derived.Test.YtmjilokgpgajjaaThM3
namespace Go.Proofs.Ytmjilokgpgajjaa.Th
open Go.RowKit Go.Proofs.YtmjilokgpgajjaaW.PrintWords Go.Proofs.YtmjilokgpgajjaaW.PrintLast Go.Proofs.YtmjilokgpgajjaaW.PrintMore Go.Proofs.Ytmjilokgpgajjaa.PFnTHWrites
set_option linter.unusedVariables false
set_option linter.unusedSimpArgs false
/-- What wrCall makes. -/
def Mk (g n : Int) (S : ByteArray) (x y : Int) (d : Bool) (c : Cl) : Prop := ∀ w : World, Calls Try.prog 12 #[.int .u8 g, .int .i64 n, .string S, .agg #[.int .u8 x, .int .u8 y], .bool d] w fun e w' => e = .returned (.agg #[.int .i64 c.op, .int .i64 c.n, .string c.S, .int .i64 c.a, .int .i64 c.b, .bool c.d]) ∧ Below w.heap.size w w'
/-- What the definition tells of a call. -/
def Sp (p : Int) (c : Cl) (zs : List Int) : Prop := ∀ w : World, Calls Try.prog 13 #[.int .i64 p, .agg #[.int .i64 c.op, .int .i64 c.n, .string c.S, .int .i64 c.a, .int .i64 c.b, .bool c.d]] w fun e w' => ∃ v, e = .returned v ∧ (Kd.int .u8).R 5 w' w.heap.size (fun _ => True) v zs ∧ Below w.heap.size w w'
/-- What THWrite writes of one call. -/
def One (p : Int) (c : Cl) (zs : List Int) : Prop := ∀ (w : World) (B C : Nat), B < w.heap.size → w.heap[B]? = some (.cells #[.int .i64 c.op, .int .i64 c.n, .string c.S, .int .i64 c.a, .int .i64 c.b, .bool c.d] 30 (0, 0)) →
    Calls Try.prog 9 #[.int .i64 p, .slice (some ⟨B, 0, none⟩) 1 C] w fun e w' => ∃ (A : Option Addr) (c : Nat), e = .returned (.tuple #[.slice A zs.length c, .int .i64 1]) ∧ (Kd.int .u8).R 5 w' w.heap.size (fun _ => True) (.slice A zs.length c) zs ∧ Below w.heap.size w w'
theorem Mk.at_ {g n : Int} {S : ByteArray} {x y : Int} {d : Bool} {c : Cl} (h : Mk g n S x y d c) (w : World) : Calls Try.prog 12 #[.int .u8 g, .int .i64 n, .string S, .agg #[.int .u8 x, .int .u8 y], .bool d] w fun e w' => e = .returned (.agg #[.int .i64 c.op, .int .i64 c.n, .string c.S, .int .i64 c.a, .int .i64 c.b, .bool c.d]) ∧ Below w.heap.size w w' := h w
theorem Sp.at_ {p : Int} {c : Cl} {zs : List Int} (h : Sp p c zs) (w : World) : Calls Try.prog 13 #[.int .i64 p, .agg #[.int .i64 c.op, .int .i64 c.n, .string c.S, .int .i64 c.a, .int .i64 c.b, .bool c.d]] w fun e w' => ∃ v, e = .returned v ∧ (Kd.int .u8).R 5 w' w.heap.size (fun _ => True) v zs ∧ Below w.heap.size w w' := h w
theorem One.at_ {p : Int} {c : Cl} {zs : List Int} (h : One p c zs) (w : World) (B C : Nat) (hB : B < w.heap.size) (hl : w.heap[B]? = some (.cells #[.int .i64 c.op, .int .i64 c.n, .string c.S, .int .i64 c.a, .int .i64 c.b, .bool c.d] 30 (0, 0))) :
    Calls Try.prog 9 #[.int .i64 p, .slice (some ⟨B, 0, none⟩) 1 C] w fun e w' => ∃ (A : Option Addr) (c : Nat), e = .returned (.tuple #[.slice A zs.length c, .int .i64 1]) ∧ (Kd.int .u8).R 5 w' w.heap.size (fun _ => True) (.slice A zs.length c) zs ∧ Below w.heap.size w w' := h w B C hB hl
set_option maxHeartbeats 8000000 in
set_option maxRecDepth 100000 in
theorem writes_go (w : World) (g k n : Int) (S : ByteArray) (x y p : Int) (c0 c1 : Cl) (zs : List Int) (hS : S.size ≤ 9223372036854775807) (hS2 : S.size ≤ 2147483647) (hp : laws_wrProtocol.f g = some p) (hc : Mk k n S x y false c0) (hf : laws_wrFor.f 3 p c0.op c0.n c0.S c0.a c0.b c0.d = some (c1.op, c1.n, c1.S, c1.a, c1.b, c1.d)) (hw : One p c1 zs) (ht : Sp p c1 zs) :
    Calls Try.prog 5 #[.int .u8 g, .int .u8 k, .int .i64 n, .string S, .agg #[.int .u8 x, .int .u8 y]] w fun e w' => e = .returned (.bool true) ∧ Below w.heap.size w w' := by
  have d1 : decide ((2147483647 : Int) < (S.size : Int)) = false := by simp; omega
  have HP := Aside0.mk hp
  have HC := Aside0.mk hc
  have HF := Aside0.mk hf
  have HW := Aside0.mk hw
  have HT := Aside0.mk ht
  obtain ⟨op1, n1, S1, a1, b1, e1⟩ := c1
  obtain ⟨op0, n0, S0, a0, b0, e0⟩ := c0
  have HB0 := Aside0.mk (below_alloc (Below.refl w.heap.size w) (.cells #[.int .u8 x, .int .u8 y] 34))
  clear hp hc hf hw ht hS hS2
  go_enter Try.func5, Try.ntmps5
  go_upto_region 5 with (first | (go_at_call 10; (with_reducible refine (laws_wrProtocol.calls g p _ HP.out).mono ?_); rintro e w1 ⟨rfl, hd1⟩; obtain ⟨q, rfl⟩ := hd1.out) | (go_at_call 12; (with_reducible refine (HC.out.at_ _).mono ?_); rintro e w2 ⟨rfl, hb⟩; have HB1 := Aside0.mk ((pw_below_drewN HB0.out _).trans (hb.mono (pw_below_drewN HB0.out _).size)); clear hb) | (go_at_call 11; (with_reducible refine (laws_wrFor.calls 3 _ _ _ _ _ _ _ _ _ _ _ _ _ _ HF.out).mono ?_); rintro e w3 ⟨rfl, hb⟩; have HB2 := Aside0.mk (HB1.out.trans (hb.mono HB1.out.size)); clear hb))
  obtain ⟨W, hW⟩ : ∃ W, W = w3.alloc (.cells #[.int .i64 op1, .int .i64 n1, .string S1, .int .i64 a1, .int .i64 b1, .bool e1] 30) := ⟨_, rfl⟩
  obtain ⟨G, hG⟩ : ∃ G, G = w3.heap.size := ⟨_, rfl⟩
  have BK := Aside0.mk (show W.heap[G]? = some (.cells #[.int .i64 op1, .int .i64 n1, .string S1, .int .i64 a1, .int .i64 b1, .bool e1] 30 (0, 0)) by rw [hW, hG]; exact blk_new _ _)
  have HB3 := Aside0.mk (show Below w.heap.size w W by rw [hW]; exact below_alloc HB2.out _)
  rw [← hW, ← hG]
  clear hW hG HB0 HB1 HB2
  have q0 : W.cell? ⟨G, 0, none⟩ = some (.int .i64 op1) := (blk_cell BK.out 0).trans rfl
  have q1 : W.cell? ⟨G, 1, none⟩ = some (.int .i64 n1) := (blk_cell BK.out 1).trans rfl
  have q2 : W.cell? ⟨G, 2, none⟩ = some (.string S1) := (blk_cell BK.out 2).trans rfl
  have q3 : W.cell? ⟨G, 3, none⟩ = some (.int .i64 a1) := (blk_cell BK.out 3).trans rfl
  have q4 : W.cell? ⟨G, 4, none⟩ = some (.int .i64 b1) := (blk_cell BK.out 4).trans rfl
  have q5 : W.cell? ⟨G, 5, none⟩ = some (.bool e1) := (blk_cell BK.out 5).trans rfl
  have hltG := blk_lt BK.out
  go_upto_region 6 with (go_at_call 9; (with_reducible refine (HW.out.at_ _ _ _ (blk_lt (blk_new W _)) (blk_new W _)).mono ?_); rintro e w4 ⟨A4, c4, rfl, hr, hb⟩; have hbW := below_alloc (Below.refl W.heap.size W) (.cells #[.int .i64 op1, .int .i64 n1, .string S1, .int .i64 a1, .int .i64 b1, .bool e1] 30); have HB4 := Aside0.mk ((HB3.out.trans (hbW.mono HB3.out.size)).trans (hb.mono (HB3.out.trans (hbW.mono HB3.out.size)).size)); have BK4 := Aside0.mk (blk_below (blk_below BK.out hbW) hb); have HC4 := Aside0.mk (Kd.R_reads' hr).2.2; clear hr hb hbW)
  have r0 : w4.cell? ⟨G, 0, none⟩ = some (.int .i64 op1) := (blk_cell BK4.out 0).trans rfl
  have r1 : w4.cell? ⟨G, 1, none⟩ = some (.int .i64 n1) := (blk_cell BK4.out 1).trans rfl
  have r2 : w4.cell? ⟨G, 2, none⟩ = some (.string S1) := (blk_cell BK4.out 2).trans rfl
  have r3 : w4.cell? ⟨G, 3, none⟩ = some (.int .i64 a1) := (blk_cell BK4.out 3).trans rfl
  have r4 : w4.cell? ⟨G, 4, none⟩ = some (.int .i64 b1) := (blk_cell BK4.out 4).trans rfl
  have r5 : w4.cell? ⟨G, 5, none⟩ = some (.bool e1) := (blk_cell BK4.out 5).trans rfl
  have HBD := Aside0.mk (below_drew HB4.out)
  have u38 : Sem.run Try.prog (convert 26 9 (.slice A4 zs.length c4)) w4.drew = .ok (.string (strOfNums zs)) w4.drew := Kd.C_string Try.underlying26 Try.underlying5 Try.underlying9 (Kd.C_drew HC4.out)
  go_region_with (go_at_call 13; (with_reducible refine (HT.out.at_ _).mono ?_); rintro e w5 ⟨v5, rfl, ho, hb⟩; obtain ⟨A5, c5, rfl, hc5, hC5⟩ := Kd.R_reads ho; have t38 : Sem.run Try.prog (convert 26 9 (.slice A4 zs.length c4)) w5 = .ok (.string (strOfNums zs)) w5 := Kd.C_string Try.underlying26 Try.underlying5 Try.underlying9 (Kd.C_below (Kd.C_drew HC4.out) hb); have t42 : Sem.run Try.prog (convert 26 9 (.slice A5 zs.length c5)) w5 = .ok (.string (strOfNums zs)) w5 := Kd.C_string Try.underlying26 Try.underlying5 Try.underlying9 hC5; have HB5 := Aside0.mk (HBD.out.trans (hb.mono HBD.out.size)); clear ho hb hC5)
  all_goals
    go_wp2_with fail
    go_ret
    exact ⟨rfl, HB5.out⟩
set_option maxHeartbeats 4000000 in
set_option maxRecDepth 100000 in
theorem writes_big (w : World) (g k n : Int) (S : ByteArray) (x y : Int) (hS : S.size ≤ 9223372036854775807) (hS2 : 2147483647 < S.size) :
    Calls Try.prog 5 #[.int .u8 g, .int .u8 k, .int .i64 n, .string S, .agg #[.int .u8 x, .int .u8 y]] w fun e w' => e = .returned (.bool true) ∧ Below w.heap.size w w' := by
  have d1 : decide ((2147483647 : Int) < (S.size : Int)) = true := by simp; omega
  have HB0 := Aside0.mk (below_alloc (Below.refl w.heap.size w) (.cells #[.int .u8 x, .int .u8 y] 34))
  clear hS hS2
  go_enter Try.func5, Try.ntmps5
  go_wp2
  go_ret
  exact ⟨rfl, HB0.out⟩
end Go.Proofs.Ytmjilokgpgajjaa.Th
