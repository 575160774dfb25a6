/- Written by thrt.py (wip/tpl): calls that stand one behind the other are read one behind the other. -/
import Derived.Test.YtmjilokgpgajjaaGreatSThN3
import Derived.Test.YtmjilokgpgajjaaGreatSThProt
namespace Go.Proofs.YtmjilokgpgajjaaGreat.Th
open Go.RowKit Go.Proofs.YtmjilokgpgajjaaGreatW.PrintWords Go.Proofs.YtmjilokgpgajjaaGreatW.PrintLast Go.Proofs.YtmjilokgpgajjaaGreatW.PrintMore
set_option linter.unusedVariables false
set_option linter.unusedSimpArgs false
theorem Rr.at_ {it off SZ : Nat} {op : Int} {c : Cl} {zs : List Int} (h : Rr it off SZ op c zs) (w : World) (base Rb Rd T : Nat) (A : Option Addr) (D : List Int) (C i : Nat) (hs : Sr w base Rb Rd T off SZ A D C i) (hz : At D i zs) : Calls Tryz.prog 18 #[.iface it (.pointer (some ⟨Rd, 0, none⟩)), .int .i64 op] w fun e w' => e = .returned (.tuple #[.agg #[.int .i64 c.op, .int .i64 c.n, .string c.S, .int .i64 c.a, .int .i64 c.b, .bool c.d], .bool true]) ∧ Done w w' base Rb Rd T off SZ A D C (i + zs.length) := h w base Rb Rd T A D C i hs hz
/-- A call's cells. -/
def cl6 (c : Cl) : List Value := [.int .i64 c.op, .int .i64 c.n, .string c.S, .int .i64 c.a, .int .i64 c.b, .bool c.d]
def flat6 (l : List (Cl × List Int)) : List Value := l.flatMap (fun x => cl6 x.1)
def flatz (l : List (Cl × List Int)) : List Int := l.flatMap (·.2)
theorem flat6_snoc (l : List (Cl × List Int)) (k : Nat) (x : Cl × List Int) (h : l[k]? = some x) : flat6 (l.take (k + 1)) = flat6 (l.take k) ++ cl6 x.1 := by
  unfold flat6; rw [List.take_add_one, h, List.flatMap_append]; simp
theorem flatz_snoc (l : List (Cl × List Int)) (k : Nat) (x : Cl × List Int) (h : l[k]? = some x) : flatz (l.take (k + 1)) = flatz (l.take k) ++ x.2 := by
  unfold flatz; rw [List.take_add_one, h, List.flatMap_append]; simp
theorem at_flat (l : List (Cl × List Int)) (rest : List Int) (k : Nat) (x : Cl × List Int) (h : l[k]? = some x) : At (flatz l ++ rest) (flatz (l.take k)).length x.2 := by
  refine ⟨flatz (l.take k), flatz (l.drop (k + 1)) ++ rest, ?_, rfl⟩
  have h1 : flatz l = flatz (l.take (k + 1)) ++ flatz (l.drop (k + 1)) := by unfold flatz; rw [← List.flatMap_append, List.take_append_drop]
  rw [h1, flatz_snoc l k x h]
  simp [List.append_assoc]
theorem Sr.grown {w w' : World} {base Rb Rd T off SZ C i : Nat} {A : Option Addr} {D : List Int} {row : Option Nat} (h : Sr w base Rb Rd T off SZ A D C i) (hg : w.grownBy w' row) (h1 : some Rb ≠ row) (h2 : some Rd ≠ row) (h3 : ∀ k, row = some k → base ≤ k) : Sr w' base Rb Rd T off SZ A D C i := by
  obtain ⟨ws, h4, h5⟩ := h.hQ
  exact ⟨(hg.block Rb (blk_lt h.hR) h1).trans h.hR, Kd.F_step h.hD (fun k hk hlt => hg.block k hlt (fun e => Nat.lt_irrefl _ (Nat.lt_of_lt_of_le hk (h3 k e.symm)))), ⟨ws, (hg.block Rd (blk_lt h4) h2).trans h4, h5⟩, h.hZ, h.n1, h.hC, h.hL, h.b1, h.b2, Nat.le_trans h.b3 hg.size⟩
theorem info6 : (Tryz.prog.info? 25).map (fun i => (i.zero, i.size, i.bytes)) = some (some (.agg #[.int .i64 0, .int .i64 0, .string ⟨#[]⟩, .int .i64 0, .int .i64 0, .bool false]), 6, 56) := by kernel_rfl
set_option maxHeartbeats 4000000 in
set_option maxRecDepth 100000 in
theorem newr_b (w : World) (Pg Rb : Nat) : Calls Tryz.prog 45 #[.pointer (some ⟨Pg, 0, none⟩), .iface 52 (.pointer (some ⟨Rb, 0, none⟩))] w fun e w' => e = .returned (.iface 157 (.pointer (some ⟨w.heap.size, 0, none⟩))) ∧ w'.heap[w.heap.size]? = some (.cells #[.pointer (some ⟨Pg, 0, none⟩), .iface 52 (.pointer (some ⟨Rb, 0, none⟩)), .int .u8 0, .int .u8 0, .int .u8 0, .int .u8 0, .int .u8 0, .int .u8 0, .int .u8 0, .int .u8 0] 160 (0, 0)) ∧ Below w.heap.size w w' := by
  go_enter Tryz.func45, Tryz.ntmps45
  go_wp2_with (((with_reducible refine gate_dst (N := 8) rfl ?_); refine box_event ?xhg (N := 8) ?xhd (cs := #[.pointer (some ⟨Pg, 0, none⟩), .iface 52 (.pointer (some ⟨Rb, 0, none⟩)), .int .u8 0, .int .u8 0, .int .u8 0, .int .u8 0, .int .u8 0, .int .u8 0, .int .u8 0, .int .u8 0]) (t := 160) ?xhr ?_; (case xhd => rfl); (case xhg => rfl); (case xhr => first | (go_simp; done) | (go_simp; rfl)); intro Bg hG w1 hb1 hg1; subst hG))
  go_ret
  exact ⟨rfl, hb1, hg1⟩
set_option maxHeartbeats 4000000 in
set_option maxRecDepth 100000 in
theorem newr_c (w : World) (Pg Rb : Nat) : Calls Tryz.prog 48 #[.pointer (some ⟨Pg, 0, none⟩), .iface 52 (.pointer (some ⟨Rb, 0, none⟩))] w fun e w' => e = .returned (.iface 164 (.pointer (some ⟨w.heap.size, 0, none⟩))) ∧ w'.heap[w.heap.size]? = some (.cells #[.pointer (some ⟨Pg, 0, none⟩), .pointer none, .iface 52 (.pointer (some ⟨Rb, 0, none⟩)), .int .u8 0, .int .u8 0, .int .u8 0, .int .u8 0, .int .u8 0, .int .u8 0, .int .u8 0, .int .u8 0] 166 (0, 0)) ∧ Below w.heap.size w w' := by
  go_enter Tryz.func48, Tryz.ntmps48
  go_wp2_with (((with_reducible refine gate_dst (N := 9) rfl ?_); refine box_event ?xhg (N := 9) ?xhd (cs := #[.pointer (some ⟨Pg, 0, none⟩), .pointer none, .iface 52 (.pointer (some ⟨Rb, 0, none⟩)), .int .u8 0, .int .u8 0, .int .u8 0, .int .u8 0, .int .u8 0, .int .u8 0, .int .u8 0, .int .u8 0]) (t := 166) ?xhr ?_; (case xhd => rfl); (case xhg => rfl); (case xhr => first | (go_simp; done) | (go_simp; rfl)); intro Bg hG w1 hb1 hg1; subst hG))
  go_ret
  exact ⟨rfl, hb1, hg1⟩
set_option maxHeartbeats 8000000 in
set_option maxRecDepth 100000 in
theorem rlist_0 (w : World) (l : List (Cl × List Int)) (rest : List Int) (Ao : Option Addr) (Co : Nat) (A : Option Addr) (C : Nat) (hl : ∀ x, x ∈ l → Rr 157 0 10 x.1.op x.1 x.2) (hn : l.length < 1000) (hO : (Kd.int .i64).C w Ao l.length (l.map (·.1.op))) (hD : (Kd.int .u8).C w A (flatz l ++ rest).length (flatz l ++ rest)) (hC : (flatz l ++ rest).length ≤ C) (hL : (flatz l ++ rest).length < 4000000000) :
    Calls Tryz.prog 11 #[.int .i64 0, .slice Ao l.length Co, .slice A (flatz l ++ rest).length C] w fun e w' => ∃ v, e = .returned (.tuple #[v, .int .i64 (rest.length : Int)]) ∧ w'.ownsRow w.heap.size 25 6 v l.length (flat6 l) ∧ Below w.heap.size w w' := by
  have HL := Aside0.mk hl
  have HO := Aside0.mk hO
  have HF := Aside0.mk (Kd.C_F (Kd.heap_int .u8) hD)
  have HAT := Aside0.mk (at_flat l rest)
  have hlen : (flatz l ++ rest).length = (flatz l).length + rest.length := List.length_append
  have HLen := Aside0.mk hlen
  obtain ⟨D, hDD⟩ : ∃ D, D = flatz l ++ rest := ⟨_, rfl⟩
  rw [← hDD] at HF HAT hC hL HLen ⊢
  have HCL := Aside0.mk (And.intro hC hL)
  have HB0 := Aside0.mk (Below.refl w.heap.size w)
  clear hl hO hD hlen hDD hC hL
  go_enter Tryz.func11, Tryz.ntmps11
  go_upto_region 3 with (first | ((with_reducible refine gate_dst (N := 16) rfl ?_); refine box_event ?xhg (N := 16) ?xhd (cs := #[.slice A D.length C, .int .i64 0]) (t := 54) ?xhr ?_; (case xhd => rfl); (case xhg => rfl); (case xhr => first | (go_simp; done) | (go_simp; rfl)); intro Rb hG w1 hb1 hg1; have HRB := Aside0.mk hG; have BR := Aside0.mk hb1; have HB1 := Aside0.mk hg1; clear hb1 hg1 hG) | (go_at_call 16; (with_reducible refine (protocol_0 _).mono ?_); rintro e w2 ⟨rfl, _, hb⟩; have BR2 := Aside0.mk (blk_below BR.out hb); have HB2 := Aside0.mk (HB1.out.trans (hb.mono HB1.out.size)); clear hb) | (go_at_call 45; (with_reducible refine (newr_b _ _ Rb).mono ?_); rintro e w3 ⟨rfl, hq, hb⟩; have BR3 := Aside0.mk (blk_below BR2.out hb); have BQ3 := Aside0.mk hq; have HB3 := Aside0.mk (HB2.out.trans (hb.mono HB2.out.size)); clear hb hq))
  obtain ⟨Rd, hRd⟩ : ∃ Rd, Rd = w2.heap.size := ⟨_, rfl⟩
  rw [← hRd] at BQ3 ⊢
  have hs0 : Sr w3 w.heap.size Rb Rd 160 0 10 A D C 0 := by
    have e1 := HRB.out
    have e2 := blk_lt BR2.out
    have e3 := HB3.out.size
    exact ⟨BR3.out, Kd.F_step HF.out (fun k hk _ => HB3.out.block k hk), ⟨_, BQ3.out, rfl, rfl, fun k hk => ⟨0, by rcases (by omega : k = 0 ∨ k = 1 ∨ k = 2 ∨ k = 3 ∨ k = 4 ∨ k = 5 ∨ k = 6 ∨ k = 7) with rfl | rfl | rfl | rfl | rfl | rfl | rfl | rfl <;> rfl⟩⟩, by decide, by omega, HCL.out.1, HCL.out.2, by omega, by have := HB2.out.size; omega, e3⟩
  have HS0 := Aside0.mk hs0
  clear hs0 BQ3 BR3 BR2 BR HRB HB1 HB2 HF HCL hRd
  go_wp2_with fail
  go_loopw [6, 24] (fun v n wr => ∃ k : Nat, k ≤ l.length ∧ n = .int .i64 (k : Int) ∧ Aside0 (wr.ownsRow w.heap.size 25 6 v k (flat6 (l.take k))) ∧ Aside0 (Sr wr w.heap.size Rb Rd 160 0 10 A D C (flatz (l.take k)).length) ∧ Aside0 (Below w.heap.size w wr)) (fun _ n _ => l.length - (intOf n).toNat)
  case atStart => exact ⟨0, Nat.zero_le _, rfl, Aside0.mk ⟨rfl, .inl ⟨rfl, rfl⟩⟩, HS0, HB3⟩
  case round =>
    obtain ⟨k, hk, rfl, HV, HS, HB⟩ := hrel
    by_cases hlt : k < l.length
    · obtain ⟨x, hx⟩ : ∃ x, l[k]? = some x := ⟨l[k], by simp [hlt]⟩
      have hrd := Kd.reads_of_C (d := (0 : Int)) (Kd.C_below HO.out (HB.out.mono (Nat.le_refl _)))
      obtain ⟨ad, hAo, hcell⟩ := hrd.2.2 (by omega)
      have hc := hcell k hlt
      rw [show (l.map (·.1.op)).getD k 0 = x.1.op by rw [List.getD_eq_getElem?_getD, List.getElem?_map, hx]; rfl] at hc
      subst hAo
      have HR := Aside0.mk (HL.out x (List.mem_of_getElem? hx))
      have HZ := Aside0.mk (HAT.out k x hx)
      have H6 := Aside0.mk (flat6_snoc l k x hx)
      have H7 := Aside0.mk (flatz_snoc l k x hx)
      obtain ⟨⟨op, n, S, a, b, d⟩, zs⟩ := x
      have hdt : decide ((k : Int) < (l.length : Int)) = true := by simp; omega
      clear hrd hcell hx
      go_wp2_with (first
        | (go_at_call 18; (with_reducible refine (HR.out.at_ _ _ _ _ _ _ _ _ _ HS.out HZ.out).mono ?_); rintro e W1 ⟨rfl, hd⟩; have HD := Aside0.mk hd; have HOW := Aside0.mk (show W1.ownsRow w.heap.size 25 6 _ k (flat6 (l.take k)) from own_move HV.out (fun g hg => hd.2.1.2 g (own_lt HV.out g hg) (fun e => own_ne HV.out HS.out.hR (by decide) (by rw [hg, e])) (fun e => by obtain ⟨ws, q1, _⟩ := HS.out.hQ; exact own_ne HV.out q1 (by decide) (by rw [hg, e])))); have HB1 := Aside0.mk (HB.out.trans hd.2.2); clear hd)
        | ((with_reducible refine gate_dst (N := 12) rfl ?_); refine box_event ?xhg (N := 12) ?xhd (cs := #[.int .i64 0, .int .i64 0, .string ⟨#[]⟩, .int .i64 0, .int .i64 0, .bool false]) (t := 25) ?xhr ?_; (case xhd => rfl); (case xhg => rfl); (case xhr => first | (go_simp; done) | (go_simp; rfl)); intro Bc hG W2 hb1 hg1; have BC := Aside0.mk hb1; have HOW2 := Aside0.mk (own_move HOW.out (fun g hg => hg1.block g (own_lt HOW.out g hg))); have NEB := Aside0.mk (show some Bc ≠ _ from fun e => Nat.lt_irrefl _ (hG ▸ own_lt HOW.out Bc e.symm)); have HSn := Aside0.mk (HD.out.1.new hG (w0 := W1) (Nat.le_refl _)); have HS2 := Aside0.mk (HD.out.1.below hg1); have HB2 := Aside0.mk (HB1.out.trans (hg1.mono HB1.out.size)); clear hb1 hg1 hG)
        | ((with_reducible refine gate_st rfl ?_); refine store_agg _ _ _ rfl rfl rfl [.int .i64 op, .int .i64 n, .string S, .int .i64 a, .int .i64 b, .bool d] BC.out rfl rfl rfl (by kernel_rfl) (by simp [Value.oneCell']) ?_; intro W3 hb1 hk1 hg1; have BC3 := Aside0.mk hb1; have HOW3 := Aside0.mk (own_move HOW2.out (fun g hg => hk1.2 g (own_lt HOW2.out g hg) (fun e => NEB.out (by rw [← e]; exact hg.symm)) (by simp))); have HS3 := Aside0.mk (HS2.out.other HSn.out hk1); have HB3' := Aside0.mk (HB2.out.trans (hg1.mono HSn.out.2.2.1)); have c0 := (blk_cell BC3.out 0).trans (show _ = some (.int .i64 op) from rfl); have c1 := (blk_cell BC3.out 1).trans (show _ = some (.int .i64 n) from rfl); have c2 := (blk_cell BC3.out 2).trans (show _ = some (.string S) from rfl); have c3 := (blk_cell BC3.out 3).trans (show _ = some (.int .i64 a) from rfl); have c4 := (blk_cell BC3.out 4).trans (show _ = some (.int .i64 b) from rfl); have c5 := (blk_cell BC3.out 5).trans (show _ = some (.bool d) from rfl); have hltc := blk_lt BC3.out; clear hb1 hk1 hg1)
        | ((with_reducible refine gate_builtin (b := .append) (xs := #[.tmp 36, .tmp 38]) rfl ?_); at_builtin; refine print_append_cells (w0 := w) w.heap.size rfl (.tmp 36) (.tmp 38) 31 25 (.agg #[.int .i64 0, .int .i64 0, .string ⟨#[]⟩, .int .i64 0, .int .i64 0, .bool false]) 6 56 rfl Tryz.underlying31 info6 rfl (by decide) (by decide) _ k _ [.int .i64 op, .int .i64 n, .string S, .int .i64 a, .int .i64 b, .bool d] rfl rfl rfl (by simp [Value.oneCell']) HOW3.out HB3'.out HB3'.out.size (by omega) ?_; intro v1 W4 ho hb hg hat; have HV4 := Aside0.mk ho; have HB4 := Aside0.mk hb; have HG4 := Aside0.mk hg; clear ho hb hg hat))
      go_roundw
      case rel =>
        refine ⟨k + 1, by omega, by go_num, Aside0.mk ?_, Aside0.mk ?_, HB4⟩
        · rw [H6.out]
          exact HV4.out
        · rw [H7.out, List.length_append]
          obtain ⟨ws, q1, _⟩ := HS3.out.hQ
          exact HS3.out.grown HG4.out (own_ne HOW3.out HS3.out.hR (by decide)) (own_ne HOW3.out q1 (by decide)) (fun g hg => own_base HOW3.out g hg)
      case measure => simp [intOf]; omega
    · have hkl : k = l.length := by omega
      have HKL := Aside0.mk hkl
      have hdt : decide ((k : Int) < (l.length : Int)) = false := by simp; omega
      have hfl : l.take k = l := by rw [hkl]; exact List.take_length
      rw [hfl] at HV HS
      rw [hkl] at HV
      have hdn : decide (k < l.length) = false := by simp; omega
      clear hkl hk
      have HIL := Aside0.mk (show (flatz l).length ≤ D.length by have := HLen.out; omega)
      clear hfl
      go_wp2_with (go_at_call 19; (with_reducible refine (rd_left _ _ _ _ _ _ _ _ _ _ _ HS.out HIL.out).mono ?_); rintro e W1 ⟨rfl, hb⟩; have HB1 := Aside0.mk (HB.out.trans (hb.mono HB.out.size)); have HV1 := Aside0.mk (own_move HV.out (fun g hg => hb.block g (own_lt HV.out g hg))); clear hb)
      go_ret2
      refine ⟨_, ?_, HV1.out, HB1.out⟩
      have e : ((D.length : Nat) : Int) - (((flatz l).length : Nat) : Int) = (rest.length : Int) := by have := HLen.out; omega
      first | (rw [e]; done) | (rw [e]; rfl)
set_option maxHeartbeats 8000000 in
set_option maxRecDepth 100000 in
theorem rlist_1 (w : World) (l : List (Cl × List Int)) (rest : List Int) (Ao : Option Addr) (Co : Nat) (A : Option Addr) (C : Nat) (hl : ∀ x, x ∈ l → Rr 157 0 10 x.1.op x.1 x.2) (hn : l.length < 1000) (hO : (Kd.int .i64).C w Ao l.length (l.map (·.1.op))) (hD : (Kd.int .u8).C w A (flatz l ++ rest).length (flatz l ++ rest)) (hC : (flatz l ++ rest).length ≤ C) (hL : (flatz l ++ rest).length < 4000000000) :
    Calls Tryz.prog 11 #[.int .i64 1, .slice Ao l.length Co, .slice A (flatz l ++ rest).length C] w fun e w' => ∃ v, e = .returned (.tuple #[v, .int .i64 (rest.length : Int)]) ∧ w'.ownsRow w.heap.size 25 6 v l.length (flat6 l) ∧ Below w.heap.size w w' := by
  have HL := Aside0.mk hl
  have HO := Aside0.mk hO
  have HF := Aside0.mk (Kd.C_F (Kd.heap_int .u8) hD)
  have HAT := Aside0.mk (at_flat l rest)
  have hlen : (flatz l ++ rest).length = (flatz l).length + rest.length := List.length_append
  have HLen := Aside0.mk hlen
  obtain ⟨D, hDD⟩ : ∃ D, D = flatz l ++ rest := ⟨_, rfl⟩
  rw [← hDD] at HF HAT hC hL HLen ⊢
  have HCL := Aside0.mk (And.intro hC hL)
  have HB0 := Aside0.mk (Below.refl w.heap.size w)
  clear hl hO hD hlen hDD hC hL
  go_enter Tryz.func11, Tryz.ntmps11
  go_upto_region 3 with (first | ((with_reducible refine gate_dst (N := 16) rfl ?_); refine box_event ?xhg (N := 16) ?xhd (cs := #[.slice A D.length C, .int .i64 0]) (t := 54) ?xhr ?_; (case xhd => rfl); (case xhg => rfl); (case xhr => first | (go_simp; done) | (go_simp; rfl)); intro Rb hG w1 hb1 hg1; have HRB := Aside0.mk hG; have BR := Aside0.mk hb1; have HB1 := Aside0.mk hg1; clear hb1 hg1 hG) | (go_at_call 16; (with_reducible refine (protocol_1 _).mono ?_); rintro e w2 ⟨rfl, _, hb⟩; have BR2 := Aside0.mk (blk_below BR.out hb); have HB2 := Aside0.mk (HB1.out.trans (hb.mono HB1.out.size)); clear hb) | (go_at_call 45; (with_reducible refine (newr_b _ _ Rb).mono ?_); rintro e w3 ⟨rfl, hq, hb⟩; have BR3 := Aside0.mk (blk_below BR2.out hb); have BQ3 := Aside0.mk hq; have HB3 := Aside0.mk (HB2.out.trans (hb.mono HB2.out.size)); clear hb hq))
  obtain ⟨Rd, hRd⟩ : ∃ Rd, Rd = w2.heap.size := ⟨_, rfl⟩
  rw [← hRd] at BQ3 ⊢
  have hs0 : Sr w3 w.heap.size Rb Rd 160 0 10 A D C 0 := by
    have e1 := HRB.out
    have e2 := blk_lt BR2.out
    have e3 := HB3.out.size
    exact ⟨BR3.out, Kd.F_step HF.out (fun k hk _ => HB3.out.block k hk), ⟨_, BQ3.out, rfl, rfl, fun k hk => ⟨0, by rcases (by omega : k = 0 ∨ k = 1 ∨ k = 2 ∨ k = 3 ∨ k = 4 ∨ k = 5 ∨ k = 6 ∨ k = 7) with rfl | rfl | rfl | rfl | rfl | rfl | rfl | rfl <;> rfl⟩⟩, by decide, by omega, HCL.out.1, HCL.out.2, by omega, by have := HB2.out.size; omega, e3⟩
  have HS0 := Aside0.mk hs0
  clear hs0 BQ3 BR3 BR2 BR HRB HB1 HB2 HF HCL hRd
  go_wp2_with fail
  go_loopw [6, 24] (fun v n wr => ∃ k : Nat, k ≤ l.length ∧ n = .int .i64 (k : Int) ∧ Aside0 (wr.ownsRow w.heap.size 25 6 v k (flat6 (l.take k))) ∧ Aside0 (Sr wr w.heap.size Rb Rd 160 0 10 A D C (flatz (l.take k)).length) ∧ Aside0 (Below w.heap.size w wr)) (fun _ n _ => l.length - (intOf n).toNat)
  case atStart => exact ⟨0, Nat.zero_le _, rfl, Aside0.mk ⟨rfl, .inl ⟨rfl, rfl⟩⟩, HS0, HB3⟩
  case round =>
    obtain ⟨k, hk, rfl, HV, HS, HB⟩ := hrel
    by_cases hlt : k < l.length
    · obtain ⟨x, hx⟩ : ∃ x, l[k]? = some x := ⟨l[k], by simp [hlt]⟩
      have hrd := Kd.reads_of_C (d := (0 : Int)) (Kd.C_below HO.out (HB.out.mono (Nat.le_refl _)))
      obtain ⟨ad, hAo, hcell⟩ := hrd.2.2 (by omega)
      have hc := hcell k hlt
      rw [show (l.map (·.1.op)).getD k 0 = x.1.op by rw [List.getD_eq_getElem?_getD, List.getElem?_map, hx]; rfl] at hc
      subst hAo
      have HR := Aside0.mk (HL.out x (List.mem_of_getElem? hx))
      have HZ := Aside0.mk (HAT.out k x hx)
      have H6 := Aside0.mk (flat6_snoc l k x hx)
      have H7 := Aside0.mk (flatz_snoc l k x hx)
      obtain ⟨⟨op, n, S, a, b, d⟩, zs⟩ := x
      have hdt : decide ((k : Int) < (l.length : Int)) = true := by simp; omega
      clear hrd hcell hx
      go_wp2_with (first
        | (go_at_call 18; (with_reducible refine (HR.out.at_ _ _ _ _ _ _ _ _ _ HS.out HZ.out).mono ?_); rintro e W1 ⟨rfl, hd⟩; have HD := Aside0.mk hd; have HOW := Aside0.mk (show W1.ownsRow w.heap.size 25 6 _ k (flat6 (l.take k)) from own_move HV.out (fun g hg => hd.2.1.2 g (own_lt HV.out g hg) (fun e => own_ne HV.out HS.out.hR (by decide) (by rw [hg, e])) (fun e => by obtain ⟨ws, q1, _⟩ := HS.out.hQ; exact own_ne HV.out q1 (by decide) (by rw [hg, e])))); have HB1 := Aside0.mk (HB.out.trans hd.2.2); clear hd)
        | ((with_reducible refine gate_dst (N := 12) rfl ?_); refine box_event ?xhg (N := 12) ?xhd (cs := #[.int .i64 0, .int .i64 0, .string ⟨#[]⟩, .int .i64 0, .int .i64 0, .bool false]) (t := 25) ?xhr ?_; (case xhd => rfl); (case xhg => rfl); (case xhr => first | (go_simp; done) | (go_simp; rfl)); intro Bc hG W2 hb1 hg1; have BC := Aside0.mk hb1; have HOW2 := Aside0.mk (own_move HOW.out (fun g hg => hg1.block g (own_lt HOW.out g hg))); have NEB := Aside0.mk (show some Bc ≠ _ from fun e => Nat.lt_irrefl _ (hG ▸ own_lt HOW.out Bc e.symm)); have HSn := Aside0.mk (HD.out.1.new hG (w0 := W1) (Nat.le_refl _)); have HS2 := Aside0.mk (HD.out.1.below hg1); have HB2 := Aside0.mk (HB1.out.trans (hg1.mono HB1.out.size)); clear hb1 hg1 hG)
        | ((with_reducible refine gate_st rfl ?_); refine store_agg _ _ _ rfl rfl rfl [.int .i64 op, .int .i64 n, .string S, .int .i64 a, .int .i64 b, .bool d] BC.out rfl rfl rfl (by kernel_rfl) (by simp [Value.oneCell']) ?_; intro W3 hb1 hk1 hg1; have BC3 := Aside0.mk hb1; have HOW3 := Aside0.mk (own_move HOW2.out (fun g hg => hk1.2 g (own_lt HOW2.out g hg) (fun e => NEB.out (by rw [← e]; exact hg.symm)) (by simp))); have HS3 := Aside0.mk (HS2.out.other HSn.out hk1); have HB3' := Aside0.mk (HB2.out.trans (hg1.mono HSn.out.2.2.1)); have c0 := (blk_cell BC3.out 0).trans (show _ = some (.int .i64 op) from rfl); have c1 := (blk_cell BC3.out 1).trans (show _ = some (.int .i64 n) from rfl); have c2 := (blk_cell BC3.out 2).trans (show _ = some (.string S) from rfl); have c3 := (blk_cell BC3.out 3).trans (show _ = some (.int .i64 a) from rfl); have c4 := (blk_cell BC3.out 4).trans (show _ = some (.int .i64 b) from rfl); have c5 := (blk_cell BC3.out 5).trans (show _ = some (.bool d) from rfl); have hltc := blk_lt BC3.out; clear hb1 hk1 hg1)
        | ((with_reducible refine gate_builtin (b := .append) (xs := #[.tmp 36, .tmp 38]) rfl ?_); at_builtin; refine print_append_cells (w0 := w) w.heap.size rfl (.tmp 36) (.tmp 38) 31 25 (.agg #[.int .i64 0, .int .i64 0, .string ⟨#[]⟩, .int .i64 0, .int .i64 0, .bool false]) 6 56 rfl Tryz.underlying31 info6 rfl (by decide) (by decide) _ k _ [.int .i64 op, .int .i64 n, .string S, .int .i64 a, .int .i64 b, .bool d] rfl rfl rfl (by simp [Value.oneCell']) HOW3.out HB3'.out HB3'.out.size (by omega) ?_; intro v1 W4 ho hb hg hat; have HV4 := Aside0.mk ho; have HB4 := Aside0.mk hb; have HG4 := Aside0.mk hg; clear ho hb hg hat))
      go_roundw
      case rel =>
        refine ⟨k + 1, by omega, by go_num, Aside0.mk ?_, Aside0.mk ?_, HB4⟩
        · rw [H6.out]
          exact HV4.out
        · rw [H7.out, List.length_append]
          obtain ⟨ws, q1, _⟩ := HS3.out.hQ
          exact HS3.out.grown HG4.out (own_ne HOW3.out HS3.out.hR (by decide)) (own_ne HOW3.out q1 (by decide)) (fun g hg => own_base HOW3.out g hg)
      case measure => simp [intOf]; omega
    · have hkl : k = l.length := by omega
      have HKL := Aside0.mk hkl
      have hdt : decide ((k : Int) < (l.length : Int)) = false := by simp; omega
      have hfl : l.take k = l := by rw [hkl]; exact List.take_length
      rw [hfl] at HV HS
      rw [hkl] at HV
      have hdn : decide (k < l.length) = false := by simp; omega
      clear hkl hk
      have HIL := Aside0.mk (show (flatz l).length ≤ D.length by have := HLen.out; omega)
      clear hfl
      go_wp2_with (go_at_call 19; (with_reducible refine (rd_left _ _ _ _ _ _ _ _ _ _ _ HS.out HIL.out).mono ?_); rintro e W1 ⟨rfl, hb⟩; have HB1 := Aside0.mk (HB.out.trans (hb.mono HB.out.size)); have HV1 := Aside0.mk (own_move HV.out (fun g hg => hb.block g (own_lt HV.out g hg))); clear hb)
      go_ret2
      refine ⟨_, ?_, HV1.out, HB1.out⟩
      have e : ((D.length : Nat) : Int) - (((flatz l).length : Nat) : Int) = (rest.length : Int) := by have := HLen.out; omega
      first | (rw [e]; done) | (rw [e]; rfl)
set_option maxHeartbeats 8000000 in
set_option maxRecDepth 100000 in
theorem rlist_2 (w : World) (l : List (Cl × List Int)) (rest : List Int) (Ao : Option Addr) (Co : Nat) (A : Option Addr) (C : Nat) (hl : ∀ x, x ∈ l → Rr 164 1 11 x.1.op x.1 x.2) (hn : l.length < 1000) (hO : (Kd.int .i64).C w Ao l.length (l.map (·.1.op))) (hD : (Kd.int .u8).C w A (flatz l ++ rest).length (flatz l ++ rest)) (hC : (flatz l ++ rest).length ≤ C) (hL : (flatz l ++ rest).length < 4000000000) :
    Calls Tryz.prog 11 #[.int .i64 2, .slice Ao l.length Co, .slice A (flatz l ++ rest).length C] w fun e w' => ∃ v, e = .returned (.tuple #[v, .int .i64 (rest.length : Int)]) ∧ w'.ownsRow w.heap.size 25 6 v l.length (flat6 l) ∧ Below w.heap.size w w' := by
  have HL := Aside0.mk hl
  have HO := Aside0.mk hO
  have HF := Aside0.mk (Kd.C_F (Kd.heap_int .u8) hD)
  have HAT := Aside0.mk (at_flat l rest)
  have hlen : (flatz l ++ rest).length = (flatz l).length + rest.length := List.length_append
  have HLen := Aside0.mk hlen
  obtain ⟨D, hDD⟩ : ∃ D, D = flatz l ++ rest := ⟨_, rfl⟩
  rw [← hDD] at HF HAT hC hL HLen ⊢
  have HCL := Aside0.mk (And.intro hC hL)
  have HB0 := Aside0.mk (Below.refl w.heap.size w)
  clear hl hO hD hlen hDD hC hL
  go_enter Tryz.func11, Tryz.ntmps11
  go_upto_region 3 with (first | ((with_reducible refine gate_dst (N := 16) rfl ?_); refine box_event ?xhg (N := 16) ?xhd (cs := #[.slice A D.length C, .int .i64 0]) (t := 54) ?xhr ?_; (case xhd => rfl); (case xhg => rfl); (case xhr => first | (go_simp; done) | (go_simp; rfl)); intro Rb hG w1 hb1 hg1; have HRB := Aside0.mk hG; have BR := Aside0.mk hb1; have HB1 := Aside0.mk hg1; clear hb1 hg1 hG) | (go_at_call 16; (with_reducible refine (protocol_2 _).mono ?_); rintro e w2 ⟨rfl, _, hb⟩; have BR2 := Aside0.mk (blk_below BR.out hb); have HB2 := Aside0.mk (HB1.out.trans (hb.mono HB1.out.size)); clear hb) | (go_at_call 48; (with_reducible refine (newr_c _ _ Rb).mono ?_); rintro e w3 ⟨rfl, hq, hb⟩; have BR3 := Aside0.mk (blk_below BR2.out hb); have BQ3 := Aside0.mk hq; have HB3 := Aside0.mk (HB2.out.trans (hb.mono HB2.out.size)); clear hb hq))
  obtain ⟨Rd, hRd⟩ : ∃ Rd, Rd = w2.heap.size := ⟨_, rfl⟩
  rw [← hRd] at BQ3 ⊢
  have hs0 : Sr w3 w.heap.size Rb Rd 166 1 11 A D C 0 := by
    have e1 := HRB.out
    have e2 := blk_lt BR2.out
    have e3 := HB3.out.size
    exact ⟨BR3.out, Kd.F_step HF.out (fun k hk _ => HB3.out.block k hk), ⟨_, BQ3.out, rfl, rfl, fun k hk => ⟨0, by rcases (by omega : k = 0 ∨ k = 1 ∨ k = 2 ∨ k = 3 ∨ k = 4 ∨ k = 5 ∨ k = 6 ∨ k = 7) with rfl | rfl | rfl | rfl | rfl | rfl | rfl | rfl <;> rfl⟩⟩, by decide, by omega, HCL.out.1, HCL.out.2, by omega, by have := HB2.out.size; omega, e3⟩
  have HS0 := Aside0.mk hs0
  clear hs0 BQ3 BR3 BR2 BR HRB HB1 HB2 HF HCL hRd
  go_wp2_with fail
  go_loopw [6, 24] (fun v n wr => ∃ k : Nat, k ≤ l.length ∧ n = .int .i64 (k : Int) ∧ Aside0 (wr.ownsRow w.heap.size 25 6 v k (flat6 (l.take k))) ∧ Aside0 (Sr wr w.heap.size Rb Rd 166 1 11 A D C (flatz (l.take k)).length) ∧ Aside0 (Below w.heap.size w wr)) (fun _ n _ => l.length - (intOf n).toNat)
  case atStart => exact ⟨0, Nat.zero_le _, rfl, Aside0.mk ⟨rfl, .inl ⟨rfl, rfl⟩⟩, HS0, HB3⟩
  case round =>
    obtain ⟨k, hk, rfl, HV, HS, HB⟩ := hrel
    by_cases hlt : k < l.length
    · obtain ⟨x, hx⟩ : ∃ x, l[k]? = some x := ⟨l[k], by simp [hlt]⟩
      have hrd := Kd.reads_of_C (d := (0 : Int)) (Kd.C_below HO.out (HB.out.mono (Nat.le_refl _)))
      obtain ⟨ad, hAo, hcell⟩ := hrd.2.2 (by omega)
      have hc := hcell k hlt
      rw [show (l.map (·.1.op)).getD k 0 = x.1.op by rw [List.getD_eq_getElem?_getD, List.getElem?_map, hx]; rfl] at hc
      subst hAo
      have HR := Aside0.mk (HL.out x (List.mem_of_getElem? hx))
      have HZ := Aside0.mk (HAT.out k x hx)
      have H6 := Aside0.mk (flat6_snoc l k x hx)
      have H7 := Aside0.mk (flatz_snoc l k x hx)
      obtain ⟨⟨op, n, S, a, b, d⟩, zs⟩ := x
      have hdt : decide ((k : Int) < (l.length : Int)) = true := by simp; omega
      clear hrd hcell hx
      go_wp2_with (first
        | (go_at_call 18; (with_reducible refine (HR.out.at_ _ _ _ _ _ _ _ _ _ HS.out HZ.out).mono ?_); rintro e W1 ⟨rfl, hd⟩; have HD := Aside0.mk hd; have HOW := Aside0.mk (show W1.ownsRow w.heap.size 25 6 _ k (flat6 (l.take k)) from own_move HV.out (fun g hg => hd.2.1.2 g (own_lt HV.out g hg) (fun e => own_ne HV.out HS.out.hR (by decide) (by rw [hg, e])) (fun e => by obtain ⟨ws, q1, _⟩ := HS.out.hQ; exact own_ne HV.out q1 (by decide) (by rw [hg, e])))); have HB1 := Aside0.mk (HB.out.trans hd.2.2); clear hd)
        | ((with_reducible refine gate_dst (N := 12) rfl ?_); refine box_event ?xhg (N := 12) ?xhd (cs := #[.int .i64 0, .int .i64 0, .string ⟨#[]⟩, .int .i64 0, .int .i64 0, .bool false]) (t := 25) ?xhr ?_; (case xhd => rfl); (case xhg => rfl); (case xhr => first | (go_simp; done) | (go_simp; rfl)); intro Bc hG W2 hb1 hg1; have BC := Aside0.mk hb1; have HOW2 := Aside0.mk (own_move HOW.out (fun g hg => hg1.block g (own_lt HOW.out g hg))); have NEB := Aside0.mk (show some Bc ≠ _ from fun e => Nat.lt_irrefl _ (hG ▸ own_lt HOW.out Bc e.symm)); have HSn := Aside0.mk (HD.out.1.new hG (w0 := W1) (Nat.le_refl _)); have HS2 := Aside0.mk (HD.out.1.below hg1); have HB2 := Aside0.mk (HB1.out.trans (hg1.mono HB1.out.size)); clear hb1 hg1 hG)
        | ((with_reducible refine gate_st rfl ?_); refine store_agg _ _ _ rfl rfl rfl [.int .i64 op, .int .i64 n, .string S, .int .i64 a, .int .i64 b, .bool d] BC.out rfl rfl rfl (by kernel_rfl) (by simp [Value.oneCell']) ?_; intro W3 hb1 hk1 hg1; have BC3 := Aside0.mk hb1; have HOW3 := Aside0.mk (own_move HOW2.out (fun g hg => hk1.2 g (own_lt HOW2.out g hg) (fun e => NEB.out (by rw [← e]; exact hg.symm)) (by simp))); have HS3 := Aside0.mk (HS2.out.other HSn.out hk1); have HB3' := Aside0.mk (HB2.out.trans (hg1.mono HSn.out.2.2.1)); have c0 := (blk_cell BC3.out 0).trans (show _ = some (.int .i64 op) from rfl); have c1 := (blk_cell BC3.out 1).trans (show _ = some (.int .i64 n) from rfl); have c2 := (blk_cell BC3.out 2).trans (show _ = some (.string S) from rfl); have c3 := (blk_cell BC3.out 3).trans (show _ = some (.int .i64 a) from rfl); have c4 := (blk_cell BC3.out 4).trans (show _ = some (.int .i64 b) from rfl); have c5 := (blk_cell BC3.out 5).trans (show _ = some (.bool d) from rfl); have hltc := blk_lt BC3.out; clear hb1 hk1 hg1)
        | ((with_reducible refine gate_builtin (b := .append) (xs := #[.tmp 36, .tmp 38]) rfl ?_); at_builtin; refine print_append_cells (w0 := w) w.heap.size rfl (.tmp 36) (.tmp 38) 31 25 (.agg #[.int .i64 0, .int .i64 0, .string ⟨#[]⟩, .int .i64 0, .int .i64 0, .bool false]) 6 56 rfl Tryz.underlying31 info6 rfl (by decide) (by decide) _ k _ [.int .i64 op, .int .i64 n, .string S, .int .i64 a, .int .i64 b, .bool d] rfl rfl rfl (by simp [Value.oneCell']) HOW3.out HB3'.out HB3'.out.size (by omega) ?_; intro v1 W4 ho hb hg hat; have HV4 := Aside0.mk ho; have HB4 := Aside0.mk hb; have HG4 := Aside0.mk hg; clear ho hb hg hat))
      go_roundw
      case rel =>
        refine ⟨k + 1, by omega, by go_num, Aside0.mk ?_, Aside0.mk ?_, HB4⟩
        · rw [H6.out]
          exact HV4.out
        · rw [H7.out, List.length_append]
          obtain ⟨ws, q1, _⟩ := HS3.out.hQ
          exact HS3.out.grown HG4.out (own_ne HOW3.out HS3.out.hR (by decide)) (own_ne HOW3.out q1 (by decide)) (fun g hg => own_base HOW3.out g hg)
      case measure => simp [intOf]; omega
    · have hkl : k = l.length := by omega
      have HKL := Aside0.mk hkl
      have hdt : decide ((k : Int) < (l.length : Int)) = false := by simp; omega
      have hfl : l.take k = l := by rw [hkl]; exact List.take_length
      rw [hfl] at HV HS
      rw [hkl] at HV
      have hdn : decide (k < l.length) = false := by simp; omega
      clear hkl hk
      have HIL := Aside0.mk (show (flatz l).length ≤ D.length by have := HLen.out; omega)
      clear hfl
      go_wp2_with (go_at_call 19; (with_reducible refine (rd_left _ _ _ _ _ _ _ _ _ _ _ HS.out HIL.out).mono ?_); rintro e W1 ⟨rfl, hb⟩; have HB1 := Aside0.mk (HB.out.trans (hb.mono HB.out.size)); have HV1 := Aside0.mk (own_move HV.out (fun g hg => hb.block g (own_lt HV.out g hg))); clear hb)
      go_ret2
      refine ⟨_, ?_, HV1.out, HB1.out⟩
      have e : ((D.length : Nat) : Int) - (((flatz l).length : Nat) : Int) = (rest.length : Int) := by have := HLen.out; omega
      first | (rw [e]; done) | (rw [e]; rfl)
end Go.Proofs.YtmjilokgpgajjaaGreat.Th

