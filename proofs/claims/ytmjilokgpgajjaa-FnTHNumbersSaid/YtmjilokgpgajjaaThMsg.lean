/- What a binary writer's call for a message writes. -/
import Derived.Test.YtmjilokgpgajjaaThBin2
namespace Go.Proofs.Ytmjilokgpgajjaa.Th
open Go.RowKit Go.Proofs.YtmjilokgpgajjaaW.PrintWords Go.Proofs.YtmjilokgpgajjaaW.PrintLast Go.Proofs.YtmjilokgpgajjaaW.PrintMore
set_option linter.unusedVariables false
set_option linter.unusedSimpArgs false

set_option maxHeartbeats 4000000 in
set_option maxRecDepth 100000 in
theorem w_message_old (w : World) (base Sg Wg T off SZ Pg PT : Nat) (ps : Array Value) (pv : Value) (xs : List Int) (mt id : Int) (S : ByteArray) (hst : St w base Sg Wg T off SZ Pg PT ps pv xs) (h0 : -2147483648 ≤ id) (h1 : id < 2147483648) (hS : S.size < 2147483648) (hpv : pv = .pointer (some ⟨Pg, 0, none⟩)) (hps : ps[0]? = some (.bool true)) (hl : xs.length < 1000000000) :
    Calls Try.prog 91 #[.pointer (some ⟨Wg, off, none⟩), .agg #[.int .i8 mt, .string S, .int .i32 id]] w fun e w' => e = .returned .nilIface ∧ St w' base Sg Wg T off SZ Pg PT ps pv (xs ++ ((hib 4 S.size ++ bytesOf S) ++ (IntKind.u8.wrap mt :: hib 4 id))) ∧ Below base w w' ∧ Rest w w' Sg Wg := by
  have HST := Aside0.mk hst
  obtain ⟨ws, h3, h4, h5, h6, h7⟩ := hst.hW
  have CW := Aside0.mk (show w.cell? ⟨Wg, off, none⟩ = some (.pointer (some ⟨Pg, 0, none⟩)) from (blk_cell h3 off).trans (h5.trans (congrArg some hpv)))
  have CP := Aside0.mk (show w.cell? ⟨Pg, 0, none⟩ = some (.bool true) from (blk_cell hst.hP 0).trans hps)
  clear hst h3 h4 h5 h6 h7 hpv hps
  go_enter Try.func91, Try.ntmps91
  go_wp2_with (first | ((with_reducible refine gate_dst (N := 3) rfl ?_); refine box_event ?xhg (N := 3) ?xhd (cs := #[.int .i8 mt, .string S, .int .i32 id]) (t := 114) ?xhr ?_; (case xhd => rfl); (case xhg => rfl); (case xhr => first | (go_simp; done) | (go_simp; rfl)); intro Bg hG w1 hb1 hg1; have HHELD := Aside0.mk (fun w' (hr : Rest w1 w' Sg Wg) => HST.out.held hg1 hb1 (Nat.le_of_eq hG.symm) hr); have HS1 := Aside0.mk (HST.out.below hg1); have HB1 := Aside0.mk (hg1.mono HST.out.b3); have HR1 := Aside0.mk (Rest.below (Sg := Sg) (Wg := Wg) (Below.refl w1.heap.size w1)); have HR0 := Aside0.mk (Rest.below (Sg := Sg) (Wg := Wg) hg1); have c1_0 : w1.cell? ⟨Bg, 0, none⟩ = some (.int .i8 mt) := (blk_cell hb1 0).trans rfl; have c1_1 : w1.cell? ⟨Bg, 1, none⟩ = some (.string S) := (blk_cell hb1 1).trans rfl; have c1_2 : w1.cell? ⟨Bg, 2, none⟩ = some (.int .i32 id) := (blk_cell hb1 2).trans rfl; have cW1 := pw_cell_below hg1 CW.out; have cP1 := pw_cell_below hg1 CP.out; clear hb1 hg1 hG) | (go_at_call 93; (with_reducible refine (w_text _ base Sg Wg T off SZ Pg PT ps pv _ S HS1.out hS (by (try simp only [List.length_append, List.length_cons, List.length_nil, hib_len]); omega)).mono ?_); rintro e w2 ⟨rfl, hs, hb, hr⟩; have HS2 := Aside0.mk hs; have HB2 := Aside0.mk (HB1.out.trans hb); have HR2 := Aside0.mk (HR1.out.trans hr); have HK2 := Aside0.mk (HHELD.out _ HR2.out); have c2_0 : w2.cell? ⟨Bg, 0, none⟩ = some (.int .i8 mt) := (blk_cell HK2.out 0).trans rfl; have c2_1 : w2.cell? ⟨Bg, 1, none⟩ = some (.string S) := (blk_cell HK2.out 1).trans rfl; have c2_2 : w2.cell? ⟨Bg, 2, none⟩ = some (.int .i32 id) := (blk_cell HK2.out 2).trans rfl; clear hs hb hr) | (go_at_call 95; (with_reducible refine (w_byte _ base Sg Wg T off SZ Pg PT ps pv _ _ HS2.out (by have := hS; (try simp only [List.length_append, List.length_cons, List.length_nil, hib_len, bytesOf_length]); omega)).mono ?_); rintro e w3 ⟨rfl, hs, hb, hr⟩; have HS3 := Aside0.mk hs; have HB3 := Aside0.mk (HB2.out.trans hb); have HR3 := Aside0.mk (HR2.out.trans hr); have HK3 := Aside0.mk (HHELD.out _ HR3.out); have c3_0 : w3.cell? ⟨Bg, 0, none⟩ = some (.int .i8 mt) := (blk_cell HK3.out 0).trans rfl; have c3_1 : w3.cell? ⟨Bg, 1, none⟩ = some (.string S) := (blk_cell HK3.out 1).trans rfl; have c3_2 : w3.cell? ⟨Bg, 2, none⟩ = some (.int .i32 id) := (blk_cell HK3.out 2).trans rfl; clear hs hb hr) | (go_at_call 85; (with_reducible refine (w_int32 _ base Sg Wg T off SZ Pg PT ps pv _ id HS3.out h0 h1 (by have := hS; (try simp only [List.length_append, List.length_cons, List.length_nil, hib_len, bytesOf_length]); omega)).mono ?_); rintro e w4 ⟨rfl, hs, hb, hr⟩; have HS4 := Aside0.mk hs; have HB4 := Aside0.mk (HB3.out.trans hb); have HR4 := Aside0.mk (HR3.out.trans hr); have HK4 := Aside0.mk (HHELD.out _ HR4.out); have c4_0 : w4.cell? ⟨Bg, 0, none⟩ = some (.int .i8 mt) := (blk_cell HK4.out 0).trans rfl; have c4_1 : w4.cell? ⟨Bg, 1, none⟩ = some (.string S) := (blk_cell HK4.out 1).trans rfl; have c4_2 : w4.cell? ⟨Bg, 2, none⟩ = some (.int .i32 id) := (blk_cell HK4.out 2).trans rfl; clear hs hb hr))
  go_ret
  exact ⟨rfl, by have h := HS4.out; (try simp only [List.append_assoc, List.cons_append, List.nil_append] at h); exact h, HB4.out, HR0.out.trans HR4.out⟩

set_option maxHeartbeats 4000000 in
set_option maxRecDepth 100000 in
theorem w_message_new (w : World) (base Sg Wg T off SZ Pg PT : Nat) (ps : Array Value) (pv : Value) (xs : List Int) (mt id : Int) (S : ByteArray) (hst : St w base Sg Wg T off SZ Pg PT ps pv xs) (h0 : -2147483648 ≤ id) (h1 : id < 2147483648) (hS : S.size < 2147483648) (hpv : pv = .pointer (some ⟨Pg, 0, none⟩)) (hps : ps[0]? = some (.bool false)) (hl : xs.length < 1000000000) :
    Calls Try.prog 91 #[.pointer (some ⟨Wg, off, none⟩), .agg #[.int .i8 mt, .string S, .int .i32 id]] w fun e w' => e = .returned .nilIface ∧ St w' base Sg Wg T off SZ Pg PT ps pv (xs ++ ([128, 0, 0, Go.bits .and .u8 (IntKind.u8.wrap mt) 7] ++ (hib 4 S.size ++ (bytesOf S ++ hib 4 id)))) ∧ Below base w w' ∧ Rest w w' Sg Wg := by
  have HST := Aside0.mk hst
  obtain ⟨ws, h3, h4, h5, h6, h7⟩ := hst.hW
  have CW := Aside0.mk (show w.cell? ⟨Wg, off, none⟩ = some (.pointer (some ⟨Pg, 0, none⟩)) from (blk_cell h3 off).trans (h5.trans (congrArg some hpv)))
  have CP := Aside0.mk (show w.cell? ⟨Pg, 0, none⟩ = some (.bool false) from (blk_cell hst.hP 0).trans hps)
  have BKW := Aside0.mk h3
  have HI := Aside0.mk h7
  have HSZ := Aside0.mk (show off + 10 ≤ ws.size by have := hst.hZ; omega)
  clear hst h3 h4 h5 h6 h7 hpv hps
  go_enter Try.func91, Try.ntmps91
  go_upto_region 11 with (first | ((with_reducible refine gate_dst (N := 3) rfl ?_); refine box_event ?xhg (N := 3) ?xhd (cs := #[.int .i8 mt, .string S, .int .i32 id]) (t := 114) ?xhr ?_; (case xhd => rfl); (case xhg => rfl); (case xhr => first | (go_simp; done) | (go_simp; rfl)); intro Bg hG w1 hb1 hg1; have HHELD := Aside0.mk (fun w' (hr : Rest w1 w' Sg Wg) => HST.out.held hg1 hb1 (Nat.le_of_eq hG.symm) hr); have HS1 := Aside0.mk (HST.out.below hg1); have HB1 := Aside0.mk (hg1.mono HST.out.b3); have HR1 := Aside0.mk (Rest.below (Sg := Sg) (Wg := Wg) (Below.refl w1.heap.size w1)); have HR0 := Aside0.mk (Rest.below (Sg := Sg) (Wg := Wg) hg1); have c1_0 : w1.cell? ⟨Bg, 0, none⟩ = some (.int .i8 mt) := (blk_cell hb1 0).trans rfl; have c1_1 : w1.cell? ⟨Bg, 1, none⟩ = some (.string S) := (blk_cell hb1 1).trans rfl; have c1_2 : w1.cell? ⟨Bg, 2, none⟩ = some (.int .i32 id) := (blk_cell hb1 2).trans rfl; have cW1 := pw_cell_below hg1 CW.out; have cP1 := pw_cell_below hg1 CP.out; have BK := Aside0.mk (blk_below BKW.out hg1); have HKB := Aside0.mk (KeepBut.refl w1 Wg none); have HW1 := Aside0.mk (blk_below BKW.out hg1); have HGB := Aside0.mk (Below.refl Wg w1); clear hb1 hg1 hG) | ((with_reducible refine gate_st rfl ?_); refine store_any _ _ _ rfl rfl rfl BK.out rfl (by (try simp only [Array.size_setIfInBounds]); have := HSZ.out; omega) rfl rfl rfl (by kernel_rfl) ?_; intro W2 hb2 hk2 hg2; have n1 := Aside0.mk hb2; have n2 := Aside0.mk (HKB.out.trans hk2 (.inl rfl)); have n3 := Aside0.mk (HGB.out.trans hg2); clear BK HKB HGB hb2 hk2 hg2; have BK := n1; have HKB := n2; have HGB := n3; clear n1 n2 n3))
  have HRA := Aside0.mk (HR1.out.trans (Rest.bytes HST.out.n1 HKB.out))
  have HBA := Aside0.mk (HB1.out.trans (HGB.out.mono HST.out.b2))
  have HSA := Aside0.mk (HS1.out.bytes HW1.out 0 [128, 0, 0] BK.out (by decide) HKB.out)
  have HKA := Aside0.mk (HHELD.out _ HRA.out)
  obtain ⟨wz, hwz⟩ : ∃ wz, wz = setBytes ws (off + 1) [128, 0, 0] := ⟨_, rfl⟩
  have BKZ := Aside0.mk (show W2.heap[Wg]? = some (.cells wz T (0, 0)) by rw [hwz]; exact BK.out)
  have hz3 : wz[off + 1 + 3]? = ws[off + 1 + 3]? := by rw [hwz, setBytes_other _ _ _ _ (by right; simp)]
  obtain ⟨b3, hb3⟩ := HI.out 3 (by decide)
  have k0 : W2.cell? ⟨Bg, 0, none⟩ = some (.int .i8 mt) := (blk_cell HKA.out 0).trans rfl
  have k1 : W2.cell? ⟨Bg, 1, none⟩ = some (.string S) := (blk_cell HKA.out 1).trans rfl
  have k2 : W2.cell? ⟨Bg, 2, none⟩ = some (.int .i32 id) := (blk_cell HKA.out 2).trans rfl
  have k3 : W2.cell? ⟨Wg, off + 1 + 3, none⟩ = some (.int .u8 b3) := (blk_cell BKZ.out _).trans (hz3.trans hb3)
  have f3 := blk_frozen BKZ.out (off + 1 + 3)
  have HWZ := Aside0.mk hwz
  clear BK HKB HGB hwz hz3 hb3
  go_region_with fail
  obtain ⟨u, hu⟩ : ∃ u, u = Go.bits .and .u8 (IntKind.u8.wrap mt) 7 := ⟨_, rfl⟩
  obtain ⟨W3, hW3⟩ : ∃ W3, W3 = (W2.setCell ⟨Wg, off + 1 + 3, none⟩ (.int .u8 u)).drew := ⟨_, rfl⟩
  have BK3 := Aside0.mk (show W3.heap[Wg]? = some (.cells (setBytes wz (off + 1 + 3) [u]) T (0, 0)) by rw [hW3]; exact blk_set BKZ.out _ _)
  have HK3 := Aside0.mk (show KeepBut W2 W3 Wg none by rw [hW3]; exact (KeepBut.refl W2 Wg none).set_ _ _)
  have HB3 := Aside0.mk (HBA.out.trans (show Below base W2 W3 by rw [hW3]; exact below_drew ((Below.refl base W2).setCell HST.out.b2 _)))
  rw [← hu, ← hW3]
  have HS3 := Aside0.mk (HSA.out.bytes BKZ.out 3 [u] BK3.out (by simp) HK3.out)
  have HR3 := Aside0.mk (HRA.out.trans (Rest.bytes HST.out.n1 HK3.out))
  have HKB3 := Aside0.mk (HHELD.out _ HR3.out)
  obtain ⟨wy, hwy⟩ : ∃ wy, wy = setBytes wz (off + 1 + 3) [u] := ⟨_, rfl⟩
  rw [← hwy] at BK3
  have hy7 : wy[off + 1 + 7]? = ws[off + 1 + 7]? := by rw [hwy, setBytes_other _ _ _ _ (by right; simp), HWZ.out, setBytes_other _ _ _ _ (by right; simp)]
  obtain ⟨b7, hb7⟩ := HI.out 7 (by decide)
  have j1 : W3.cell? ⟨Bg, 1, none⟩ = some (.string S) := (blk_cell HKB3.out 1).trans rfl
  have hwysz : wy.size = ws.size := by rw [hwy, setBytes_size, HWZ.out, setBytes_size]
  obtain ⟨v, hv⟩ : ∃ v, v = IntKind.u32.wrap (S.size : Int) := ⟨_, rfl⟩
  have hvs : v = (S.size : Int) := by rw [hv, IntKind.wrap_u32]; omega
  have hbs : [v / 16777216 % 256, v / 65536 % 256, v / 256 % 256, v % 256] = hib 4 (S.size : Int) := by
    simp only [hib]
    rw [hvs]
    simp only [List.cons.injEq, and_true]
    refine ⟨by omega, by omega, by omega, by omega⟩
  have HPUT := Aside0.mk (fun (c : Nat) => bput32 v (by omega) (by omega) Wg T (off + 1 + 4) c wy W3.drew (blk_drew BK3.out) (by rw [hwysz]; have := HSZ.out; omega) b7 ((blk_cell BK3.out _).trans (hy7.trans hb7)))
  rw [hbs, hv] at HPUT
  have HU := Aside0.mk hu
  have HWY := Aside0.mk hwy
  have HYS := Aside0.mk hwysz
  clear k0 k1 k2 k3 f3 hu hW3 hwy hy7 hb7 hwysz hvs hbs hv
  go_upto_region 12 with fail
  go_region_with (go_at_call 99; (with_reducible refine (HPUT.out _).mono ?_); rintro e w4 ⟨rfl, hw4, hk4, hb4⟩; have BK4 := Aside0.mk hw4; have HK4 := Aside0.mk (show KeepBut W3 w4 Wg none from hk4); have HG4 := Aside0.mk (show Below base W3 w4 from (below_drew (Below.refl base W3)).trans (hb4.mono HST.out.b2)); clear hw4 hk4 hb4)
  all_goals
    have HS4 := Aside0.mk (HS3.out.bytes BK3.out 4 (hib 4 (S.size : Int)) BK4.out (by rw [hib_len]; decide) HK4.out)
    have HB4 := Aside0.mk (HB3.out.trans HG4.out)
    have HR4 := Aside0.mk (HR3.out.trans (Rest.bytes HST.out.n1 HK4.out))
    have HKB4 := Aside0.mk (HHELD.out _ HR4.out)
    have HC4 := Aside0.mk (show (Kd.int .u8).C w4 (some ⟨Wg, off + 1, none⟩) 8 ([128, 0, 0, u] ++ hib 4 (S.size : Int)) by
      refine cells_C (ws := setBytes wy (off + 1 + 4) (hib 4 (S.size : Int))) BK4.out (by simp [hib_len]) (by decide) (fun i hi => ?_)
      rcases Nat.lt_or_ge i 4 with h4 | h4
      · rw [setBytes_other _ _ _ _ (by left; omega), HWY.out]
        rcases Nat.lt_or_ge i 3 with h3 | h3
        · rw [setBytes_other _ _ _ _ (by left; omega), HWZ.out, setBytes_at [128, 0, 0] ws (off + 1) i (by have := HSZ.out; simp; omega) (by simpa using h3)]
          have : i = 0 ∨ i = 1 ∨ i = 2 := by omega
          rcases this with rfl | rfl | rfl <;> rfl
        · obtain rfl : i = 3 := by omega
          have := setBytes_at [u] wz (off + 1 + 3) 0 (by rw [HWZ.out, setBytes_size]; have := HSZ.out; simp; omega) (by simp)
          exact this
      · have := setBytes_at (hib 4 (S.size : Int)) wy (off + 1 + 4) (i - 4) (by rw [HYS.out, hib_len]; have := HSZ.out; omega) (by rw [hib_len]; omega)
        rw [show off + 1 + 4 + (i - 4) = off + 1 + i by omega] at this
        rw [this]
        congr 2
        have : i = 4 ∨ i = 5 ∨ i = 6 ∨ i = 7 := by omega
        rcases this with rfl | rfl | rfl | rfl <;> rfl)
    have c4_1 : w4.cell? ⟨Bg, 1, none⟩ = some (.string S) := (blk_cell HKB4.out 1).trans rfl
    have HWR := Aside0.mk (w_write w4 base Sg Wg T off SZ Pg PT ps pv xs ([128, 0, 0, u] ++ hib 4 (S.size : Int)) (some ⟨Wg, off + 1, none⟩) 8 HS4.out HC4.out (by simp [hib_len]; omega))
    rw [show ([128, 0, 0, u] ++ hib 4 (S.size : Int)).length = 8 by simp [hib_len]] at HWR
    go_wp2_with (first | (go_at_call 96; (with_reducible refine (HWR.out).mono ?_); rintro e w5 ⟨rfl, hs, hb, hr⟩; have HS5 := Aside0.mk hs; have HB5 := Aside0.mk (HB4.out.trans hb); have HR5 := Aside0.mk (HR4.out.trans hr); have HK5 := Aside0.mk (HHELD.out _ HR5.out); have c5_0 : w5.cell? ⟨Bg, 0, none⟩ = some (.int .i8 mt) := (blk_cell HK5.out 0).trans rfl; have c5_1 : w5.cell? ⟨Bg, 1, none⟩ = some (.string S) := (blk_cell HK5.out 1).trans rfl; have c5_2 : w5.cell? ⟨Bg, 2, none⟩ = some (.int .i32 id) := (blk_cell HK5.out 2).trans rfl; clear hs hb hr) | (go_at_call 100; (with_reducible refine (w_string _ base Sg Wg T off SZ Pg PT ps pv _ S HS5.out (by have := hS; (try simp only [List.length_append, List.length_cons, List.length_nil, hib_len, bytesOf_length]); omega)).mono ?_); rintro e w6 ⟨rfl, hs, hb, hr⟩; have HS6 := Aside0.mk hs; have HB6 := Aside0.mk (HB5.out.trans hb); have HR6 := Aside0.mk (HR5.out.trans hr); have HK6 := Aside0.mk (HHELD.out _ HR6.out); have c6_0 : w6.cell? ⟨Bg, 0, none⟩ = some (.int .i8 mt) := (blk_cell HK6.out 0).trans rfl; have c6_1 : w6.cell? ⟨Bg, 1, none⟩ = some (.string S) := (blk_cell HK6.out 1).trans rfl; have c6_2 : w6.cell? ⟨Bg, 2, none⟩ = some (.int .i32 id) := (blk_cell HK6.out 2).trans rfl; clear hs hb hr) | (go_at_call 85; (with_reducible refine (w_int32 _ base Sg Wg T off SZ Pg PT ps pv _ id HS6.out h0 h1 (by have := hS; (try simp only [List.length_append, List.length_cons, List.length_nil, hib_len, bytesOf_length]); omega)).mono ?_); rintro e w7 ⟨rfl, hs, hb, hr⟩; have HS7 := Aside0.mk hs; have HB7 := Aside0.mk (HB6.out.trans hb); have HR7 := Aside0.mk (HR6.out.trans hr); have HK7 := Aside0.mk (HHELD.out _ HR7.out); have c7_0 : w7.cell? ⟨Bg, 0, none⟩ = some (.int .i8 mt) := (blk_cell HK7.out 0).trans rfl; have c7_1 : w7.cell? ⟨Bg, 1, none⟩ = some (.string S) := (blk_cell HK7.out 1).trans rfl; have c7_2 : w7.cell? ⟨Bg, 2, none⟩ = some (.int .i32 id) := (blk_cell HK7.out 2).trans rfl; clear hs hb hr))
    go_ret
    exact ⟨rfl, by have h := HS7.out; (try simp only [List.append_assoc, List.cons_append, List.nil_append] at h ⊢); rw [HU.out] at h; exact h, HB7.out, HR0.out.trans HR7.out⟩
end Go.Proofs.Ytmjilokgpgajjaa.Th
