/- Written by val.py: parseObject over the text of an object. -/
import Derived.Test.YtekmminmgjoabaaDoorJsVarr
namespace Go.Proofs.YtekmminmgjoabaaDoor.Js
open Go.RowKit Go.Proofs.YtekmminmgjoabaaDoorW.PrintWords Go.Proofs.YtekmminmgjoabaaDoorW.PrintLast Go.Proofs.YtekmminmgjoabaaDoorW.PrintMore Go.Proofs.YtekmminmgjoabaaDoor.PFnJSTokens
set_option linter.unusedVariables false
set_option linter.unusedSimpArgs false
theorem str_parse (w : World) (B : Nat) (v : Value) (key r : List Int) (p q : Bool) (K0 : Int) (hK0 : 0 ≤ K0) (hK1 : K0 < 64) (hk : Plain 4 key) (hs : Sl w B v (key ++ r)) (hby : Bytes (key ++ r)) (hl : (key ++ r).length < 4000000000) (hq : q = true → 92 ∉ key ++ r) (ht : Tab w) (hB : B ≤ w.heap.size) :
    Calls Tryd.prog 80 #[.agg #[.int .u32 (flK p q K0)], v] w (ParsePost w B key r (KSet 4 key)) := by
  cases hk with
  | @str l h =>
    have e1 : (34 :: (l ++ [34])) ++ r = 34 :: (l ++ 34 :: r) := by simp
    have hsa := strAt_init (r := r) h
    rw [e1] at hs hby hl hq
    obtain ⟨A, m, c, rfl, hm⟩ := hs.formv
    refine (pstr_calls w B A m c _ _ l (l.length + 1) p q (by omega) hby hs hB rfl hsa (flK_fl p q K0 hK0 hK1) hq ht).mono ?_
    rintro e w' ⟨v1, v2, K, rfl, hk, a1, a2, a3⟩
    have t1 : (34 :: (l ++ 34 :: r)).take (l.length + 1 + 1) = 34 :: (l ++ [34]) := by
      rw [List.take_succ_cons, show l ++ 34 :: r = (l ++ [34]) ++ r by simp, List.take_left' (by simp)]
    have t2 : (34 :: (l ++ 34 :: r)).drop (l.length + 1 + 1) = r := by
      rw [List.drop_succ_cons, show l ++ 34 :: r = (l ++ [34]) ++ r by simp, List.drop_left' (by simp)]
    rw [t1] at a1
    rw [t2] at a2
    refine ⟨v1, v2, K, rfl, ⟨?_, ?_, ?_⟩, a1, a2, a3⟩
    · rcases hk with ⟨h, -⟩ | ⟨h, -⟩ <;> omega
    · rcases hk with ⟨h, -⟩ | ⟨h, -⟩ <;> (unfold Cls; omega)
    · intro h9
      rcases hk with ⟨-, h⟩ | ⟨h8, -⟩
      · intro hm
        simp only [List.mem_cons, List.mem_append, List.not_mem_nil, or_false] at hm
        rcases hm with h | h | h
        · cases h
        · contradiction
        · cases h
      · omega
set_option maxHeartbeats 4000000 in
set_option maxRecDepth 100000 in
theorem obj_calls (items : List JN) (keys : List (List Int)) (hkl : keys.length = items.length) (hks : ∀ s ∈ keys, Plain 4 s) (hok : ∀ x ∈ items, JOk x) (ih : ∀ x ∈ items, ValC x) (w : World) (B : Nat) (ad : Addr) (m c : Nat) (r : List Int) (p q : Bool) (K0 : Int) (hK0 : 0 ≤ K0) (hK1 : K0 < 64) (hJ : Sl w B (.slice (some ad) m c) (123 :: (JN.itxt items keys true 0 ++ 125 :: r))) (hby : Bytes (123 :: (JN.itxt items keys true 0 ++ 125 :: r))) (hlen : (123 :: (JN.itxt items keys true 0 ++ 125 :: r)).length < 4000000000) (hq : q = true → 92 ∉ 123 :: (JN.itxt items keys true 0 ++ 125 :: r)) (ht : Tab w) (h3 : 3 < B) (hB : B ≤ w.heap.size) :
    Calls Tryd.prog 132 #[.agg #[.int .u32 (flK p q K0)], .slice (some ad) m c] w (ParsePost w B (123 :: (JN.itxt items keys true 0 ++ [125])) r (fun K => K = 32)) := by
  have hml := hJ.len.1
  have hm2 : 2 ≤ m := by rw [hml]; simp; omega
  have hmx : m < 4000000000 := by rw [hml]; exact hlen
  obtain ⟨A1, hcut, hd⟩ := hJ.next 22 1 .i64 Tryd.underlying22 (by omega)
  obtain ⟨ad2, had, c0, -⟩ := hJ.at_ 0 (by omega)
  obtain rfl : ad = ad2 := by injection had
  have e0 : ad.add 0 = ad := by simp [Addr.add]
  rw [e0] at c0
  obtain ⟨fl, hfl⟩ : ∃ fl, fl = flK p q K0 := ⟨_, rfl⟩
  rw [← hfl]
  have HFL := Aside0.mk hfl
  obtain ⟨w0, hw0⟩ : ∃ w0, w0 = w.alloc (.cells #[.int .u32 fl] 116) := ⟨_, rfl⟩
  have hal : Below w.heap.size w w0 := by rw [hw0]; exact below_alloc (Below.refl w.heap.size w) _
  have HBX := Aside0.mk (show w0.heap[w.heap.size]? = some (.cells #[.int .u32 fl] 116 (0, 0)) by rw [hw0]; exact blk_new w _)
  have c1 : w0.cell? ad = some (.int .u8 123) := (pw_cell_below hal c0).trans rfl
  have HAL := Aside0.mk hal
  obtain ⟨rest0, hrest0⟩ : ∃ rest0, rest0 = JN.itxt items keys true 0 ++ 125 :: r := ⟨_, rfl⟩
  rw [← hrest0] at hJ hby hlen hq hd hml
  have HR0 := Aside0.mk (show Rest (123 :: rest0) rest0 q from (⟨hby, hq, Nat.le_refl _⟩ : Rest (123 :: rest0) ([123] ++ rest0) q).back)
  have HD := Aside0.mk (show Sl w0 B (.slice A1 (m - 1) (c - 1)) rest0 from hd.below (hal.mono hB))
  have HJ := Aside0.mk hJ
  have HM := Aside0.mk (show m = rest0.length + 1 by rw [hml]; rfl)
  have HREST := Aside0.mk hrest0
  have HT := Aside0.mk ht
  have H3 := Aside0.mk (And.intro h3 hB)
  have HIH := Aside0.mk (fun x hx => And.intro (hok x hx) (ih x hx))
  have HKB := Aside0.mk (And.intro hK0 hK1)
  have HKY := Aside0.mk (And.intro hkl hks)
  have hcut1 : ∀ W : World, (Instr.slice 22 (.slice (some ad) m c) (some (.int .i64 1)) none none).run Tryd.prog W = .ok (.slice A1 (m - 1) (c - 1)) W := hcut
  clear hJ hby hlen hq hd hml ht h3 hB hok ih hkl hks hK0 hK1 had e0 c0 hal hfl hrest0 hcut
  have hn2 : ¬ ((m : Int) < 2) := by omega
  go_enter Tryd.func132, Tryd.ntmps132
  go_upto_region 3 with (fail)
  rw [← hw0]
  clear hw0
  go_upto_region 10 with (fail)
  clear hcut1 c1 hn2
  obtain ⟨mm, hmm⟩ : ∃ mm, mm = m - 1 := ⟨_, rfl⟩
  obtain ⟨cc1, hcc1⟩ : ∃ cc1, cc1 = c - 1 := ⟨_, rfl⟩
  rw [← hmm, ← hcc1] at HD ⊢
  clear hmm hcc1
  have HKEY := Aside0.mk (show JN.itxt items keys true ((0 : Nat) : Int) ++ 125 :: r = rest0 from HREST.out.symm)
  go_loopg [1, 8, 11] items.length (fun gk v1 v8 v11 w' => ∃ (j : Nat) (xs : List JN) (ks : List (List Int)) (rest : List Int), v8 = .nilIface ∧ v11 = .int .i64 (j : Int) ∧ Aside0 (xs.length = gk ∧ j + gk = items.length ∧ (∀ x ∈ xs, x ∈ items)) ∧ Aside0 (ks.length = xs.length ∧ ∀ s ∈ ks, Plain 4 s) ∧ Aside0 (rest = JN.itxt xs ks true (j : Int) ++ 125 :: r) ∧ Aside0 (Rest (123 :: rest0) rest q ∧ rest.length + j ≤ rest0.length) ∧ Aside0 (Sl w' B v1 rest) ∧ Aside0 (Below w0.heap.size w0 w'))
  case atStart => exact ⟨0, items, keys, rest0, rfl, rfl, ⟨rfl, by omega, fun x hx => hx⟩, HKY, ⟨HKEY.out.symm⟩, ⟨HR0.out, Nat.le_refl _⟩, HD, ⟨Below.refl _ _⟩⟩
  case round =>
    obtain ⟨j, xs, ks, rest, rfl, rfl, HXS, HKS, HRE, HRR, HDr, HBr⟩ := hrel
    have HS := Aside0.mk (fun (W : World) (v : Value) (zs : List Int) (hW : Below w0.heap.size w0 W) (h : Sl W B v zs) (hz : Bytes zs) => (show Calls Tryd.prog 95 #[v] W fun e w' => ∃ v', e = .returned v' ∧ Sl w' B v' (skipF zs) ∧ Below W.heap.size W w' by
      obtain ⟨A, c, rfl, -⟩ := h.form
      exact skip_calls W B A _ c zs h hz (Nat.le_trans H3.out.2 (Nat.le_trans HAL.out.size hW.size))))
    cases gk with
    | zero =>
      obtain rfl : xs = [] := List.eq_nil_of_length_eq_zero HXS.out.1
      have hre : rest = 125 :: r := HRE.out
      subst hre
      have HSK := Aside0.mk (HS.out wr _ _ HBr.out HDr.out HRR.out.1.bytes)
      obtain ⟨A2, m2, c2, rfl, hm2⟩ := HDr.out.formv
      clear hm2
      go_upto_region 11 with (go_at_call 95; (with_reducible refine HSK.out.mono ?_); rintro e w2 ⟨v2, rfl, hs, hb⟩; rw [skip_none (by rfl)] at hs; have HD2 := Aside0.mk hs; have HB2 := Aside0.mk (HBr.out.trans (hb.mono HBr.out.size)); clear hs hb)
      obtain ⟨ad3, m3, c3, rfl, hm3, k3⟩ := HD2.out.first
      have hm3p : 0 < m3 := by omega
      have hz3 : ((m3 : Int) == 0) = false := by rw [beq_eq_false_iff_ne]; omega
      obtain ⟨e1, he1⟩ : ∃ e1 : Nat, e1 = (123 :: (JN.itxt items keys true 0 ++ [125])).length := ⟨_, rfl⟩
      have hlr := congrArg List.length HREST.out
      have hme : m = e1 + r.length := by
        have := HM.out
        rw [he1]
        simp only [List.length_append, List.length_cons, List.length_nil] at hlr ⊢
        omega
      have sw : IntKind.i64.wrap (IntKind.i64.wrap ((m : Int) - (m3 : Int)) + 1) = (e1 : Int) := by rw [IntKind.wrap_i64, IntKind.wrap_i64]; omega
      have sw1 : IntKind.i64.wrap ((m : Int) - (m3 : Int)) = (e1 : Int) - 1 := by rw [IntKind.wrap_i64]; omega
      have sw2 : IntKind.i64.wrap ((e1 : Int) - 1 + 1) = (e1 : Int) := by rw [IntKind.wrap_i64]; omega
      obtain ⟨A9, hcA, hcB, hdA, hdB⟩ := HJ.out.both 22 e1 (e1 : Int) .i64 Tryd.underlying22 rfl (by omega)
      have htk : (123 :: rest0).take e1 = 123 :: (JN.itxt items keys true 0 ++ [125]) ∧ (123 :: rest0).drop e1 = r := by
        have e : 123 :: rest0 = (123 :: (JN.itxt items keys true 0 ++ [125])) ++ r := by rw [HREST.out]; simp
        rw [e]
        exact ⟨List.take_left' he1.symm, List.drop_left' he1.symm⟩
      rw [htk.1] at hdA
      rw [htk.2] at hdB
      have HDA := Aside0.mk hdA
      have HDB := Aside0.mk hdB
      have sw3 : wrap64 (e1 : Int) = (e1 : Int) := by first | omega | (unfold wrap64; omega)
      clear hlr hme hdA hdB htk he1 hm3 sw
      go_upto_region 15 with (fail)
      go_region
      all_goals
        go_wp2_with fail
        go_returns
        refine ⟨.slice (some ad) e1 c, .slice A9 (m - e1) (c - e1), 32, by rfl, rfl, ?_, ?_, ?_⟩
        · exact HDA.out.below ((below_drew (HAL.out.trans (HB2.out.mono HAL.out.size))).mono H3.out.2)
        · exact HDB.out.below ((below_drew (HAL.out.trans (HB2.out.mono HAL.out.size))).mono H3.out.2)
        · exact below_drew (HAL.out.trans (HB2.out.mono HAL.out.size))
    | succ k1 =>
      cases xs with
      | nil => exact absurd HXS.out.1 (by simp)
      | cons x xs =>
      cases ks with
      | nil => exact absurd HKS.out.1 (by simp)
      | cons key ks =>
      have hkp := HKS.out.2 key List.mem_cons_self
      obtain ⟨hxok, hxv⟩ := HIH.out x (HXS.out.2.2 x List.mem_cons_self)
      obtain ⟨rest', hrest'⟩ : ∃ rest', rest' = JN.itxt xs ks true ((j : Int) + 1) ++ 125 :: r := ⟨_, rfl⟩
      have hre : rest = (if (0 : Int) < (j : Int) then [44] else []) ++ (key ++ 58 :: (x.txt ++ rest')) := by
        rw [HRE.out, JN.itxt, hrest']; simp
      have HRE' := Aside0.mk hrest'
      obtain ⟨zs, hzs⟩ : ∃ zs, zs = x.txt ++ rest' := ⟨_, rfl⟩
      rw [← hzs] at hre
      obtain ⟨ys, hys⟩ : ∃ ys, ys = key ++ 58 :: zs := ⟨_, rfl⟩
      rw [← hys] at hre
      have HRY := Aside0.mk (show Rest (123 :: rest0) ys q by have h := HRR.out.1; rw [hre] at h; exact h.back)
      have HRC := Aside0.mk (show Rest (123 :: rest0) (58 :: zs) q by have h := HRY.out; rw [hys] at h; exact h.back)
      have HRZ := Aside0.mk (show Rest (123 :: rest0) zs q from (show Rest (123 :: rest0) ([58] ++ zs) q from HRC.out).back)
      have HKC := Aside0.mk (fun (W : World) (v : Value) (hW : Below w0.heap.size w0 W) (hs : Sl W B v ys) => (show Calls Tryd.prog 80 #[.agg #[.int .u32 fl], v] W (ParsePost W B key (58 :: zs) (KSet 4 key)) by
        rw [hys] at hs
        have hb := HRY.out
        rw [hys] at hb
        have hl := hb.long
        have hm := HM.out
        rw [HFL.out]
        exact str_parse W B v key (58 :: zs) p q K0 HKB.out.1 HKB.out.2 hkp hs hb.bytes (by simp only [List.length_cons] at hl ⊢; omega) hb.noesc (HT.out.base H3.out.1 ((HAL.out.trans (hW.mono HAL.out.size)).mono H3.out.2)) (Nat.le_trans H3.out.2 (Nat.le_trans HAL.out.size hW.size))))
      obtain ⟨kb, kr, hkb, -⟩ : ∃ kb kr, key = kb :: kr ∧ kb = 34 := by cases hkp; exact ⟨_, _, rfl, rfl⟩
      obtain rfl : kb = 34 := by cases hkp; injection hkb with h; exact h.symm
      have hy0 : ys = 34 :: (kr ++ 58 :: zs) := by rw [hys, hkb]; rfl
      have HRN0 := Aside0.mk (show Rest (123 :: rest0) rest' q by have h := HRZ.out; rw [hzs] at h; exact h.back)
      have HVC := Aside0.mk (fun (W : World) (v : Value) (hW : Below w0.heap.size w0 W) (hs : Sl W B v zs) => (show Calls Tryd.prog 94 #[.agg #[.int .u32 fl], v] W (ParsePost W B x.txt rest' (KSet x.kind x.txt)) by
        rw [hzs] at hs
        have hb := HRZ.out
        rw [hzs] at hb
        have hl := hb.long
        have hm := HM.out
        rw [HFL.out]
        refine hxv W B v rest' p q K0 HKB.out.1 HKB.out.2 hs hb.bytes (by simp only [List.length_cons] at hl; omega) hb.noesc (fun _ => ?_) (HT.out.base H3.out.1 ((HAL.out.trans (hW.mono HAL.out.size)).mono H3.out.2)) H3.out.1 (Nat.le_trans H3.out.2 (Nat.le_trans HAL.out.size hW.size))
        rw [hrest']
        obtain ⟨b, l, e, hb⟩ := itxt_behind true 125 (.inr rfl) xs ks ((j : Int) + 1) (by omega) r
        rw [e]
        exact numEnd_of hb))
      obtain ⟨b0, l0, hbl, hbeg⟩ := txt_begins hxok
      have hz0 : zs = b0 :: (l0 ++ rest') := by rw [hzs, hbl]; rfl
      have HRN := Aside0.mk (show Rest (123 :: rest0) rest' q ∧ rest'.length + (j + 1) ≤ rest0.length by
        refine ⟨HRN0.out, ?_⟩
        have h1 := HRR.out.2
        have h2 := congrArg List.length hre
        rw [hy0, hz0] at h2
        simp only [List.length_append, List.length_cons] at h2
        omega)
      have hjb : j < 4000000000 := by have h1 := HRN.out.2; have h2 := HM.out; omega
      have hsp := hbeg.sp
      clear hbl hbeg hxok hxv hrest' hzs hys hkb hkp
      rcases Nat.eq_zero_or_pos j with rfl | hj
      · have hre0 : rest = ys := by rw [hre, if_neg (by decide)]; rfl
        subst hre0
        have HSK := Aside0.mk (HS.out wr _ _ HBr.out HDr.out HRR.out.1.bytes)
        rw [hy0, skip_none (by rfl), ← hy0] at HSK
        obtain ⟨A2, m2, c2, rfl, hm2⟩ := HDr.out.formv
        clear hm2 hre
        go_upto_region 11 with (go_at_call 95; (with_reducible refine HSK.out.mono ?_); rintro e w2 ⟨v2, rfl, hs, hb⟩; have HD2 := Aside0.mk hs; have HB2 := Aside0.mk (HBr.out.trans (hb.mono HBr.out.size)); clear hs hb)
        have hd2 := HD2.out
        rw [hy0] at hd2
        obtain ⟨ad3, m3, c3, rfl, hm3, k3⟩ := hd2.first
        have hm3p : 0 < m3 := by omega
        have hz3 : ((m3 : Int) == 0) = false := by rw [beq_eq_false_iff_ne]; omega
        have HVV := Aside0.mk (HKC.out w2 _ HB2.out HD2.out)
        have k6 := blk116 HBX.out HB2.out
        clear hm3 hd2
        go_upto_region 29 with (go_at_call 80; (with_reducible refine HVV.out.mono ?_); rintro e w4 ⟨v6, v7, K, rfl, -, -, hv7, hb5⟩; have HV7 := Aside0.mk hv7; have HB4 := Aside0.mk (HB2.out.trans (hb5.mono HB2.out.size)); clear hv7 hb5)
        have HSK3 := Aside0.mk (HS.out w4 _ _ HB4.out HV7.out HRC.out.bytes)
        rw [skip_none (by rfl)] at HSK3
        obtain ⟨A7, m7, c7, rfl, hm7⟩ := HV7.out.formv
        clear hm7 k6 k3
        go_upto_region 30 with (go_at_call 95; (with_reducible refine HSK3.out.mono ?_); rintro e w5 ⟨v8, rfl, hs, hb⟩; have HD8 := Aside0.mk hs; have HB5 := Aside0.mk (HB4.out.trans (hb.mono HB4.out.size)); clear hs hb)
        obtain ⟨ad8, m8, c8, rfl, hm8, k8⟩ := HD8.out.first
        have hm8p : 0 < m8 := by omega
        have hz8 : ((m8 : Int) == 0) = false := by rw [beq_eq_false_iff_ne]; omega
        obtain ⟨A9, hcut9, hd9⟩ := HD8.out.next 22 1 .i64 Tryd.underlying22 (by omega)
        have hcut10 : ∀ W : World, (Instr.slice 22 (.slice (some ad8) m8 c8) (some (.int .i64 1)) none none).run Tryd.prog W = .ok (.slice A9 (m8 - 1) (c8 - 1)) W := hcut9
        have HD9 := Aside0.mk (show Sl w5 B (.slice A9 (m8 - 1) (c8 - 1)) zs from hd9)
        have HSK4 := Aside0.mk (HS.out w5 _ _ HB5.out HD9.out HRZ.out.bytes)
        rw [hz0, skip_none hsp, ← hz0] at HSK4
        clear hm8 hcut9 hd9
        go_upto_region 35 with (go_at_call 95; (with_reducible refine HSK4.out.mono ?_); rintro e w6 ⟨v9, rfl, hs, hb⟩; have HD10 := Aside0.mk hs; have HB6 := Aside0.mk (HB5.out.trans (hb.mono HB5.out.size)); clear hs hb)
        obtain ⟨A11, m11, c11, rfl, hm11⟩ := HD10.out.formv
        have HVW := Aside0.mk (HVC.out w6 _ HB6.out HD10.out)
        have k10 := blk116 HBX.out HB6.out
        clear hm11 k8 hcut10
        go_wp2_with (go_at_call 94; (with_reducible refine HVW.out.mono ?_); rintro e w7 ⟨v12, v13, K2, rfl, -, -, hv13, hb7⟩; have HV13 := Aside0.mk hv13; have HB7 := Aside0.mk (HB6.out.trans (hb7.mono HB6.out.size)); clear hv13 hb7)
        go_roundg k1
        case measure => omega
        case rel => exact ⟨1, xs, ks, rest', rfl, by go_num, ⟨by have := HXS.out.1; simpa using this, by have := HXS.out.2.1; omega, fun y hy => HXS.out.2.2 y (List.mem_cons_of_mem _ hy)⟩, ⟨by have := HKS.out.1; simpa using this, fun s hs => HKS.out.2 s (List.mem_cons_of_mem _ hs)⟩, HRE', HRN, HV13, HB7⟩
      · have hre0 : rest = 44 :: ys := by rw [hre, if_pos (by omega)]; rfl
        subst hre0
        have hjz : ((j : Int) != 0) = true := by rw [bne_iff_ne]; omega
        have HSK := Aside0.mk (HS.out wr _ _ HBr.out HDr.out HRR.out.1.bytes)
        rw [skip_none (by rfl)] at HSK
        obtain ⟨A2, m2, c2, rfl, hm2⟩ := HDr.out.formv
        clear hm2 hre
        go_upto_region 11 with (go_at_call 95; (with_reducible refine HSK.out.mono ?_); rintro e w2 ⟨v2, rfl, hs, hb⟩; have HD2 := Aside0.mk hs; have HB2 := Aside0.mk (HBr.out.trans (hb.mono HBr.out.size)); clear hs hb)
        obtain ⟨ad3, m3, c3, rfl, hm3, k3⟩ := HD2.out.first
        have hm3p : 0 < m3 := by omega
        have hz3 : ((m3 : Int) == 0) = false := by rw [beq_eq_false_iff_ne]; omega
        obtain ⟨A4, hcut4, hd4⟩ := HD2.out.next 22 1 .i64 Tryd.underlying22 (by omega)
        have hcut5 : ∀ W : World, (Instr.slice 22 (.slice (some ad3) m3 c3) (some (.int .i64 1)) none none).run Tryd.prog W = .ok (.slice A4 (m3 - 1) (c3 - 1)) W := hcut4
        have HD4 := Aside0.mk (show Sl w2 B (.slice A4 (m3 - 1) (c3 - 1)) ys from hd4)
        have HSK2 := Aside0.mk (HS.out w2 _ _ HB2.out HD4.out HRY.out.bytes)
        rw [hy0, skip_none (by rfl), ← hy0] at HSK2
        clear hm3 hcut4 hd4
        go_upto_region 22 with (go_at_call 95; (with_reducible refine HSK2.out.mono ?_); rintro e w3 ⟨v3, rfl, hs, hb⟩; have HD5 := Aside0.mk hs; have HB3 := Aside0.mk (HB2.out.trans (hb.mono HB2.out.size)); clear hs hb)
        have hd5 := HD5.out
        rw [hy0] at hd5
        obtain ⟨ad6, m6, c6, rfl, hm6, k7⟩ := hd5.first
        have hm6p : 0 < m6 := by omega
        have hz6 : ((m6 : Int) == 0) = false := by rw [beq_eq_false_iff_ne]; omega
        have HVV := Aside0.mk (HKC.out w3 _ HB3.out HD5.out)
        have k6 := blk116 HBX.out HB3.out
        clear hm6 hd5 k3 hcut5
        go_upto_region 29 with (go_at_call 80; (with_reducible refine HVV.out.mono ?_); rintro e w4 ⟨v6, v7, K, rfl, -, -, hv7, hb5⟩; have HV7 := Aside0.mk hv7; have HB4 := Aside0.mk (HB3.out.trans (hb5.mono HB3.out.size)); clear hv7 hb5)
        have HSK3 := Aside0.mk (HS.out w4 _ _ HB4.out HV7.out HRC.out.bytes)
        rw [skip_none (by rfl)] at HSK3
        obtain ⟨A7, m7, c7, rfl, hm7⟩ := HV7.out.formv
        clear hm7 k6 k7
        go_upto_region 30 with (go_at_call 95; (with_reducible refine HSK3.out.mono ?_); rintro e w5 ⟨v8, rfl, hs, hb⟩; have HD8 := Aside0.mk hs; have HB5 := Aside0.mk (HB4.out.trans (hb.mono HB4.out.size)); clear hs hb)
        obtain ⟨ad8, m8, c8, rfl, hm8, k8⟩ := HD8.out.first
        have hm8p : 0 < m8 := by omega
        have hz8 : ((m8 : Int) == 0) = false := by rw [beq_eq_false_iff_ne]; omega
        obtain ⟨A9, hcut9, hd9⟩ := HD8.out.next 22 1 .i64 Tryd.underlying22 (by omega)
        have hcut10 : ∀ W : World, (Instr.slice 22 (.slice (some ad8) m8 c8) (some (.int .i64 1)) none none).run Tryd.prog W = .ok (.slice A9 (m8 - 1) (c8 - 1)) W := hcut9
        have HD9 := Aside0.mk (show Sl w5 B (.slice A9 (m8 - 1) (c8 - 1)) zs from hd9)
        have HSK4 := Aside0.mk (HS.out w5 _ _ HB5.out HD9.out HRZ.out.bytes)
        rw [hz0, skip_none hsp, ← hz0] at HSK4
        clear hm8 hcut9 hd9
        go_upto_region 35 with (go_at_call 95; (with_reducible refine HSK4.out.mono ?_); rintro e w6 ⟨v9, rfl, hs, hb⟩; have HD10 := Aside0.mk hs; have HB6 := Aside0.mk (HB5.out.trans (hb.mono HB5.out.size)); clear hs hb)
        obtain ⟨A11, m11, c11, rfl, hm11⟩ := HD10.out.formv
        have HVW := Aside0.mk (HVC.out w6 _ HB6.out HD10.out)
        have k10 := blk116 HBX.out HB6.out
        clear hm11 k8 hcut10
        go_wp2_with (go_at_call 94; (with_reducible refine HVW.out.mono ?_); rintro e w7 ⟨v12, v13, K2, rfl, -, -, hv13, hb7⟩; have HV13 := Aside0.mk hv13; have HB7 := Aside0.mk (HB6.out.trans (hb7.mono HB6.out.size)); clear hv13 hb7)
        go_roundg k1
        case measure => omega
        case rel => exact ⟨j + 1, xs, ks, rest', rfl, by go_num, ⟨by have := HXS.out.1; simpa using this, by have := HXS.out.2.1; omega, fun y hy => HXS.out.2.2 y (List.mem_cons_of_mem _ hy)⟩, ⟨by have := HKS.out.1; simpa using this, fun s hs => HKS.out.2 s (List.mem_cons_of_mem _ hs)⟩, ⟨by rw [HRE'.out]; simp⟩, HRN, HV13, HB7⟩
end Go.Proofs.YtekmminmgjoabaaDoor.Js
