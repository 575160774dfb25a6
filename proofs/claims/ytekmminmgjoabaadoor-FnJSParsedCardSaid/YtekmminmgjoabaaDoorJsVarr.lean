/- Written by val.py: parseArray over the text of an array. -/
import Derived.Test.YtekmminmgjoabaaDoorJsVal
import Derived.Deep.RegionLaw
namespace Go.Proofs.YtekmminmgjoabaaDoor.Js
open Go.RowKit Go.Proofs.YtekmminmgjoabaaDoorW.PrintWords Go.Proofs.YtekmminmgjoabaaDoorW.PrintLast Go.Proofs.YtekmminmgjoabaaDoorW.PrintMore Go.Proofs.YtekmminmgjoabaaDoor.PFnJSTokens
set_option linter.unusedVariables false
set_option linter.unusedSimpArgs false
/-- What parseValue answers over a value's text. -/
def ValC (n : JN) : Prop := ∀ (w : World) (B : Nat) (v : Value) (r : List Int) (p q : Bool) (K0 : Int), 0 ≤ K0 → K0 < 64 → Sl w B v (n.txt ++ r) → Bytes (n.txt ++ r) → (n.txt ++ r).length < 4000000000 → (q = true → 92 ∉ n.txt ++ r) → (n.kind = 3 → NumEnd r) → Tab w → 3 < B → B ≤ w.heap.size →
  Calls Tryd.prog 94 #[.agg #[.int .u32 (flK p q K0)], v] w (ParsePost w B n.txt r (KSet n.kind n.txt))
theorem Sl.first {w : World} {B : Nat} {v : Value} {b : Int} {l : List Int} (h : Sl w B v (b :: l)) : ∃ ad m c, v = .slice (some ad) m c ∧ m = l.length + 1 ∧ w.cell? ad = some (.int .u8 b) := by
  obtain ⟨A, c, rfl, -⟩ := h.form
  obtain ⟨ad, rfl, h1, -⟩ := h.at_ 0 (by simp)
  have e0 : ad.add 0 = ad := by simp [Addr.add]
  rw [e0] at h1
  exact ⟨ad, _, c, rfl, by simp, h1⟩
theorem Sl.formv {w : World} {B : Nat} {v : Value} {zs : List Int} (h : Sl w B v zs) : ∃ A m c, v = .slice A m c ∧ m = zs.length := by
  obtain ⟨A, c, rfl, -⟩ := h.form
  exact ⟨A, _, c, rfl, rfl⟩
theorem blk116 {w0 W : World} {g : Nat} {fl : Int} (h : w0.heap[g]? = some (.cells #[.int .u32 fl] 116 (0, 0))) (hb : Below w0.heap.size w0 W) : W.cell? ⟨g, 0, none⟩ = some (.int .u32 fl) := (blk_cell (blk_below h hb) 0).trans rfl
/-- What holds of the rest of a text. -/
structure Rest (all rest : List Int) (q : Bool) : Prop where
  bytes : Bytes rest
  noesc : q = true → 92 ∉ rest
  long : rest.length ≤ all.length
theorem Rest.back {all a b : List Int} {q : Bool} (h : Rest all (a ++ b) q) : Rest all b q := ⟨h.bytes.sub (fun c hc => List.mem_append_right _ hc), fun hq hc => h.noesc hq (List.mem_append_right _ hc), by have := h.long; rw [List.length_append] at this; omega⟩
set_option maxHeartbeats 4000000 in
set_option maxRecDepth 100000 in
theorem arr_calls (items : List JN) (keys : List (List Int)) (hok : ∀ x ∈ items, JOk x) (ih : ∀ x ∈ items, ValC x) (w : World) (B : Nat) (ad : Addr) (m c : Nat) (r : List Int) (p q : Bool) (K0 : Int) (hK0 : 0 ≤ K0) (hK1 : K0 < 64) (hJ : Sl w B (.slice (some ad) m c) (91 :: (JN.itxt items keys false 0 ++ 93 :: r))) (hby : Bytes (91 :: (JN.itxt items keys false 0 ++ 93 :: r))) (hlen : (91 :: (JN.itxt items keys false 0 ++ 93 :: r)).length < 4000000000) (hq : q = true → 92 ∉ 91 :: (JN.itxt items keys false 0 ++ 93 :: r)) (ht : Tab w) (h3 : 3 < B) (hB : B ≤ w.heap.size) :
    Calls Tryd.prog 133 #[.agg #[.int .u32 (flK p q K0)], .slice (some ad) m c] w (ParsePost w B (91 :: (JN.itxt items keys false 0 ++ [93])) r (fun K => K = 16)) := by
  have hml := hJ.len.1
  have hm2 : 2 ≤ m := by rw [hml]; simp; omega
  have hmx : m < 4000000000 := by rw [hml]; exact hlen
  obtain ⟨A1, hcut, hd⟩ := hJ.next 22 1 .i64 Tryd.underlying22 (by omega)
  obtain ⟨ad2, had, c0, -⟩ := hJ.at_ 0 (by omega)
  obtain rfl : ad = ad2 := by injection had
  have e0 : ad.add 0 = ad := by simp [Addr.add]
  rw [e0] at c0
  obtain ⟨fl, hfl⟩ : ∃ fl, fl = flK p q K0 := ⟨_, rfl⟩
  rw [← hfl]
  have HFL := Aside0.mk hfl
  obtain ⟨w0, hw0⟩ : ∃ w0, w0 = w.alloc (.cells #[.int .u32 fl] 116) := ⟨_, rfl⟩
  have hal : Below w.heap.size w w0 := by rw [hw0]; exact below_alloc (Below.refl w.heap.size w) _
  have HBX := Aside0.mk (show w0.heap[w.heap.size]? = some (.cells #[.int .u32 fl] 116 (0, 0)) by rw [hw0]; exact blk_new w _)
  have c1 : w0.cell? ad = some (.int .u8 91) := (pw_cell_below hal c0).trans rfl
  have HAL := Aside0.mk hal
  obtain ⟨rest0, hrest0⟩ : ∃ rest0, rest0 = JN.itxt items keys false 0 ++ 93 :: r := ⟨_, rfl⟩
  rw [← hrest0] at hJ hby hlen hq hd hml
  have HR0 := Aside0.mk (show Rest (91 :: rest0) rest0 q from (⟨hby, hq, Nat.le_refl _⟩ : Rest (91 :: rest0) ([91] ++ rest0) q).back)
  have HD := Aside0.mk (show Sl w0 B (.slice A1 (m - 1) (c - 1)) rest0 from hd.below (hal.mono hB))
  have HJ := Aside0.mk hJ
  have HM := Aside0.mk (show m = rest0.length + 1 by rw [hml]; rfl)
  have HREST := Aside0.mk hrest0
  have HT := Aside0.mk ht
  have H3 := Aside0.mk (And.intro h3 hB)
  have HIH := Aside0.mk (fun x hx => And.intro (hok x hx) (ih x hx))
  have HKB := Aside0.mk (And.intro hK0 hK1)
  have hcut1 : ∀ W : World, (Instr.slice 22 (.slice (some ad) m c) (some (.int .i64 1)) none none).run Tryd.prog W = .ok (.slice A1 (m - 1) (c - 1)) W := hcut
  clear hJ hby hlen hq hd hml ht h3 hB hok ih hK0 hK1 had e0 c0 hal hfl hrest0 hcut
  have hn2 : ¬ ((m : Int) < 2) := by omega
  go_enter Tryd.func133, Tryd.ntmps133
  go_upto_region 3 with (fail)
  rw [← hw0]
  clear hw0
  go_upto_region 10 with (fail)
  clear hcut1 c1 hn2
  obtain ⟨mm, hmm⟩ : ∃ mm, mm = m - 1 := ⟨_, rfl⟩
  obtain ⟨cc1, hcc1⟩ : ∃ cc1, cc1 = c - 1 := ⟨_, rfl⟩
  rw [← hmm, ← hcc1] at HD ⊢
  clear hmm hcc1
  have HKEY := Aside0.mk (show JN.itxt items keys false ((0 : Nat) : Int) ++ 93 :: r = rest0 from HREST.out.symm)
  go_loopg [1, 8, 11] items.length (fun gk v1 v8 v11 w' => ∃ (j : Nat) (xs : List JN) (ks : List (List Int)) (rest : List Int), v8 = .nilIface ∧ v11 = .int .i64 (j : Int) ∧ Aside0 (xs.length = gk ∧ j + gk = items.length ∧ (∀ x ∈ xs, x ∈ items)) ∧ Aside0 (rest = JN.itxt xs ks false (j : Int) ++ 93 :: r) ∧ Aside0 (Rest (91 :: rest0) rest q ∧ rest.length + j ≤ rest0.length) ∧ Aside0 (Sl w' B v1 rest) ∧ Aside0 (Below w0.heap.size w0 w'))
  case atStart => exact ⟨0, items, keys, rest0, rfl, rfl, ⟨rfl, by omega, fun x hx => hx⟩, ⟨HKEY.out.symm⟩, ⟨HR0.out, Nat.le_refl _⟩, HD, ⟨Below.refl _ _⟩⟩
  case round =>
    obtain ⟨j, xs, ks, rest, rfl, rfl, HXS, HRE, HRR, HDr, HBr⟩ := hrel
    have HS := Aside0.mk (fun (W : World) (v : Value) (zs : List Int) (hW : Below w0.heap.size w0 W) (h : Sl W B v zs) (hz : Bytes zs) => (show Calls Tryd.prog 95 #[v] W fun e w' => ∃ v', e = .returned v' ∧ Sl w' B v' (skipF zs) ∧ Below W.heap.size W w' by
      obtain ⟨A, c, rfl, -⟩ := h.form
      exact skip_calls W B A _ c zs h hz (Nat.le_trans H3.out.2 (Nat.le_trans HAL.out.size hW.size))))
    cases gk with
    | zero =>
      obtain rfl : xs = [] := List.eq_nil_of_length_eq_zero HXS.out.1
      have hre : rest = 93 :: r := HRE.out
      subst hre
      have HSK := Aside0.mk (HS.out wr _ _ HBr.out HDr.out HRR.out.1.bytes)
      obtain ⟨A2, m2, c2, rfl, hm2⟩ := HDr.out.formv
      clear hm2
      go_upto_region 11 with (go_at_call 95; (with_reducible refine HSK.out.mono ?_); rintro e w2 ⟨v2, rfl, hs, hb⟩; rw [skip_none (by rfl)] at hs; have HD2 := Aside0.mk hs; have HB2 := Aside0.mk (HBr.out.trans (hb.mono HBr.out.size)); clear hs hb)
      obtain ⟨ad3, m3, c3, rfl, hm3, k3⟩ := HD2.out.first
      have hm3p : 0 < m3 := by omega
      have hz3 : ((m3 : Int) == 0) = false := by rw [beq_eq_false_iff_ne]; omega
      obtain ⟨e1, he1⟩ : ∃ e1 : Nat, e1 = (91 :: (JN.itxt items keys false 0 ++ [93])).length := ⟨_, rfl⟩
      have hlr := congrArg List.length HREST.out
      have hme : m = e1 + r.length := by
        have := HM.out
        rw [he1]
        simp only [List.length_append, List.length_cons, List.length_nil] at hlr ⊢
        omega
      have sw : IntKind.i64.wrap (IntKind.i64.wrap ((m : Int) - (m3 : Int)) + 1) = (e1 : Int) := by rw [IntKind.wrap_i64, IntKind.wrap_i64]; omega
      have sw1 : IntKind.i64.wrap ((m : Int) - (m3 : Int)) = (e1 : Int) - 1 := by rw [IntKind.wrap_i64]; omega
      have sw2 : IntKind.i64.wrap ((e1 : Int) - 1 + 1) = (e1 : Int) := by rw [IntKind.wrap_i64]; omega
      obtain ⟨A9, hcA, hcB, hdA, hdB⟩ := HJ.out.both 22 e1 (e1 : Int) .i64 Tryd.underlying22 rfl (by omega)
      have htk : (91 :: rest0).take e1 = 91 :: (JN.itxt items keys false 0 ++ [93]) ∧ (91 :: rest0).drop e1 = r := by
        have e : 91 :: rest0 = (91 :: (JN.itxt items keys false 0 ++ [93])) ++ r := by rw [HREST.out]; simp
        rw [e]
        exact ⟨List.take_left' he1.symm, List.drop_left' he1.symm⟩
      rw [htk.1] at hdA
      rw [htk.2] at hdB
      have HDA := Aside0.mk hdA
      have HDB := Aside0.mk hdB
      have sw3 : wrap64 (e1 : Int) = (e1 : Int) := by first | omega | (unfold wrap64; omega)
      clear hlr hme hdA hdB htk he1 hm3 sw
      go_upto_region 15 with (fail)
      go_region
      all_goals
        go_wp2_with fail
        go_returns
        refine ⟨.slice (some ad) e1 c, .slice A9 (m - e1) (c - e1), 16, by rfl, rfl, ?_, ?_, ?_⟩
        · exact HDA.out.below ((below_drew (HAL.out.trans (HB2.out.mono HAL.out.size))).mono H3.out.2)
        · exact HDB.out.below ((below_drew (HAL.out.trans (HB2.out.mono HAL.out.size))).mono H3.out.2)
        · exact below_drew (HAL.out.trans (HB2.out.mono HAL.out.size))
    | succ k1 =>
      cases xs with
      | nil => exact absurd HXS.out.1 (by simp)
      | cons x xs =>
      obtain ⟨hxok, hxv⟩ := HIH.out x (HXS.out.2.2 x List.mem_cons_self)
      obtain ⟨rest', hrest'⟩ : ∃ rest', rest' = JN.itxt xs ks.tail false ((j : Int) + 1) ++ 93 :: r := ⟨_, rfl⟩
      have hre : rest = (if (0 : Int) < (j : Int) then [44] else []) ++ (x.txt ++ rest') := by
        rw [HRE.out, JN.itxt, hrest']; simp
      have HRE' := Aside0.mk hrest'
      obtain ⟨zs, hzs⟩ : ∃ zs, zs = x.txt ++ rest' := ⟨_, rfl⟩
      rw [← hzs] at hre
      have HRZ := Aside0.mk (show Rest (91 :: rest0) zs q by have h := HRR.out.1; rw [hre] at h; exact h.back)
      have HRN0 := Aside0.mk (show Rest (91 :: rest0) rest' q by have h := HRZ.out; rw [hzs] at h; exact h.back)
      have HVC := Aside0.mk (fun (W : World) (v : Value) (hW : Below w0.heap.size w0 W) (hs : Sl W B v zs) => (show Calls Tryd.prog 94 #[.agg #[.int .u32 fl], v] W (ParsePost W B x.txt rest' (KSet x.kind x.txt)) by
        rw [hzs] at hs
        have hb := HRZ.out
        rw [hzs] at hb
        have hl := hb.long
        have hm := HM.out
        rw [HFL.out]
        refine hxv W B v rest' p q K0 HKB.out.1 HKB.out.2 hs hb.bytes (by simp only [List.length_cons] at hl; omega) hb.noesc (fun _ => ?_) (HT.out.base H3.out.1 ((HAL.out.trans (hW.mono HAL.out.size)).mono H3.out.2)) H3.out.1 (Nat.le_trans H3.out.2 (Nat.le_trans HAL.out.size hW.size))
        rw [hrest']
        obtain ⟨b, l, e, hb⟩ := itxt_behind false 93 (.inl rfl) xs ks.tail ((j : Int) + 1) (by omega) r
        rw [e]
        exact numEnd_of hb))
      obtain ⟨b0, l0, hbl, hbeg⟩ := txt_begins hxok
      have hz0 : zs = b0 :: (l0 ++ rest') := by rw [hzs, hbl]; rfl
      have HRN := Aside0.mk (show Rest (91 :: rest0) rest' q ∧ rest'.length + (j + 1) ≤ rest0.length by
        refine ⟨HRN0.out, ?_⟩
        have h1 := HRR.out.2
        have h2 := congrArg List.length hre
        rw [hz0] at h2
        simp only [List.length_append, List.length_cons] at h2
        omega)
      have hjb : j < 4000000000 := by have h1 := HRN.out.2; have h2 := HM.out; omega
      have hsp := hbeg.sp
      have h93 : ¬ b0 = 93 := hbeg.2.2.1
      clear hbl hbeg hxok hxv hrest' hzs
      rcases Nat.eq_zero_or_pos j with rfl | hj
      · have hre0 : rest = zs := by rw [hre, if_neg (by decide)]; rfl
        subst hre0
        have HSK := Aside0.mk (HS.out wr _ _ HBr.out HDr.out HRR.out.1.bytes)
        rw [hz0, skip_none hsp, ← hz0] at HSK
        obtain ⟨A2, m2, c2, rfl, hm2⟩ := HDr.out.formv
        clear hm2 hre
        go_upto_region 11 with (go_at_call 95; (with_reducible refine HSK.out.mono ?_); rintro e w2 ⟨v2, rfl, hs, hb⟩; have HD2 := Aside0.mk hs; have HB2 := Aside0.mk (HBr.out.trans (hb.mono HBr.out.size)); clear hs hb)
        have hd2 := HD2.out
        rw [hz0] at hd2
        obtain ⟨ad3, m3, c3, rfl, hm3, k3⟩ := hd2.first
        have hm3p : 0 < m3 := by omega
        have hz3 : ((m3 : Int) == 0) = false := by rw [beq_eq_false_iff_ne]; omega
        have HVV := Aside0.mk (HVC.out w2 _ HB2.out HD2.out)
        have k6 := blk116 HBX.out HB2.out
        clear hm3 hd2
        go_wp2_with (go_at_call 94; (with_reducible refine HVV.out.mono ?_); rintro e w5 ⟨v6, v7, K, rfl, -, -, hv7, hb5⟩; have HV7 := Aside0.mk hv7; have HB5 := Aside0.mk (HB2.out.trans (hb5.mono HB2.out.size)); clear hv7 hb5)
        go_roundg k1
        case measure => omega
        case rel => exact ⟨1, xs, ks.tail, rest', rfl, by go_num, ⟨by have := HXS.out.1; simpa using this, by have := HXS.out.2.1; omega, fun y hy => HXS.out.2.2 y (List.mem_cons_of_mem _ hy)⟩, HRE', HRN, HV7, HB5⟩
      · have hre0 : rest = 44 :: zs := by rw [hre, if_pos (by omega)]; rfl
        subst hre0
        have hjz : ((j : Int) != 0) = true := by rw [bne_iff_ne]; omega
        have HSK := Aside0.mk (HS.out wr _ _ HBr.out HDr.out HRR.out.1.bytes)
        rw [skip_none (by rfl)] at HSK
        obtain ⟨A2, m2, c2, rfl, hm2⟩ := HDr.out.formv
        clear hm2 hre
        go_upto_region 11 with (go_at_call 95; (with_reducible refine HSK.out.mono ?_); rintro e w2 ⟨v2, rfl, hs, hb⟩; have HD2 := Aside0.mk hs; have HB2 := Aside0.mk (HBr.out.trans (hb.mono HBr.out.size)); clear hs hb)
        obtain ⟨ad3, m3, c3, rfl, hm3, k3⟩ := HD2.out.first
        have hm3p : 0 < m3 := by omega
        have hz3 : ((m3 : Int) == 0) = false := by rw [beq_eq_false_iff_ne]; omega
        obtain ⟨A4, hcut4, hd4⟩ := HD2.out.next 22 1 .i64 Tryd.underlying22 (by omega)
        have hcut5 : ∀ W : World, (Instr.slice 22 (.slice (some ad3) m3 c3) (some (.int .i64 1)) none none).run Tryd.prog W = .ok (.slice A4 (m3 - 1) (c3 - 1)) W := hcut4
        have HD4 := Aside0.mk (show Sl w2 B (.slice A4 (m3 - 1) (c3 - 1)) zs from hd4)
        have HSK2 := Aside0.mk (HS.out w2 _ _ HB2.out HD4.out HRZ.out.bytes)
        rw [hz0, skip_none hsp, ← hz0] at HSK2
        clear hm3 hcut4 hd4
        go_upto_region 22 with (go_at_call 95; (with_reducible refine HSK2.out.mono ?_); rintro e w3 ⟨v3, rfl, hs, hb⟩; have HD5 := Aside0.mk hs; have HB3 := Aside0.mk (HB2.out.trans (hb.mono HB2.out.size)); clear hs hb)
        have hd5 := HD5.out
        rw [hz0] at hd5
        obtain ⟨ad6, m6, c6, rfl, hm6, k7⟩ := hd5.first
        have hm6p : 0 < m6 := by omega
        have hz6 : ((m6 : Int) == 0) = false := by rw [beq_eq_false_iff_ne]; omega
        have HVV := Aside0.mk (HVC.out w3 _ HB3.out HD5.out)
        have k6 := blk116 HBX.out HB3.out
        clear hm6 hd5 k3 hcut5
        go_wp2_with (go_at_call 94; (with_reducible refine HVV.out.mono ?_); rintro e w5 ⟨v6, v7, K, rfl, -, -, hv7, hb5⟩; have HV7 := Aside0.mk hv7; have HB5 := Aside0.mk (HB3.out.trans (hb5.mono HB3.out.size)); clear hv7 hb5)
        go_roundg k1
        case measure => omega
        case rel => exact ⟨j + 1, xs, ks.tail, rest', rfl, by go_num, ⟨by have := HXS.out.1; simpa using this, by have := HXS.out.2.1; omega, fun y hy => HXS.out.2.2 y (List.mem_cons_of_mem _ hy)⟩, ⟨by rw [HRE'.out]; simp⟩, HRN, HV7, HB5⟩
end Go.Proofs.YtekmminmgjoabaaDoor.Js
