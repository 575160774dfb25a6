/- parseStringUnquote: what a string's text means. -/
import Derived.Test.YtekmminmgjoabaaDoorZSt
import Derived.Laws.MakeOwn
import Derived.Deep.LoopGhost
namespace Go.Proofs.YtekmminmgjoabaaDoor.Js
open Go.RowKit Go.Proofs.YtekmminmgjoabaaDoorW.PrintWords Go.Proofs.YtekmminmgjoabaaDoorW.PrintLast Go.Proofs.YtekmminmgjoabaaDoorW.PrintMore Go.Proofs.YtekmminmgjoabaaDoor.PFnJSTokens
set_option linter.unusedVariables false
set_option linter.unusedSimpArgs false
/-- What the unquoter answers: what the string means; nothing is left; no error. -/
def UnqPost (w : World) (m : List Int) (e : Ending) (w' : World) : Prop := ∃ v1 A2 c2 b, e = .returned (.tuple #[v1, .slice A2 0 c2, .bool b, .nilIface]) ∧ Sl w' w'.heap.size v1 m ∧ Below w.heap.size w w'
theorem inside_eq (l : List Int) : ((34 :: (l ++ [34])).take (l.length + 1)).drop 1 = l := by
  rw [List.take_succ_cons, List.drop_succ_cons, List.drop_zero, List.take_left' rfl]
theorem drop_at (X : List Int) (e : Int) (l : List Int) : (X ++ 92 :: e :: l).drop (X.length + 1) = e :: l := by
  rw [← List.drop_drop, List.drop_left' rfl]
  rfl
theorem Ow.push {W : World} {base : Nat} {v : Value} {xs : List Int} (h : Ow W base v xs) (z : Int) (hbase : base ≤ W.heap.size) (hl : xs.length ≤ 3000000000) :
    ∃ v1 w1, (Builtin.append_ #[22, 22] 22 #[v, .slice (some ⟨W.heap.size, 0, none⟩) 1 1]).run Tryd.prog (W.alloc (.cells #[.int .u8 z] 5)) = .ok v1 w1 ∧ Ow w1 base v1 (xs ++ [z]) ∧ Below base W w1 := by
  have hal := below_alloc (Below.refl W.heap.size W) (.cells #[.int .u8 z] 5)
  have hnb := blk_new W (.cells #[.int .u8 z] 5)
  obtain ⟨v1, w1, hq, ho, hg, -⟩ := (h.below hal).append ⟨W.heap.size, 0, none⟩ 1 1 [z] rfl (fun j hj => by
    obtain rfl : j = 0 := by omega
    rw [add_zero_plain, blk_cell hnb 0]
    rfl) (Nat.le_trans hbase hal.size) (by omega) 22
  exact ⟨v1, w1, hq, ho, pw_below_grown (hal.mono hbase) _ (Nat.le_trans hbase hal.size) hg (fun k hk => (h.below hal).base k hk)⟩
set_option maxHeartbeats 16000000 in
set_option maxRecDepth 100000 in
theorem unq_calls (w : World) (B : Nat) (A : Option Addr) (n c : Nat) (fl : Int) (l m : List Int) (p q : Bool) (hB : B ≤ w.heap.size) (h : Sl w B (.slice A n c) (34 :: (l ++ [34]))) (hby : Bytes (34 :: (l ++ [34]))) (hstr : Str l) (hu : Unq l m) (hf : Fl fl p q) (hp : p = true → ∀ c ∈ l, prn c = true) (hq : q = true → 92 ∉ 34 :: (l ++ [34])) (hl : l.length ≤ 500000000) (ht : Tab w) :
    Calls Tryd.prog 93 #[.agg #[.int .u32 fl], .slice A n c, .slice none 0 0] w (UnqPost w m) := by
  have hal := below_alloc (Below.refl w.heap.size w) (.cells #[.int .u32 fl] 116)
  have HBX := Aside0.mk (blk_new w (.cells #[.int .u32 fl] 116))
  have hby2 := hstr.bytes
  have hml := hu.len
  have HAL := Aside0.mk hal
  have HBB := Aside0.mk hB
  have HP := Aside0.mk (pstr_strong (w.alloc (.cells #[.int .u32 fl] 116)) B A n c fl (34 :: (l ++ [34])) l (l.length + 1) p q (by simp; omega) hby (h.below (hal.mono hB)) (Nat.le_trans hB hal.size) rfl (strAt_init (r := []) hstr) hf hq (ht.below hal))
  have HPL := Aside0.mk (show (p = false → ∀ c ∈ l, prn c = true) → 92 ∉ l → m = l from fun h1 h2 => hu.plain h2 hby2 (by cases p <;> first | exact h1 rfl | exact hp rfl))
  have HU := Aside0.mk hu
  have HBY := Aside0.mk hby2
  have HML := Aside0.mk (show m.length ≤ 1500000000 by omega)
  have k6 := blk116 HBX.out (Below.refl _ _)
  obtain ⟨L, hL⟩ : ∃ L, L = l.length := ⟨_, rfl⟩
  rw [← hL] at hl HP
  have HLL := Aside0.mk hL
  have HL := Aside0.mk hl
  clear hal h hby hstr hf hp hq ht hby2 hml hu hL hl hB
  go_enter Tryd.func93, Tryd.ntmps93
  go_upto_region 2 with (go_at_call 80; (with_reducible refine HP.out.mono ?_); rintro e w2 ⟨v1, v2, k, rfl, hk, hs1, hs2, hb⟩; obtain ⟨A1, n1, c1, rfl, hn1⟩ := hs1.formv; obtain ⟨A2, n2, c2, rfl, hn2⟩ := hs2.formv; have HK := Aside0.mk hk; have HS1 := Aside0.mk hs1; have HN1 := Aside0.mk (show n1 = L + 2 by rw [hn1, HLL.out]; simp); have HN2 := Aside0.mk (show n2 = 0 by rw [hn2, HLL.out]; simp); have HB2 := Aside0.mk (HAL.out.trans (hb.mono HAL.out.size)); have HBX2 := Aside0.mk (blk_below HBX.out hb); clear hk hs1 hs2 hb hn1 hn2)
  clear k6 HP HBX
  obtain rfl : n2 = 0 := HN2.out
  obtain rfl : n1 = L + 2 := HN1.out
  have hLb : (L : Int) ≤ 500000000 := by have := HL.out; omega
  obtain ⟨A3, hcutM, hdM⟩ := HS1.out.mid 22 1 (L + 1) 1 ((L : Int) + 1) .i64 .i64 Tryd.underlying22 rfl (by omega) (by omega) (by omega)
  have hS3 : Sl w2 B (.slice A3 L (c1 - 1)) l := by
    have e : ((34 :: (l ++ [34])).take (L + 1 + 1)).take (L + 1) = (34 :: (l ++ [34])).take (l.length + 1) := by
      rw [List.take_take, HLL.out, Nat.min_eq_left (by omega)]
    rw [e, inside_eq] at hdM
    exact hdM
  have hcutM2 : ∀ W : World, (Instr.slice 22 (.slice A1 (L + 2) c1) (some (.int .i64 1)) (some (.int .i64 ((L : Int) + 1))) none).run Tryd.prog W = .ok (.slice A3 L (c1 - 1)) W := hcutM
  have hs21 : ((L : Int) + 2 - 1) = (L : Int) + 1 := by omega
  have HS3 := Aside0.mk hS3
  clear hcutM hdM hS3
  rcases HK.out with ⟨hk9, h92, hpr⟩ | ⟨hk8, hno⟩
  · obtain rfl : k = 9 := hk9
    have HM := Aside0.mk (HPL.out hpr h92)
    clear hpr h92 HPL HK
    go_wp2_with fail
    go_returns
    exact ⟨_, A2, c2, false, rfl, by rw [HM.out]; exact HS3.out.grow (Nat.le_trans HBB.out HB2.out.size), HB2.out⟩
  obtain rfl : k = 8 := hk8
  obtain ⟨i0, hi, hzz⟩ := Option.map_eq_some_iff.1 info5
  simp only [Prod.mk.injEq] at hzz
  obtain ⟨hz0, hz1, hz2⟩ := hzz
  obtain ⟨w3, hmk, ho3, hg3⟩ := run_make_own (P := Tryd.prog) w2 w2.heap.size 22 5 i0 (.int .u8 0) 1 Tryd.underlying22 hi hz0 hz1 .i64 .i64 L (by rw [hz2]; omega) (by unfold maxLen; omega) (Nat.le_refl _)
  have HO3 := Aside0.mk (show Ow w3 w2.heap.size (.slice (some ⟨w2.heap.size, 0, none⟩) 0 L) [] from ho3)
  have HB3 := Aside0.mk (pw_below_grown (Below.refl w2.heap.size w2) none (Nat.le_refl _) hg3 (fun k hk => by cases hk))
  clear hno hi hz0 hz1 hz2 ho3 hg3 HPL HK
  have hnil : ∀ W : World, (binOp .eql 22 (.slice none 0 0) (.slice none 0 0)).run Tryd.prog W = .ok (.bool true) W := fun W => by kernel_rfl
  go_upto_region 9 with (fail)
  clear hmk hcutM2 hs21 HS1 hnil
  have HB02 := Aside0.mk (Nat.le_trans HBB.out HB2.out.size)
  have HSW := Aside0.mk (HS3.out.below (HB3.out.mono HB02.out))
  go_loopg [2, 10] L (fun gk v2 v10 wr => ∃ (A0 : Option Addr) (c0 : Nat) (x R mm : List Int), v10 = .slice A0 gk c0 ∧ Aside0 (Sl wr B (.slice A0 gk c0) x) ∧ Aside0 (Ow wr w2.heap.size v2 R) ∧ Aside0 (Unq x mm) ∧ Aside0 (Bytes x) ∧ Aside0 (R ++ mm = m) ∧ Aside0 (Below w2.heap.size w2 wr) ∧ Aside0 (gk ≤ 500000000))
  case atStart => exact ⟨A3, c1 - 1, l, [], m, rfl, HSW, HO3, HU, HBY, ⟨rfl⟩, HB3, HL⟩
  case round =>
    obtain ⟨A0, c0, x, R, mm, rfl, HSr, HOr, HUr, HBYr, HEr, HBr, HGr⟩ := hrel
    clear HSW HO3 HB3 HS3 hLb
    have HBB2 := Aside0.mk (Nat.le_trans HB02.out HBr.out.size)
    have HLR := Aside0.mk (show R.length + mm.length ≤ 1500000000 by
      have h1 := congrArg List.length HEr.out
      rw [List.length_append] at h1
      have := HML.out
      omega)
    have hgb : (gk : Int) ≤ 500000000 := by have := HGr.out; omega
    rcases HUr.out.view with ⟨h92, hco⟩ | ⟨X, Y, e, l', m', rfl, rfl, h92, hco, htl⟩
    · have HI := Aside0.mk (index_calls wr B A0 gk c0 x 92 HSr.out HBYr.out (by decide) (by decide))
      rw [(idx_none 92 x).2 h92] at HI
      have HC := Aside0.mk (coerce_calls wr w2.heap.size B _ A0 gk c0 R x mm HOr.out HSr.out HBB2.out HBYr.out hco HBr.out.size (by have := HLR.out; omega))
      rw [HEr.out] at HC
      rcases Nat.eq_zero_or_pos gk with h0 | h0
      · subst h0
        have HX := Aside0.mk (show R = m by
          have e0 : x = [] := List.length_eq_zero_iff.1 HSr.out.len.1.symm
          rw [e0] at hco
          have := HEr.out
          rw [hco.empty, List.append_nil] at this
          exact this)
        clear h92 hco HI HC
        go_wp2_with fail
        go_returns
        exact ⟨_, A2, c2, true, rfl, by rw [← HX.out]; exact HOr.out.sl (by have := HLR.out; omega), HB2.out.trans (HBr.out.mono HB2.out.size)⟩
      · have hz0 : ((gk : Int) == 0) = false := by rw [beq_eq_false_iff_ne]; omega
        have hz1 : ¬ gk = 0 := by omega
        clear h92 hco
        go_wp2_with (first
          | (go_at_call 112; (with_reducible refine HI.out.mono ?_); rintro e w4 ⟨rfl, rfl⟩)
          | (go_at_call 127; (with_reducible refine HC.out.mono ?_); rintro e w5 ⟨v5, rfl, ho, hb⟩; have HO5 := Aside0.mk ho; have HB5 := Aside0.mk (HBr.out.trans hb); clear ho hb))
        go_returns
        exact ⟨_, A2, c2, true, rfl, HO5.out.sl (by have := HML.out; omega), HB2.out.trans (HB5.out.mono HB2.out.size)⟩
    · have hgl := HSr.out.len.1
      obtain ⟨k, hk⟩ : ∃ k, k = X.length := ⟨_, rfl⟩
      obtain ⟨L1, hL1⟩ : ∃ L1, L1 = l'.length := ⟨_, rfl⟩
      have hgk : gk = k + (L1 + 2) := by rw [hgl, hk, hL1]; simp
      have HI := Aside0.mk (index_calls wr B A0 gk c0 _ 92 HSr.out HBYr.out (by decide) (by decide))
      rw [idx_cut 92 X (e :: l') h92, ← hk] at HI
      obtain ⟨hcutT, hdT⟩ := HSr.out.next_to 22 k (k : Int) .i64 Tryd.underlying22 rfl (by omega)
      have hX : (X ++ 92 :: e :: l').take k = X := by rw [hk]; exact List.take_left' rfl
      rw [hX] at hdT
      have HC := Aside0.mk (coerce_calls wr w2.heap.size B _ A0 k c0 R X Y HOr.out hdT HBB2.out (HBYr.out.sub fun c hc => List.mem_append_left _ hc) hco HBr.out.size (by have := HLR.out; rw [List.length_append] at this; omega))
      obtain ⟨A4, -, hcutF, -, hdF⟩ := HSr.out.both 22 (k + 1) ((k : Int) + 1) .i64 Tryd.underlying22 (by omega) (by omega)
      have hD : (X ++ 92 :: e :: l').drop (k + 1) = e :: l' := by rw [hk]; exact drop_at X e l'
      rw [hD] at hdF
      obtain ⟨c4, hc4⟩ : ∃ c4, c4 = c0 - (k + 1) := ⟨_, rfl⟩
      have hn4 : gk - (k + 1) = L1 + 1 := by omega
      rw [hn4, ← hc4] at hdF
      rw [hn4, ← hc4] at hcutF
      obtain ⟨ad, -, rfl, -⟩ := hdF.head 22 Tryd.underlying22
      have HSF := Aside0.mk hdF
      have HYY := Aside0.mk (show Bytes l' ∧ 0 ≤ e ∧ e ≤ 255 from ⟨HBYr.out.sub fun c hc => List.mem_append_right _ (List.mem_cons_of_mem _ (List.mem_cons_of_mem _ hc)), HBYr.out e (List.mem_append_right _ (List.mem_cons_of_mem _ List.mem_cons_self))⟩)
      have HMM := Aside0.mk (show (R ++ Y) ++ m' = m by rw [List.append_assoc]; exact HEr.out)
      have HRY := Aside0.mk (show (R ++ Y).length + m'.length ≤ 1500000000 by have := HLR.out; simp only [List.length_append] at this ⊢; omega)
      have HL1 := Aside0.mk hL1
      have hkb : (k : Int) + 2 + (L1 : Int) ≤ 500000000 := by omega
      have hk1 : (k : Int) ≤ 500000000 := by omega
      have hnz : ¬ gk = 0 := by omega
      have hlt : ¬ (k : Int) < 0 := by omega
      have HGK := Aside0.mk hgk
      have HTL := Aside0.mk htl
      clear hgl hk hL1 hgk hX hdT hdF hD hc4 hn4 h92 hco htl HSr HBYr HEr HLR HUr HOr hgb
      go_upto_region 16 with (first
        | (go_at_call 112; (with_reducible refine HI.out.mono ?_); rintro en w4 ⟨rfl, rfl⟩)
        | (go_at_call 127; (with_reducible refine HC.out.mono ?_); rintro en w5 ⟨v5, rfl, ho, hb⟩; have HO5 := Aside0.mk ho; have HB5 := Aside0.mk (HBr.out.trans hb); obtain ⟨ad', A5, e1, -, hcell, hcut1, hd5⟩ := (HSF.out.below (hb.mono HB02.out)).head 22 Tryd.underlying22; injection e1 with e1; subst e1; rw [← HL1.out] at hcut1 hd5; have HD5 := Aside0.mk hd5; clear ho hb hd5))
      clear hcutT hcutF HI HC HSF
      have hbs : w2.heap.size ≤ w5.heap.size := HB5.out.size
      have HBS := Aside0.mk hbs
      have HRL := Aside0.mk (show (R ++ Y).length ≤ 1500000000 by have := HRY.out; omega)
      have htl := HTL.out
      clear HTL hbs
      cases htl with
      | @esc _ _ m2 he hu2 =>
        have HU2 := Aside0.mk hu2
        clear hu2
        rcases he with rfl | rfl | rfl | rfl | rfl | rfl | rfl | rfl
        · obtain ⟨v6, w6, hq, ho6, hb6⟩ := HO5.out.push 34 HBS.out (by have := HRL.out; omega)
          have HQ := Aside0.mk hq
          have HO6 := Aside0.mk ho6
          have HB6 := Aside0.mk hb6
          clear hq ho6 hb6
          go_wp2_with (at_builtin; refine wpList_append_own_run rfl _ _ 22 rfl _ _ _ _ rfl rfl HQ.out ?_)
          go_roundg L1
          case measure => have := HGK.out; omega
          case rel => exact ⟨A5, c4 - 1, _, R ++ Y ++ [34], m2, rfl, ⟨HD5.out.below (HB6.out.mono HB02.out)⟩, HO6, HU2, ⟨HYY.out.1⟩, ⟨by rw [List.append_assoc]; exact HMM.out⟩, ⟨HB5.out.trans HB6.out⟩, ⟨by have := HGK.out; have := HGr.out; omega⟩⟩
        · obtain ⟨v6, w6, hq, ho6, hb6⟩ := HO5.out.push 92 HBS.out (by have := HRL.out; omega)
          have HQ := Aside0.mk hq
          have HO6 := Aside0.mk ho6
          have HB6 := Aside0.mk hb6
          clear hq ho6 hb6
          go_wp2_with (at_builtin; refine wpList_append_own_run rfl _ _ 22 rfl _ _ _ _ rfl rfl HQ.out ?_)
          go_roundg L1
          case measure => have := HGK.out; omega
          case rel => exact ⟨A5, c4 - 1, _, R ++ Y ++ [92], m2, rfl, ⟨HD5.out.below (HB6.out.mono HB02.out)⟩, HO6, HU2, ⟨HYY.out.1⟩, ⟨by rw [List.append_assoc]; exact HMM.out⟩, ⟨HB5.out.trans HB6.out⟩, ⟨by have := HGK.out; have := HGr.out; omega⟩⟩
        · obtain ⟨v6, w6, hq, ho6, hb6⟩ := HO5.out.push 47 HBS.out (by have := HRL.out; omega)
          have HQ := Aside0.mk hq
          have HO6 := Aside0.mk ho6
          have HB6 := Aside0.mk hb6
          clear hq ho6 hb6
          go_wp2_with (at_builtin; refine wpList_append_own_run rfl _ _ 22 rfl _ _ _ _ rfl rfl HQ.out ?_)
          go_roundg L1
          case measure => have := HGK.out; omega
          case rel => exact ⟨A5, c4 - 1, _, R ++ Y ++ [47], m2, rfl, ⟨HD5.out.below (HB6.out.mono HB02.out)⟩, HO6, HU2, ⟨HYY.out.1⟩, ⟨by rw [List.append_assoc]; exact HMM.out⟩, ⟨HB5.out.trans HB6.out⟩, ⟨by have := HGK.out; have := HGr.out; omega⟩⟩
        · obtain ⟨v6, w6, hq, ho6, hb6⟩ := HO5.out.push 10 HBS.out (by have := HRL.out; omega)
          have HQ := Aside0.mk hq
          have HO6 := Aside0.mk ho6
          have HB6 := Aside0.mk hb6
          clear hq ho6 hb6
          go_wp2_with (at_builtin; refine wpList_append_own_run rfl _ _ 22 rfl _ _ _ _ rfl rfl HQ.out ?_)
          go_roundg L1
          case measure => have := HGK.out; omega
          case rel => exact ⟨A5, c4 - 1, _, R ++ Y ++ [10], m2, rfl, ⟨HD5.out.below (HB6.out.mono HB02.out)⟩, HO6, HU2, ⟨HYY.out.1⟩, ⟨by rw [List.append_assoc]; exact HMM.out⟩, ⟨HB5.out.trans HB6.out⟩, ⟨by have := HGK.out; have := HGr.out; omega⟩⟩
        · obtain ⟨v6, w6, hq, ho6, hb6⟩ := HO5.out.push 13 HBS.out (by have := HRL.out; omega)
          have HQ := Aside0.mk hq
          have HO6 := Aside0.mk ho6
          have HB6 := Aside0.mk hb6
          clear hq ho6 hb6
          go_wp2_with (at_builtin; refine wpList_append_own_run rfl _ _ 22 rfl _ _ _ _ rfl rfl HQ.out ?_)
          go_roundg L1
          case measure => have := HGK.out; omega
          case rel => exact ⟨A5, c4 - 1, _, R ++ Y ++ [13], m2, rfl, ⟨HD5.out.below (HB6.out.mono HB02.out)⟩, HO6, HU2, ⟨HYY.out.1⟩, ⟨by rw [List.append_assoc]; exact HMM.out⟩, ⟨HB5.out.trans HB6.out⟩, ⟨by have := HGK.out; have := HGr.out; omega⟩⟩
        · obtain ⟨v6, w6, hq, ho6, hb6⟩ := HO5.out.push 9 HBS.out (by have := HRL.out; omega)
          have HQ := Aside0.mk hq
          have HO6 := Aside0.mk ho6
          have HB6 := Aside0.mk hb6
          clear hq ho6 hb6
          go_wp2_with (at_builtin; refine wpList_append_own_run rfl _ _ 22 rfl _ _ _ _ rfl rfl HQ.out ?_)
          go_roundg L1
          case measure => have := HGK.out; omega
          case rel => exact ⟨A5, c4 - 1, _, R ++ Y ++ [9], m2, rfl, ⟨HD5.out.below (HB6.out.mono HB02.out)⟩, HO6, HU2, ⟨HYY.out.1⟩, ⟨by rw [List.append_assoc]; exact HMM.out⟩, ⟨HB5.out.trans HB6.out⟩, ⟨by have := HGK.out; have := HGr.out; omega⟩⟩
        · obtain ⟨v6, w6, hq, ho6, hb6⟩ := HO5.out.push 12 HBS.out (by have := HRL.out; omega)
          have HQ := Aside0.mk hq
          have HO6 := Aside0.mk ho6
          have HB6 := Aside0.mk hb6
          clear hq ho6 hb6
          go_wp2_with (at_builtin; refine wpList_append_own_run rfl _ _ 22 rfl _ _ _ _ rfl rfl HQ.out ?_)
          go_roundg L1
          case measure => have := HGK.out; omega
          case rel => exact ⟨A5, c4 - 1, _, R ++ Y ++ [12], m2, rfl, ⟨HD5.out.below (HB6.out.mono HB02.out)⟩, HO6, HU2, ⟨HYY.out.1⟩, ⟨by rw [List.append_assoc]; exact HMM.out⟩, ⟨HB5.out.trans HB6.out⟩, ⟨by have := HGK.out; have := HGr.out; omega⟩⟩
        · obtain ⟨v6, w6, hq, ho6, hb6⟩ := HO5.out.push 8 HBS.out (by have := HRL.out; omega)
          have HQ := Aside0.mk hq
          have HO6 := Aside0.mk ho6
          have HB6 := Aside0.mk hb6
          clear hq ho6 hb6
          go_wp2_with (at_builtin; refine wpList_append_own_run rfl _ _ 22 rfl _ _ _ _ rfl rfl HQ.out ?_)
          go_roundg L1
          case measure => have := HGK.out; omega
          case rel => exact ⟨A5, c4 - 1, _, R ++ Y ++ [8], m2, rfl, ⟨HD5.out.below (HB6.out.mono HB02.out)⟩, HO6, HU2, ⟨HYY.out.1⟩, ⟨by rw [List.append_assoc]; exact HMM.out⟩, ⟨HB5.out.trans HB6.out⟩, ⟨by have := HGK.out; have := HGr.out; omega⟩⟩
      | @uni a b c' d l2 m2 ha hb hc hd hh hu2 =>
        have hbd := hex4_bd ha hb hc hd
        have hl4 := HL1.out
        obtain ⟨L2, hL2⟩ : ∃ L2, L2 = l2.length := ⟨_, rfl⟩
        have hL12 : L1 = L2 + 4 := by rw [hl4, hL2]; simp
        have HUN := Aside0.mk (uni_calls w5 B A5 L1 (c4 - 1) fl _ HD5.out (by simp) (hex4_at ha hb hc hd) (Nat.le_trans HB02.out HBS.out))
        rw [hex4_v] at HUN
        obtain ⟨A6, c6, hcut4, hd6⟩ : ∃ A6 c6, (∀ W : World, (Instr.slice 22 (.slice A5 L1 (c4 - 1)) (some (.int .i64 4)) none none).run Tryd.prog W = .ok (.slice A6 (L2 + 0) c6) W) ∧ Sl w5 B (.slice A6 (L2 + 0) c6) l2 := by
          obtain ⟨A6, g1, g2⟩ := HD5.out.next 22 4 .i64 Tryd.underlying22 (by omega)
          rw [show L1 - 4 = L2 + 0 by omega] at g1 g2
          exact ⟨A6, _, g1, g2⟩
        obtain ⟨V, hV⟩ : ∃ V, V = hex4 a b c' d := ⟨_, rfl⟩
        rw [← hV] at HUN hh hbd HMM HRY
        have HSU := Aside0.mk (fun (W : World) => surr_calls W V)
        rw [hh] at HSU
        have HAP := Aside0.mk (fun (W : World) (hW : Below w5.heap.size w5 W) => app_rune W w2.heap.size v5 (R ++ Y) V (by omega) (by omega) (HO5.out.below hW) (Nat.le_trans HBS.out hW.size) (by have := HRL.out; omega))
        rw [enc_rune V hbd.1 (by omega) hh] at HAP
        have HU2 := Aside0.mk hu2
        have HD6 := Aside0.mk hd6
        have HLL2 := Aside0.mk hL12
        have k7 := blk116 HBX2.out HB5.out
        have HBL := Aside0.mk (show Bytes l2 from HYY.out.1.sub fun c hc => List.mem_cons_of_mem _ (List.mem_cons_of_mem _ (List.mem_cons_of_mem _ (List.mem_cons_of_mem _ hc))))
        have hl2b : (L2 : Int) ≤ 500000000 := by omega
        rw [Nat.add_zero] at hcut4 HD6
        clear ha hb hc hd hh hu2 hbd hl4 hL2 hL12 hd6 hV hkb hk1
        go_wp2_with (first
          | (go_at_call 117; (with_reducible refine HUN.out.mono ?_); rintro en w6 ⟨rfl, hb⟩; have HB6 := Aside0.mk hb; clear hb)
          | (go_at_call 128; (with_reducible refine (HSU.out _).mono ?_); rintro en w7 ⟨rfl, rfl⟩)
          | (go_at_call 131; (with_reducible refine (HAP.out _ HB6.out).mono ?_); rintro en w8 ⟨v8, rfl, ho, hb⟩; have HO8 := Aside0.mk ho; have HB8 := Aside0.mk ((HB6.out.mono HBS.out).trans hb); clear ho hb))
        go_roundg L2
        case measure => have := HGK.out; have := HLL2.out; omega
        case rel => exact ⟨A6, c6, l2, R ++ Y ++ runeF V, m2, rfl, ⟨HD6.out.below (HB8.out.mono HB02.out)⟩, HO8, HU2, HBL, ⟨by rw [List.append_assoc]; exact HMM.out⟩, ⟨HB5.out.trans HB8.out⟩, ⟨by have := HGK.out; have := HLL2.out; have := HGr.out; omega⟩⟩
      | @half a b c' d l2 m2 ha hb hc hd hh hno hu2 =>
        have hbd := hex4_bd ha hb hc hd
        have hl4 := HL1.out
        obtain ⟨L2, hL2⟩ : ∃ L2, L2 = l2.length := ⟨_, rfl⟩
        have hL12 : L1 = L2 + 4 := by rw [hl4, hL2]; simp
        have HUN := Aside0.mk (uni_calls w5 B A5 L1 (c4 - 1) fl _ HD5.out (by simp) (hex4_at ha hb hc hd) (Nat.le_trans HB02.out HBS.out))
        rw [hex4_v] at HUN
        obtain ⟨A6, c6, hcut4, hd6⟩ : ∃ A6 c6, (∀ W : World, (Instr.slice 22 (.slice A5 L1 (c4 - 1)) (some (.int .i64 4)) none none).run Tryd.prog W = .ok (.slice A6 (L2 + 0) c6) W) ∧ Sl w5 B (.slice A6 (L2 + 0) c6) l2 := by
          obtain ⟨A6, g1, g2⟩ := HD5.out.next 22 4 .i64 Tryd.underlying22 (by omega)
          rw [show L1 - 4 = L2 + 0 by omega] at g1 g2
          exact ⟨A6, _, g1, g2⟩
        obtain ⟨V, hV⟩ : ∃ V, V = hex4 a b c' d := ⟨_, rfl⟩
        rw [← hV] at HUN hh hbd
        have HSU := Aside0.mk (fun (W : World) => surr_calls W V)
        rw [hh] at HSU
        have HAP := Aside0.mk (fun (W : World) (hW : Below w5.heap.size w5 W) => app_rune W w2.heap.size v5 (R ++ Y) 65533 (by omega) (by omega) (HO5.out.below hW) (Nat.le_trans HBS.out hW.size) (by have := HRL.out; omega))
        rw [show Lib.encodeRuneZ 65533 = [239, 191, 189] by decide] at HAP
        have HU2 := Aside0.mk hu2
        have HD6 := Aside0.mk hd6
        have HLL2 := Aside0.mk hL12
        have k7 := blk116 HBX2.out HB5.out
        have HBL := Aside0.mk (show Bytes l2 from HYY.out.1.sub fun c hc => List.mem_cons_of_mem _ (List.mem_cons_of_mem _ (List.mem_cons_of_mem _ (List.mem_cons_of_mem _ hc))))
        have hl2b : (L2 : Int) ≤ 500000000 := by omega
        rw [Nat.add_zero] at hcut4 HD6
        have HPN := Aside0.mk (fun (W : World) (hW : Below w5.heap.size w5 W) => pre_no W B A6 L2 c6 l2 (HD6.out.below (hW.mono (Nat.le_trans HB02.out HBS.out))) HBL.out hno)
        clear ha hb hc hd hh hno hu2 hbd hl4 hL2 hL12 hd6 hV hkb hk1
        go_wp2_with (first
          | (go_at_call 117; (with_reducible refine HUN.out.mono ?_); rintro en w6 ⟨rfl, hb⟩; have HB6 := Aside0.mk hb; clear hb)
          | (go_at_call 128; (with_reducible refine (HSU.out _).mono ?_); rintro en w7 ⟨rfl, rfl⟩)
          | (go_at_call 129; (with_reducible refine (HPN.out _ HB6.out).mono ?_); rintro en w7 ⟨rfl, rfl⟩)
          | (go_at_call 131; (with_reducible refine (HAP.out _ HB6.out).mono ?_); rintro en w8 ⟨v8, rfl, ho, hb⟩; have HO8 := Aside0.mk ho; have HB8 := Aside0.mk ((HB6.out.mono HBS.out).trans hb); clear ho hb))
        go_roundg L2
        case measure => have := HGK.out; have := HLL2.out; omega
        case rel => exact ⟨A6, c6, l2, R ++ Y ++ [239, 191, 189], m2, rfl, ⟨HD6.out.below (HB8.out.mono HB02.out)⟩, HO8, HU2, HBL, ⟨by rw [List.append_assoc]; exact HMM.out⟩, ⟨HB5.out.trans HB8.out⟩, ⟨by have := HGK.out; have := HLL2.out; have := HGr.out; omega⟩⟩
      | @pair a b c' d a2 b2 c2' d2 r l2 m2 ha hb hc hd ha' hb' hc' hd' h0 h1 e1 e2 hu2 =>
        have hbd := hex4_bd ha hb hc hd
        have hbd2 := hex4_bd ha' hb' hc' hd'
        have hl4 := HL1.out
        obtain ⟨L2, hL2⟩ : ∃ L2, L2 = l2.length := ⟨_, rfl⟩
        have hL12 : L1 = L2 + 10 := by rw [hl4, hL2]; simp
        have HUN := Aside0.mk (uni_calls w5 B A5 L1 (c4 - 1) fl _ HD5.out (by simp) (hex4_at ha hb hc hd) (Nat.le_trans HB02.out HBS.out))
        rw [hex4_v] at HUN
        obtain ⟨A6, c6, hcut4, hd6⟩ : ∃ A6 c6, (∀ W : World, (Instr.slice 22 (.slice A5 L1 (c4 - 1)) (some (.int .i64 4)) none none).run Tryd.prog W = .ok (.slice A6 (L2 + 6) c6) W) ∧ Sl w5 B (.slice A6 (L2 + 6) c6) (92 :: 117 :: a2 :: b2 :: c2' :: d2 :: l2) := by
          obtain ⟨A6, g1, g2⟩ := HD5.out.next 22 4 .i64 Tryd.underlying22 (by omega)
          rw [show L1 - 4 = L2 + 6 by omega] at g1 g2
          exact ⟨A6, _, g1, g2⟩
        obtain ⟨A7, c7, hcut2, hd7⟩ : ∃ A7 c7, (∀ W : World, (Instr.slice 22 (.slice A6 (L2 + 6) c6) (some (.int .i64 2)) none none).run Tryd.prog W = .ok (.slice A7 (L2 + 4) c7) W) ∧ Sl w5 B (.slice A7 (L2 + 4) c7) (a2 :: b2 :: c2' :: d2 :: l2) := by
          obtain ⟨A7, g1, g2⟩ := hd6.next 22 2 .i64 Tryd.underlying22 (by omega)
          rw [show L2 + 6 - 2 = L2 + 4 by omega] at g1 g2
          exact ⟨A7, _, g1, g2⟩
        obtain ⟨A8, c8, hcut6, hd8⟩ : ∃ A8 c8, (∀ W : World, (Instr.slice 22 (.slice A6 (L2 + 6) c6) (some (.int .i64 6)) none none).run Tryd.prog W = .ok (.slice A8 L2 c8) W) ∧ Sl w5 B (.slice A8 L2 c8) l2 := by
          obtain ⟨A8, g1, g2⟩ := hd6.next 22 6 .i64 Tryd.underlying22 (by omega)
          rw [show L2 + 6 - 6 = L2 by omega] at g1 g2
          exact ⟨A8, _, g1, g2⟩
        have HUN2 := Aside0.mk (fun (W : World) (hW : Below w5.heap.size w5 W) => uni_calls W B A7 (L2 + 4) c7 fl _ (hd7.below (hW.mono (Nat.le_trans HB02.out HBS.out))) (by simp) (hex4_at ha' hb' hc' hd') (Nat.le_trans (Nat.le_trans HB02.out HBS.out) hW.size))
        have HPY := Aside0.mk (fun (W : World) (hW : Below w5.heap.size w5 W) => pre_yes W B A6 (L2 + 6) c6 _ (hd6.below (hW.mono (Nat.le_trans HB02.out HBS.out))))
        simp only [hex4_v] at HUN2
        obtain ⟨V, hV⟩ : ∃ V, V = hex4 a b c' d := ⟨_, rfl⟩
        obtain ⟨V2, hV2⟩ : ∃ V2, V2 = hex4 a2 b2 c2' d2 := ⟨_, rfl⟩
        rw [← hV] at HUN e1
        rw [← hV2] at HUN2 e2
        have hh : isHalf V = true := by unfold isHalf; simp only [Bool.and_eq_true, decide_eq_true_eq]; omega
        have HSU := Aside0.mk (fun (W : World) => surr_calls W V)
        rw [hh] at HSU
        have HPC := Aside0.mk (fun (W : World) => pair_calls W r V V2 h0 h1 e1 e2)
        have hrn : isHalf r = false := by unfold isHalf; simp only [Bool.and_eq_false_iff, decide_eq_false_iff_not]; omega
        have HAP := Aside0.mk (fun (W : World) (hW : Below w5.heap.size w5 W) => app_rune W w2.heap.size v5 (R ++ Y) r (by omega) (by omega) (HO5.out.below hW) (Nat.le_trans HBS.out hW.size) (by have := HRL.out; omega))
        rw [enc_rune r (by omega) h1 hrn] at HAP
        have hrz : (r == 65533) = false := by rw [beq_eq_false_iff_ne]; omega
        have HU2 := Aside0.mk hu2
        have HD8 := Aside0.mk hd8
        have HLL2 := Aside0.mk hL12
        have k7 := blk116 HBX2.out HB5.out
        have HBL := Aside0.mk (show Bytes l2 from HYY.out.1.sub fun c hc => List.mem_cons_of_mem _ (List.mem_cons_of_mem _ (List.mem_cons_of_mem _ (List.mem_cons_of_mem _ (List.mem_cons_of_mem _ (List.mem_cons_of_mem _ (List.mem_cons_of_mem _ (List.mem_cons_of_mem _ (List.mem_cons_of_mem _ (List.mem_cons_of_mem _ hc))))))))))
        have hl2b : (L2 : Int) ≤ 500000000 := by omega
        clear ha hb hc hd ha' hb' hc' hd' hh hu2 hbd hbd2 hl4 hL2 hL12 hd6 hd7 hd8 hV hV2 hkb hk1 h0 h1 e1 e2 hrn
        go_upto_region 40 with (first
          | (go_at_call 117; (with_reducible refine HUN.out.mono ?_); rintro en w6 ⟨rfl, hb⟩; have HB6 := Aside0.mk hb; clear hb)
          | (go_at_call 128; (with_reducible refine (HSU.out _).mono ?_); rintro en w7 ⟨rfl, rfl⟩)
          | (go_at_call 129; (with_reducible refine (HPY.out _ HB6.out).mono ?_); rintro en w7 ⟨rfl, rfl⟩))
        have k8 := blk116 HBX2.out (HB5.out.trans (HB6.out.mono HBS.out))
        clear k7
        go_region_with (go_at_call 117; (with_reducible refine (HUN2.out _ ?_).mono ?_); (first | exact HB6.out | exact below_drew HB6.out); rintro en w9 ⟨rfl, hb⟩; have HB9 := Aside0.mk (show Below w5.heap.size w5 w9 from (below_drew HB6.out).trans (hb.mono (below_drew HB6.out).size)); clear hb)
        all_goals
          clear k8
          go_wp2_with (first
            | (go_at_call 130; (with_reducible refine (HPC.out _).mono ?_); rintro en w7 ⟨rfl, rfl⟩)
            | (go_at_call 131; (with_reducible refine (HAP.out _ HB9.out).mono ?_); rintro en w8 ⟨v8, rfl, ho, hb⟩; have HO8 := Aside0.mk ho; have HB8 := Aside0.mk ((HB9.out.mono HBS.out).trans hb); clear ho hb))
          go_roundg L2
          case measure => have := HGK.out; have := HLL2.out; omega
          case rel => exact ⟨A8, c8, l2, R ++ Y ++ runeF r, m2, rfl, ⟨HD8.out.below (HB8.out.mono HB02.out)⟩, HO8, HU2, HBL, ⟨by rw [List.append_assoc]; exact HMM.out⟩, ⟨HB5.out.trans HB8.out⟩, ⟨by have := HGK.out; have := HLL2.out; have := HGr.out; omega⟩⟩
end Go.Proofs.YtekmminmgjoabaaDoor.Js

