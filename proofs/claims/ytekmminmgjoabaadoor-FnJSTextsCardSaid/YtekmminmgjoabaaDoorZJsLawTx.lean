/- The law on what strings mean. -/
import Derived.Test.YtekmminmgjoabaaDoorZSw
import Derived.Test.YtekmminmgjoabaaDoorZKb
import Derived.Deep.LoopGhost
import Derived.Lib.SliceRun
namespace Go.Proofs.YtekmminmgjoabaaDoor.Js
open Go.RowKit Go.Proofs.YtekmminmgjoabaaDoorW.PrintWords Go.Proofs.YtekmminmgjoabaaDoorW.PrintLast Go.Proofs.YtekmminmgjoabaaDoorW.PrintMore Go.Proofs.YtekmminmgjoabaaDoor.PFnJSTokens
set_option linter.unusedVariables false
set_option linter.unusedSimpArgs false
/-- A sign that is not printable ASCII, or begins an escape. -/
def badC (c : Int) : Bool := decide (c < 32) || (decide (126 < c) || (c == 92))
set_option maxHeartbeats 4000000 in
set_option maxRecDepth 100000 in
theorem bad_calls (w : World) (c : Int) : Calls Tryd.prog 34 #[.int .u8 c] w fun e w' => e = .returned (.bool (badC c)) ∧ w = w' := by
  cases h1 : decide (c < 32)
  · cases h2 : decide (126 < c)
    · cases h3 : (c == 92)
      · have HE := Aside0.mk (show badC c = false by unfold badC; rw [h1, h2, h3]; rfl)
        go_enter Tryd.func34, Tryd.ntmps34
        go_wp2
        go_ret
        exact ⟨by rw [HE.out]; rfl, rfl⟩
      · have HE := Aside0.mk (show badC c = true by unfold badC; rw [h1, h2, h3]; rfl)
        go_enter Tryd.func34, Tryd.ntmps34
        go_wp2
        go_ret
        exact ⟨by rw [HE.out]; rfl, rfl⟩
    · have HE := Aside0.mk (show badC c = true by unfold badC; rw [h1, h2]; rfl)
      go_enter Tryd.func34, Tryd.ntmps34
      go_wp2
      go_ret
      exact ⟨by rw [HE.out]; rfl, rfl⟩
  · have HE := Aside0.mk (show badC c = true by unfold badC; rw [h1]; rfl)
    go_enter Tryd.func34, Tryd.ntmps34
    go_wp2
    go_ret
    exact ⟨by rw [HE.out]; rfl, rfl⟩
def IdxPost (w : World) (zs : List Int) (e : Ending) (w' : World) : Prop := ∃ i : Int, e = .returned (.int .i64 i) ∧ ((i = -1 ∧ ∀ c ∈ zs, badC c = false) ∨ (0 ≤ i ∧ ∃ c ∈ zs, badC c = true)) ∧ w = w'
set_option maxHeartbeats 4000000 in
set_option maxRecDepth 100000 in
theorem index_bad (w : World) (B : Nat) (A : Option Addr) (n c : Nat) (zs : List Int) (h : Sl w B (.slice A n c) zs) (hl : n ≤ 1000000000) : Calls Tryd.prog 64 #[.slice A n c, .func (.func 34) #[] #[]] w (IdxPost w zs) := by
  have HS := Aside0.mk h
  have HL := Aside0.mk hl
  have HN := Aside0.mk h.len.1
  clear h hl
  go_enter Tryd.func64, Tryd.ntmps64
  go_upto_region 2 with (fail)
  go_loopg [8] n (fun gk v8 w' => ∃ k : Nat, v8 = .int .i64 (k : Int) ∧ Aside0 (k + gk = n) ∧ Aside0 (∀ j, j < k → badC (zs.getD j 0) = false) ∧ w = w')
  case atStart => exact ⟨0, rfl, ⟨by omega⟩, ⟨fun j hj => absurd hj (Nat.not_lt_zero _)⟩, rfl⟩
  case round =>
    obtain ⟨k, rfl, HK, HF, rfl⟩ := hrel
    cases gk with
    | succ k1 =>
      have hk : k < n := by have := HK.out; omega
      obtain ⟨ad, rfl, cc, -⟩ := HS.out.at_ k hk
      obtain ⟨x, hx⟩ : ∃ x, x = zs.getD k 0 := ⟨_, rfl⟩
      rw [← hx] at cc
      have HX := Aside0.mk hx
      have HB := Aside0.mk (bad_calls w x)
      have dlt : decide (k < n) = true := by simpa using hk
      have hkb : (k : Int) ≤ 1000000000 := by have := HL.out; omega
      clear hx
      cases hb : badC x
      · rw [hb] at HB
        have HBX := Aside0.mk hb
        clear hb
        go_wp2_with (go_at_call 34; (with_reducible refine HB.out.mono ?_); rintro e w2 ⟨rfl, rfl⟩)
        go_roundg k1
        case measure => omega
        case rel =>
          refine ⟨k + 1, by go_num, ⟨by have := HK.out; omega⟩, ⟨fun j hj => ?_⟩, rfl⟩
          by_cases hjk : j < k
          · exact HF.out j hjk
          · obtain rfl : j = k := by omega
            rw [← HX.out]
            exact HBX.out
      · rw [hb] at HB
        have HBX := Aside0.mk hb
        clear hb
        go_wp2_with (go_at_call 34; (with_reducible refine HB.out.mono ?_); rintro e w2 ⟨rfl, rfl⟩)
        go_returns
        refine ⟨k, rfl, .inr ⟨by omega, x, ?_, HBX.out⟩, rfl⟩
        have hkz : k < zs.length := by rw [← HN.out]; exact hk
        rw [HX.out, List.getD_eq_getElem?_getD, List.getElem?_eq_getElem hkz]
        exact List.getElem_mem hkz
    | zero =>
      obtain rfl : k = n := by have := HK.out; omega
      have dlt : decide (k < k) = false := by simp
      go_wp2_with fail
      go_returns
      refine ⟨-1, rfl, .inl ⟨rfl, fun c hc => ?_⟩, rfl⟩
      obtain ⟨i, hi, rfl⟩ := List.getElem_of_mem hc
      have := HF.out i (by rw [HN.out]; exact hi)
      rw [List.getD_eq_getElem?_getD, List.getElem?_eq_getElem hi] at this
      exact this
set_option maxHeartbeats 4000000 in
set_option maxRecDepth 100000 in
theorem contains_no (w : World) (B : Nat) (A : Option Addr) (n c : Nat) (zs : List Int) (h : Sl w B (.slice A n c) zs) (hl : n ≤ 1000000000) (ha : ∀ c ∈ zs, badC c = false) : Calls Tryd.prog 33 #[.slice A n c, .func (.func 34) #[] #[]] w fun e w' => e = .returned (.bool false) ∧ w = w' := by
  have hi := index_bad w B A n c zs h hl
  have HI := Aside0.mk (hi.mono (R' := fun e w' => e = .returned (.int .i64 (-1)) ∧ w = w') fun e w' ⟨i, h1, h2, h3⟩ => by
    rcases h2 with ⟨rfl, -⟩ | ⟨-, c, hc, hb⟩
    · exact ⟨h1, h3⟩
    · rw [ha c hc] at hb; cases hb)
  clear h hl ha hi
  go_enter Tryd.func33, Tryd.ntmps33
  go_wp2_with (go_at_call 64; (with_reducible refine HI.out.mono ?_); rintro e w2 ⟨rfl, rfl⟩)
  go_returns
  exact ⟨rfl, rfl⟩
set_option maxHeartbeats 4000000 in
set_option maxRecDepth 100000 in
theorem contains_yes (w : World) (B : Nat) (A : Option Addr) (n c : Nat) (zs : List Int) (h : Sl w B (.slice A n c) zs) (hl : n ≤ 1000000000) (ha : ¬ ∀ c ∈ zs, badC c = false) : Calls Tryd.prog 33 #[.slice A n c, .func (.func 34) #[] #[]] w fun e w' => e = .returned (.bool true) ∧ w = w' := by
  have hi := index_bad w B A n c zs h hl
  have HI := Aside0.mk (hi.mono (R' := fun e w' => ∃ i : Int, e = .returned (.int .i64 i) ∧ 0 ≤ i ∧ w = w') fun e w' ⟨i, h1, h2, h3⟩ => by
    rcases h2 with ⟨-, h⟩ | ⟨h0, -⟩
    · exact absurd h ha
    · exact ⟨i, h1, h0, h3⟩)
  clear h hl ha hi
  go_enter Tryd.func33, Tryd.ntmps33
  go_wp2_with (go_at_call 64; (with_reducible refine HI.out.mono ?_); rintro e w2 ⟨i, rfl, h0, rfl⟩)
  go_returns
  exact ⟨rfl, rfl⟩
set_option maxHeartbeats 4000000 in
set_option maxRecDepth 100000 in
theorem clone32 (w : World) (B : Nat) (v : Value) (zs : List Int) (h : Sl w B v zs) (hB : B ≤ w.heap.size) (hl : zs.length ≤ 4000000000) : Calls Tryd.prog 32 #[v] w fun e w' => ∃ v', e = .returned v' ∧ Sl w' w'.heap.size v' zs ∧ Below w.heap.size w w' := by
  obtain ⟨A, m, c, rfl, hm⟩ := h.formv
  cases A with
  | none =>
    have h0 : m = 0 := by
      rcases Nat.eq_zero_or_pos m with h0 | h0
      · exact h0
      · obtain ⟨ad, e, -⟩ := h.at_ 0 h0
        cases e
    subst h0
    obtain rfl : zs = [] := List.length_eq_zero_iff.1 hm.symm
    have hn : ∀ W : World, (binOp .eql 22 (.slice none 0 c) (.slice none 0 0)).run Tryd.prog W = .ok (.bool true) W := fun W => Lib.run_eql_slice_nil W 22 5 none 0 c 0 0 Tryd.underlying22
    clear h hl hm hB
    go_enter Tryd.func32, Tryd.ntmps32
    go_wp2_with fail
    go_returns
    exact ⟨_, rfl, Sl.nil _ _, Below.refl _ _⟩
  | some ad =>
    have hn : ∀ W : World, (binOp .eql 22 (.slice (some ad) m c) (.slice none 0 0)).run Tryd.prog W = .ok (.bool false) W := fun W => Lib.run_eql_slice_nil W 22 5 (some ad) m c 0 0 Tryd.underlying22
    have hal := below_alloc (Below.refl w.heap.size w) (.cells #[] 5)
    have ho : Ow (w.alloc (.cells #[] 5)) w.heap.size (.slice (some ⟨w.heap.size, 0, none⟩) 0 0) [] := Ow.mk' (Nat.le_refl _) (blk_new w (.cells #[] 5)) (Nat.le_refl _) (by unfold maxLen; simp) rfl rfl
    obtain ⟨v1, w1, hq, ho1, hg, -⟩ := ho.append_sl (h.below (hal.mono hB)) hal.size (by simp; omega) 22
    have HO := Aside0.mk ho1
    have HQ := Aside0.mk hq
    have HL := Aside0.mk hl
    have HG := Aside0.mk (pw_below_grown hal _ hal.size hg (fun k hk => by injection hk with hk; exact Nat.le_of_eq hk))
    clear h hm hal ho hq ho1 hg hl hB
    go_enter Tryd.func32, Tryd.ntmps32
    go_wp2_with (at_builtin; refine wpList_append_own_run rfl _ _ 22 rfl _ _ _ _ rfl rfl HQ.out ?_)
    go_returns
    exact ⟨_, rfl, by have := HO.out.sl (by simpa using HL.out); rw [List.nil_append] at this; exact this, HG.out⟩
theorem good_text {l : List Int} (h : ∀ c ∈ 34 :: (l ++ [34]), badC c = false) : 92 ∉ l ∧ ∀ c ∈ l, prn c = true := by
  have hg : ∀ c ∈ l, badC c = false := fun c hc => h c (List.mem_cons_of_mem _ (List.mem_append_left _ hc))
  refine ⟨fun hm => ?_, fun c hc => ?_⟩
  · have := hg 92 hm
    revert this; decide
  · have := hg c hc
    unfold badC at this
    simp only [Bool.or_eq_false_iff, decide_eq_false_iff_not, beq_eq_false_iff_ne] at this
    unfold prn
    simp only [Bool.and_eq_true, decide_eq_true_eq]
    omega
/-- What the law's text is. -/
theorem text_all {code : List Int} (h : Bytes code) : ∃ l, (textF code).1 = 34 :: (l ++ [34]) ∧ Str l ∧ Unq l (textF code).2.1 ∧ l.length ≤ 80 ∧ (textF code).2.1.length ≤ 240 := by
  have hb := (byteF_in h).2.2
  have hl := text_len code
  have hu := signs_unq ((byteF code).1 % 7).toNat _ hb
  have h2 := hu.len
  refine ⟨_, rfl, (signs_str _ hb).1, hu, ?_, ?_⟩
  · have h3 : (34 :: ((signsF ((byteF code).1 % 7).toNat (byteF code).2).1 ++ [34])).length ≤ 80 := hl
    simp at h3
    omega
  · have h3 : (34 :: ((signsF ((byteF code).1 % 7).toNat (byteF code).2).1 ++ [34])).length ≤ 80 := hl
    simp at h3
    show (signsF ((byteF code).1 % 7).toNat (byteF code).2).2.1.length ≤ 240
    omega
set_option maxHeartbeats 8000000 in
set_option maxRecDepth 100000 in
theorem law_texts (w : World) (v1 v2 : Value) (code ah : List Int) (h1 : Sl w w.heap.size v1 code) (h2 : Sl w w.heap.size v2 ah) (hb1 : Bytes code) (hb2 : Bytes ah) (ht : Tab w) :
    Calls Tryd.prog 13 #[v1, v2] w fun e w' => e = .returned (.bool true) ∧ Below w.heap.size w w' := by
  obtain ⟨A1, c1, rfl, -⟩ := h1.form
  obtain ⟨A2, c2, rfl, -⟩ := h2.form
  obtain ⟨n1, hn1⟩ : ∃ n1, n1 = code.length := ⟨_, rfl⟩
  rw [← hn1] at h1 ⊢
  have hx1 : n1 ≤ 9223372036854775807 := by rw [hn1]; have := h1.cut.2.2.1.2.1; omega
  obtain ⟨n2, hn2⟩ : ∃ n2, n2 = ah.length := ⟨_, rfl⟩
  rw [← hn2] at h2 ⊢
  have hx2 : n2 ≤ 9223372036854775807 := by rw [hn2]; have := h2.cut.2.2.1.2.1; omega
  by_cases hs1 : 2147483647 < n1
  · clear h1 hb1 hn1 h2 hb2 hn2 ht
    go_enter Tryd.func13, Tryd.ntmps13
    go_wp2_with fail
    go_returns
    exact ⟨rfl, Below.refl _ _⟩
  by_cases hs2 : 2147483647 < n2
  · have hm1 : ¬ (2147483647 : Int) < (n1 : Int) := by omega
    clear h1 hb1 hn1 h2 hb2 hn2 ht
    go_enter Tryd.func13, Tryd.ntmps13
    go_wp2_with fail
    go_returns
    exact ⟨rfl, Below.refl _ _⟩
  have hm1 : ¬ (2147483647 : Int) < (n1 : Int) := by omega
  have hm2 : ¬ (2147483647 : Int) < (n2 : Int) := by omega
  obtain ⟨l, hz, hstr, hu, hll, hml⟩ := text_all hb1
  have hal := below_alloc (Below.refl w.heap.size w) (.cells #[.slice A1 n1 c1, .int .i64 0] 45)
  have htx := text_calls (w.alloc (.cells #[.slice A1 n1 c1, .int .i64 0] 45)) w.heap.size w.heap.size code 0 (Nat.le_refl _) ⟨_, blk_new w _, h1.below hal, hb1⟩
  obtain ⟨m, hm⟩ : ∃ m, m = (textF code).2.1 := ⟨_, rfl⟩
  obtain ⟨z, hzz⟩ : ∃ z, z = 34 :: (l ++ [34]) := ⟨_, rfl⟩
  have HTX := Aside0.mk (htx.mono (R' := fun e w' => e = .returned (.tuple #[.string (strOfNums z), .string (strOfNums m)]) ∧ Below w.heap.size w w') fun e w' ⟨g1, g2, g3⟩ => ⟨by rw [g1, hz, hzz, hm], hal.trans g3.below⟩)
  rw [← hm] at hu hml
  have HT := Aside0.mk ht
  have HA := Aside0.mk (fun (W : World) (hW : Below w.heap.size w W) => jsBlanks_calls W w.heap.size (.slice A2 n2 c2) ah (h2.below hW))
  obtain ⟨bs, hbs⟩ : ∃ bs, bs = ah.take 20 := ⟨_, rfl⟩
  have HBL := Aside0.mk (show bs.length ≤ 20 by rw [hbs, List.length_take]; omega)
  rw [← hbs] at HA
  have HZ := Aside0.mk (show Bytes z ∧ z.length ≤ 100 by rw [hzz]; exact ⟨(Plain.str hstr).bytes, by simp; omega⟩)
  have HP1 := Aside0.mk (fun (W : World) (A : Option Addr) (n c : Nat) (hW : Below w.heap.size w W) (hs : Sl W W.heap.size (.slice A n c) z) => jsText_calls W A n c l m hstr hu (hzz ▸ hs) (by omega) (HT.out.below hW))
  have HP2 := Aside0.mk (fun (W : World) (A : Option Addr) (n c : Nat) (hW : Below w.heap.size w W) (hs : Sl W W.heap.size (.slice A n c) z) => jsUnquote_calls W A n c l m hstr hu (hzz ▸ hs) (by omega) (HT.out.below hW))
  have HP3 := Aside0.mk (fun (W : World) (bv : Value) (xs : List Int) (A : Option Addr) (n c : Nat) (hW : Below w.heap.size w W) (hb : Sl W W.heap.size bv xs) (hx : xs = [] ∨ ∀ c ∈ z, badC c = false) (hxl : xs.length ≤ 20) (hs : Sl W W.heap.size (.slice A n c) z) => jsAppend_calls W bv xs A n c l m hstr hu hb (hzz ▸ hs) (hx.imp id fun h => good_text (hzz ▸ h)) (by omega) (by omega) (HT.out.below hW))
  have q1 : ∀ xs : List Int, xs.length ≤ 20 → ¬ (9223372036854775807 < (strOfNums xs).size + (strOfNums m).size) := fun xs hx => by rw [str_size, str_size]; omega
  have Q1 := Aside0.mk (q1 bs HBL.out)
  have Q0 := Aside0.mk (q1 [] (by simp))
  have HGD := Aside0.mk (Classical.em (∀ c ∈ z, badC c = false))
  clear hz hstr hu hll hml hal htx hm hzz ht h1 h2 hb1 hb2 hn1 hn2 hs1 hs2 hbs q1
  go_enter Tryd.func13, Tryd.ntmps13
  go_upto_region 6 with (first
    | (go_at_call 31; (with_reducible refine HTX.out.mono ?_); rintro e w2 ⟨rfl, hb⟩; have HB2 := Aside0.mk hb; clear hb)
    | (go_at_call 20; (with_reducible refine (HA.out _ HB2.out).mono ?_); rintro e w3 ⟨v3, rfl, hv, rfl⟩; have HV3 := Aside0.mk hv; clear hv)
    | (go_at_call 32; (with_reducible refine (clone32 _ _ _ _ HV3.out HB2.out.size (by have := HBL.out; omega)).mono ?_); rintro e w4 ⟨v4, rfl, hv, hb⟩; obtain ⟨A4, m4, c4, rfl, hm4⟩ := hv.formv; have HV4 := Aside0.mk hv; have HB4 := Aside0.mk (HB2.out.trans (hb.mono HB2.out.size)); clear hv hb hm4))
  rcases HGD.out with hg | hg
  · have HG := Aside0.mk hg
    clear hg HGD
    obtain ⟨cz, w5, hcv, hsl5, hb5⟩ := text_bytes w4 z HZ.out.1 (by have := HZ.out.2; omega)
    have HB5 := Aside0.mk (HB4.out.trans (hb5.mono HB4.out.size))
    have HV5 := Aside0.mk ((HV4.out.below hb5).grow hb5.size)
    have HC5 := Aside0.mk (contains_no w5 _ _ _ _ z hsl5 (by have := HZ.out.2; omega) HG.out)
    clear hsl5 hb5
    go_upto_region 8 with (go_at_call 33; (with_reducible refine HC5.out.mono ?_); rintro e w6 ⟨rfl, rfl⟩)
    clear hcv
    obtain ⟨w6, hw6⟩ : ∃ w6, w6 = w5 := ⟨_, rfl⟩
    rw [← hw6] at HB5 HV5 ⊢
    clear hw6
    obtain ⟨cz2, w7, hcv, hsl7, hb7⟩ := text_bytes w6 z HZ.out.1 (by have := HZ.out.2; omega)
    have HB7 := Aside0.mk (HB5.out.trans (hb7.mono HB5.out.size))
    have HV7 := Aside0.mk (HV5.out.below hb7)
    have HZ7 := Aside0.mk hb7.size
    have HQ1 := Aside0.mk (HP1.out w7 _ _ _ HB7.out hsl7)
    clear hsl7 hb7
    go_upto_region 9 with (go_at_call 28; (with_reducible refine HQ1.out.mono ?_); rintro e w8 ⟨u1, rfl, hu1, hb⟩; obtain ⟨A8, m8, c8, rfl, hm8⟩ := hu1.formv; have HU1 := Aside0.mk hu1; have HB8 := Aside0.mk (HB7.out.trans (hb.mono HB7.out.size)); have HV8 := Aside0.mk ((HV7.out.grow HZ7.out).below hb); have HS78 := Aside0.mk hb.size; clear hb hu1 hm8)
    clear hcv
    obtain ⟨cz3, w9, hcv, hsl9, hb9⟩ := text_bytes w8 z HZ.out.1 (by have := HZ.out.2; omega)
    have HB9 := Aside0.mk (HB8.out.trans (hb9.mono HB8.out.size))
    have HU9 := Aside0.mk (HU1.out.below hb9)
    have HV9 := Aside0.mk ((HV8.out.grow HS78.out).below hb9)
    have HZ9 := Aside0.mk hb9.size
    have HQ2 := Aside0.mk (HP2.out w9 _ _ _ HB9.out hsl9)
    clear hsl9 hb9
    go_upto_region 10 with (go_at_call 29; (with_reducible refine HQ2.out.mono ?_); rintro e w10 ⟨u2, rfl, hu2, hb⟩; obtain ⟨A10, m10, c10, rfl, hm10⟩ := hu2.formv; have HU2 := Aside0.mk hu2; have HB10 := Aside0.mk (HB9.out.trans (hb.mono HB9.out.size)); have HU10 := Aside0.mk ((HU9.out.grow HZ9.out).below hb); have HV10 := Aside0.mk ((HV9.out.grow HZ9.out).below hb); have HZ10 := Aside0.mk hb.size; clear hb hu2 hm10)
    clear hcv
    obtain ⟨cz4, w11, hcv, hsl11, hb11⟩ := text_bytes w10 z HZ.out.1 (by have := HZ.out.2; omega)
    have HB11 := Aside0.mk (HB10.out.trans (hb11.mono HB10.out.size))
    have HU11 := Aside0.mk (((HU10.out.grow HZ10.out).below hb11).grow hb11.size)
    have HU12 := Aside0.mk ((HU2.out.below hb11).grow hb11.size)
    have HV11 := Aside0.mk (((HV10.out.grow HZ10.out).below hb11).grow hb11.size)
    have HQ3 := Aside0.mk (HP3.out w11 (.slice A4 m4 c4) bs _ _ _ HB11.out HV11.out (.inr HG.out) HBL.out hsl11)
    clear hsl11 hb11
    go_upto_region 11 with (go_at_call 35; (with_reducible refine HQ3.out.mono ?_); rintro e w12 ⟨u3, rfl, hu3, hb⟩; obtain ⟨A12, m12, c12, rfl, hm12⟩ := hu3.formv; have hcA := (HU11.out.below hb).text (src := 22) (dst := 9) Tryd.underlying22 Tryd.underlying9; have hcB := (HU12.out.below hb).text (src := 22) (dst := 9) Tryd.underlying22 Tryd.underlying9; have hcC := hu3.text (src := 22) (dst := 9) Tryd.underlying22 Tryd.underlying9; have hcD := (HV11.out.below hb).text (src := 22) (dst := 9) Tryd.underlying22 Tryd.underlying9; have HB12 := Aside0.mk (HB11.out.trans (hb.mono HB11.out.size)); clear hb hu3 hm12)
    clear hcv
    rw [strOf_append] at hcC
    have q1 := Q1.out
    go_wp2_with (go_at_call 19; (with_reducible refine (awake_calls _ (HT.out.below HB12.out)).mono ?_); rintro e wz ⟨rfl, hbz⟩; have HBZ := Aside0.mk (HB12.out.trans (hbz.mono (HB12.out).size)); clear hbz)
    go_returns
    exact ⟨rfl, HBZ.out⟩
  · have HG := Aside0.mk hg
    clear hg HGD
    obtain ⟨cz, w5, hcv, hsl5, hb5⟩ := text_bytes w4 z HZ.out.1 (by have := HZ.out.2; omega)
    have HB5 := Aside0.mk (HB4.out.trans (hb5.mono HB4.out.size))
    have HV5 := Aside0.mk (Sl.nil w5 w5.heap.size)
    have HC5 := Aside0.mk (contains_yes w5 _ _ _ _ z hsl5 (by have := HZ.out.2; omega) HG.out)
    clear hsl5 hb5
    go_upto_region 8 with (go_at_call 33; (with_reducible refine HC5.out.mono ?_); rintro e w6 ⟨rfl, rfl⟩)
    clear hcv
    obtain ⟨w6, hw6⟩ : ∃ w6, w6 = w5 := ⟨_, rfl⟩
    rw [← hw6] at HB5 HV5 ⊢
    clear hw6
    obtain ⟨cz2, w7, hcv, hsl7, hb7⟩ := text_bytes w6 z HZ.out.1 (by have := HZ.out.2; omega)
    have HB7 := Aside0.mk (HB5.out.trans (hb7.mono HB5.out.size))
    have HV7 := Aside0.mk (HV5.out.below hb7)
    have HZ7 := Aside0.mk hb7.size
    have HQ1 := Aside0.mk (HP1.out w7 _ _ _ HB7.out hsl7)
    clear hsl7 hb7
    go_upto_region 9 with (go_at_call 28; (with_reducible refine HQ1.out.mono ?_); rintro e w8 ⟨u1, rfl, hu1, hb⟩; obtain ⟨A8, m8, c8, rfl, hm8⟩ := hu1.formv; have HU1 := Aside0.mk hu1; have HB8 := Aside0.mk (HB7.out.trans (hb.mono HB7.out.size)); have HV8 := Aside0.mk ((HV7.out.grow HZ7.out).below hb); have HS78 := Aside0.mk hb.size; clear hb hu1 hm8)
    clear hcv
    obtain ⟨cz3, w9, hcv, hsl9, hb9⟩ := text_bytes w8 z HZ.out.1 (by have := HZ.out.2; omega)
    have HB9 := Aside0.mk (HB8.out.trans (hb9.mono HB8.out.size))
    have HU9 := Aside0.mk (HU1.out.below hb9)
    have HV9 := Aside0.mk ((HV8.out.grow HS78.out).below hb9)
    have HZ9 := Aside0.mk hb9.size
    have HQ2 := Aside0.mk (HP2.out w9 _ _ _ HB9.out hsl9)
    clear hsl9 hb9
    go_upto_region 10 with (go_at_call 29; (with_reducible refine HQ2.out.mono ?_); rintro e w10 ⟨u2, rfl, hu2, hb⟩; obtain ⟨A10, m10, c10, rfl, hm10⟩ := hu2.formv; have HU2 := Aside0.mk hu2; have HB10 := Aside0.mk (HB9.out.trans (hb.mono HB9.out.size)); have HU10 := Aside0.mk ((HU9.out.grow HZ9.out).below hb); have HV10 := Aside0.mk ((HV9.out.grow HZ9.out).below hb); have HZ10 := Aside0.mk hb.size; clear hb hu2 hm10)
    clear hcv
    obtain ⟨cz4, w11, hcv, hsl11, hb11⟩ := text_bytes w10 z HZ.out.1 (by have := HZ.out.2; omega)
    have HB11 := Aside0.mk (HB10.out.trans (hb11.mono HB10.out.size))
    have HU11 := Aside0.mk (((HU10.out.grow HZ10.out).below hb11).grow hb11.size)
    have HU12 := Aside0.mk ((HU2.out.below hb11).grow hb11.size)
    have HV11 := Aside0.mk (((HV10.out.grow HZ10.out).below hb11).grow hb11.size)
    have HQ3 := Aside0.mk (HP3.out w11 (.slice none 0 0) [] _ _ _ HB11.out HV11.out (.inl rfl) (by simp) hsl11)
    clear hsl11 hb11
    go_upto_region 11 with (go_at_call 35; (with_reducible refine HQ3.out.mono ?_); rintro e w12 ⟨u3, rfl, hu3, hb⟩; obtain ⟨A12, m12, c12, rfl, hm12⟩ := hu3.formv; have hcA := (HU11.out.below hb).text (src := 22) (dst := 9) Tryd.underlying22 Tryd.underlying9; have hcB := (HU12.out.below hb).text (src := 22) (dst := 9) Tryd.underlying22 Tryd.underlying9; have hcC := hu3.text (src := 22) (dst := 9) Tryd.underlying22 Tryd.underlying9; have hcD := (HV11.out.below hb).text (src := 22) (dst := 9) Tryd.underlying22 Tryd.underlying9; have HB12 := Aside0.mk (HB11.out.trans (hb.mono HB11.out.size)); clear hb hu3 hm12)
    clear hcv
    rw [strOf_append] at hcC
    have q1 := Q0.out
    go_wp2_with (go_at_call 19; (with_reducible refine (awake_calls _ (HT.out.below HB12.out)).mono ?_); rintro e wz ⟨rfl, hbz⟩; have HBZ := Aside0.mk (HB12.out.trans (hbz.mono (HB12.out).size)); clear hbz)
    go_returns
    exact ⟨rfl, HBZ.out⟩
end Go.Proofs.YtekmminmgjoabaaDoor.Js

