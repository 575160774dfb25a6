/- Strings are parsed: the first mark is found. -/
import Derived.Test.YtekmminmgjoabaaDoorYRe
namespace Go.Proofs.YtekmminmgjoabaaDoor.Js
open Go.RowKit Go.Proofs.YtekmminmgjoabaaDoorW.PrintWords Go.Proofs.YtekmminmgjoabaaDoorW.PrintLast Go.Proofs.YtekmminmgjoabaaDoorW.PrintMore Go.Proofs.YtekmminmgjoabaaDoor.PFnJSTokens
set_option linter.unusedVariables false
set_option linter.unusedSimpArgs false
/-- Eight bytes, from the o-th on. -/
def oct (zs : List Int) (o : Nat) : List Nat := [(zs.getD o 0).toNat, (zs.getD (o + 1) 0).toNat, (zs.getD (o + 2) 0).toNat, (zs.getD (o + 3) 0).toNat, (zs.getD (o + 4) 0).toNat, (zs.getD (o + 5) 0).toNat, (zs.getD (o + 6) 0).toNat, (zs.getD (o + 7) 0).toNat]
theorem getD_bytes {zs : List Int} (hb : Bytes zs) (i : Nat) : 0 ≤ zs.getD i 0 ∧ zs.getD i 0 ≤ 255 := by
  rw [List.getD_eq_getElem?_getD]
  rcases Nat.lt_or_ge i zs.length with h | h
  · rw [List.getElem?_eq_getElem h]
    exact hb _ (List.getElem_mem h)
  · rw [List.getElem?_eq_none h]
    exact ⟨Int.le_refl _, by decide⟩
theorem oct_lt {zs : List Int} (hb : Bytes zs) (o : Nat) : ∀ b ∈ oct zs o, b < 256 := by
  intro b h
  have g := fun i => getD_bytes hb i
  simp only [oct, List.mem_cons, List.not_mem_nil, or_false] at h
  rcases h with rfl | rfl | rfl | rfl | rfl | rfl | rfl | rfl
  · have := g o; omega
  · have := g (o + 1); omega
  · have := g (o + 2); omega
  · have := g (o + 3); omega
  · have := g (o + 4); omega
  · have := g (o + 5); omega
  · have := g (o + 6); omega
  · have := g (o + 7); omega
theorem oct_get (zs : List Int) (o k : Nat) (hk : k < 8) : (oct zs o).getD k 0 = (zs.getD (o + k) 0).toNat := by
  rcases (by omega : k = 0 ∨ k = 1 ∨ k = 2 ∨ k = 3 ∨ k = 4 ∨ k = 5 ∨ k = 6 ∨ k = 7) with rfl | rfl | rfl | rfl | rfl | rfl | rfl | rfl <;> rfl
theorem oct_mark {zs : List Int} (hb : Bytes zs) (o k : Nat) (hk : k < 8) : (oct zs o).getD k 0 = 34 ↔ zs.getD (o + k) 0 = 34 := by
  rw [oct_get zs o k hk]
  have := getD_bytes hb (o + k)
  omega
theorem le_calls (w : World) (B : Nat) (A : Option Addr) (n c : Nat) (zs ys : List Int) (o : Nat) (hz : ys = zs.drop o) (h : Sl w B (.slice A n c) ys) (hb : Bytes zs) (h8 : o + 8 ≤ zs.length) :
    Calls Tryd.prog 114 #[.agg #[], .slice A n c] w fun e w' => e = .returned (.int .u64 ((w8 (oct zs o) : Nat) : Int)) ∧ Below w.heap.size w w' := by
  obtain ⟨hn, hc⟩ := h.len
  have hyl : ys.length = zs.length - o := by rw [hz, List.length_drop]
  have hg : ∀ j, ys.getD j 0 = zs.getD (o + j) 0 := fun j => by
    rw [hz, List.getD_eq_getElem?_getD, List.getElem?_drop, ← List.getD_eq_getElem?_getD]
  have cf : ∀ j, j < 8 → ∃ ad, A = some ad ∧ w.cell? (ad.add j) = some (.int .u8 (((zs.getD (o + j) 0).toNat : Nat) : Int)) := fun j hj => by
    obtain ⟨ad, e1, e2, -⟩ := h.at_ j (by omega)
    refine ⟨ad, e1, ?_⟩
    rw [e2, hg j]
    have := getD_bytes hb (o + j)
    rw [Int.toNat_of_nonneg this.1]
  obtain ⟨ad, rfl, c0⟩ := cf 0 (by omega)
  have cg : ∀ j, j < 8 → w.cell? (ad.add j) = some (.int .u8 (((zs.getD (o + j) 0).toNat : Nat) : Int)) := fun j hj => by
    obtain ⟨ad', e1, e2⟩ := cf j hj
    obtain rfl : ad = ad' := by injection e1
    exact e2
  have hl := fun j => getD_bytes hb (o + j)
  have l0 := hl 0
  have l1 := hl 1
  have l2 := hl 2
  have l3 := hl 3
  have l4 := hl 4
  have l5 := hl 5
  have l6 := hl 6
  have l7 := hl 7
  exact uint64 ad n c _ _ _ _ _ _ _ _ w (by omega) (by rw [Nat.add_zero] at l0; omega) (by omega) (by omega) (by omega) (by omega) (by omega) (by omega) (by omega)
    c0 (cg 1 (by omega)) (cg 2 (by omega)) (cg 3 (by omega)) (cg 4 (by omega)) (cg 5 (by omega)) (cg 6 (by omega)) (cg 7 (by omega))
theorem not_nat (u : Nat) (h : u < 2 ^ 64) : (2 ^ 64 - 1) ^^^ u = 2 ^ 64 - 1 - u := by
  apply Nat.eq_of_testBit_eq
  intro i
  rw [Nat.testBit_xor, Nat.testBit_two_pow_sub_one, show 2 ^ 64 - 1 - u = 2 ^ 64 - (u + 1) by omega, Nat.testBit_two_pow_sub_succ h]
  by_cases hi : i < 64
  · simp [hi]
  · have : u.testBit i = false := Nat.testBit_lt_two_pow (Nat.lt_of_lt_of_le h (Nat.pow_le_pow_right (by omega) (by omega)))
    simp [hi, this]
/-- The mask as the program reckons it. -/
def hackZ (V : Int) : Int := Go.bits .and .u64 (Go.bits .and .u64 (IntKind.u64.wrap (Go.bits .xor .u64 V 2459565876494606882 - 72340172838076673)) (Go.bits .xor .u64 (if IntKind.u64.signed = true then -1 else IntKind.u64.max) (Go.bits .xor .u64 V 2459565876494606882))) 9259542123273814144
theorem hackZ_eq {L : List Nat} (hl : L.length = 8) (hb : ∀ b ∈ L, b < 256) : hackZ ((w8 L : Nat) : Int) = ((hack L : Nat) : Int) := by
  have hw : w8 L < 2 ^ 64 := by have := w8_lt L hb; rw [hl] at this; exact this
  have hx : w8 L ^^^ 2459565876494606882 < 2 ^ 64 := Nat.xor_lt_two_pow hw (by decide)
  unfold hackZ hack
  rw [show (if IntKind.u64.signed = true then (-1 : Int) else IntKind.u64.max) = 18446744073709551615 from rfl]
  rw [xor_nat _ _ (by omega) (by omega) (by decide) (by decide)]
  rw [show (((w8 L : Nat) : Int)).toNat = w8 L from Int.toNat_natCast _, show ((2459565876494606882 : Int)).toNat = 2459565876494606882 from rfl]
  generalize w8 L ^^^ 2459565876494606882 = u at *
  rw [xor_nat _ _ (by decide) (by decide) (by omega) (by omega), show ((18446744073709551615 : Int)).toNat = 2 ^ 64 - 1 from rfl, Int.toNat_natCast, not_nat u hx]
  rw [show IntKind.u64.wrap ((u : Int) - 72340172838076673) = (((u + 2 ^ 64 - 72340172838076673) % 2 ^ 64 : Nat) : Int) by rw [IntKind.wrap_u64]; omega]
  have hin := and_nat (((u + 2 ^ 64 - 72340172838076673) % 2 ^ 64 : Nat) : Int) ((2 ^ 64 - 1 - u : Nat) : Int) (by omega) (by omega) (by omega) (by omega)
  rw [Int.toNat_natCast, Int.toNat_natCast] at hin
  rw [hin]
  have h2 : ((u + 2 ^ 64 - 72340172838076673) % 2 ^ 64 &&& 2 ^ 64 - 1 - u) < 2 ^ 64 := Nat.and_lt_two_pow _ (by omega)
  rw [and_nat _ _ (by omega) (by omega) (by decide) (by decide), Int.toNat_natCast]
  rfl
theorem low_eq (H : Nat) (h : H < 2 ^ 64) (h0 : H ≠ 0) : Go.bits .and .u64 (H : Int) (IntKind.u64.wrap (-(H : Int))) = ((H &&& (2 ^ 64 - H) : Nat) : Int) := by
  have e : IntKind.u64.wrap (-(H : Int)) = ((2 ^ 64 - H : Nat) : Int) := by rw [IntKind.wrap_u64]; omega
  rw [e, and_nat _ _ (by omega) (by omega) (by omega) (by omega), Int.toNat_natCast, Int.toNat_natCast]
/-- The first mark lies among eight bytes, or behind them. -/
theorem oct_cases {zs : List Int} (hb : Bytes zs) {k : Nat} (hk : FirstAt zs k) (o : Nat) (ho : 1 ≤ o) (hlo : o < k) :
    (k ≤ o + 8 ∧ hack (oct zs o) ≠ 0 ∧ hack (oct zs o) &&& (2 ^ 64 - hack (oct zs o)) = 2 ^ (8 * (k - 1 - o) + 7)) ∨ (o + 8 < k ∧ hack (oct zs o) = 0) := by
  have hl : (oct zs o).length = 8 := rfl
  by_cases h : k ≤ o + 8
  · have hj : k - 1 - o < 8 := by omega
    have := hack_first hl (oct_lt hb o) (k - 1 - o) hj ((oct_mark hb o _ hj).2 (by rw [show o + (k - 1 - o) = k - 1 by omega]; exact hk.mark)) (fun i hi => fun e => hk.none (o + i) (by omega) (by omega) ((oct_mark hb o i (by omega)).1 e))
    exact .inl ⟨h, this.2, this.1⟩
  · exact .inr ⟨by omega, hack_none hl (oct_lt hb o) (fun i hi => fun e => hk.none (o + i) (by omega) (by omega) ((oct_mark hb o i hi).1 e))⟩
/-- There is a first mark. -/
theorem first_is {zs l : List Int} {e : Nat} (h : StrAt zs e 1 l) : ∃ k, FirstAt zs k := by
  have hf := h.fit
  have hlt := h.lt
  have key : ∀ d j, 1 ≤ j → j ≤ e → e - j ≤ d → (∀ i, 1 ≤ i → i < j → zs.getD i 0 ≠ 34) → ∃ k, FirstAt zs k := by
    intro d
    induction d with
    | zero =>
      intro j h1 h2 h3 h4
      obtain rfl : j = e := by omega
      exact ⟨j + 1, by omega, by omega, by simpa using h.mark, fun i a b => h4 i a (by omega)⟩
    | succ d ih =>
      intro j h1 h2 h3 h4
      by_cases hj : zs.getD j 0 = 34
      · exact ⟨j + 1, by omega, by omega, by simpa using hj, fun i a b => h4 i a (by omega)⟩
      · by_cases hje : j = e
        · subst hje; exact absurd h.mark hj
        · exact ih (j + 1) (by omega) (by omega) (by omega) (fun i a b => by
            by_cases hij : i = j
            · rw [hij]; exact hj
            · exact h4 i a (by omega))
  exact key e 1 (by omega) (by omega) (by omega) (fun i a b => by omega)
theorem idx_at (c : Int) : ∀ (l : List Int) (i : Nat), i < l.length → l.getD i 0 = c → (∀ j, j < i → l.getD j 0 ≠ c) → idx l c = (i : Int) := by
  intro l
  induction l with
  | nil => intro i h; simp at h
  | cons b l ih =>
    intro i hi he hn
    cases i with
    | zero =>
      have : b = c := by simpa using he
      rw [idx, if_pos this]; rfl
    | succ i =>
      have hb : b ≠ c := by simpa using hn 0 (by omega)
      have := ih i (by simpa using hi) (by simpa using he) (fun j hj => by simpa using hn (j + 1) (by omega))
      rw [idx, if_neg hb, this, if_neg (by omega)]
      omega
theorem first_idx {zs : List Int} {k : Nat} (h : FirstAt zs k) : idx (zs.drop 1) 34 = (k : Int) - 2 := by
  have h1 := h.lo
  have h2 := h.hi
  have hg : ∀ j, (zs.drop 1).getD j 0 = zs.getD (1 + j) 0 := fun j => by
    rw [List.getD_eq_getElem?_getD, List.getElem?_drop, ← List.getD_eq_getElem?_getD]
  rw [idx_at 34 (zs.drop 1) (k - 2) (by rw [List.length_drop]; omega) (by rw [hg, show 1 + (k - 2) = k - 1 by omega]; exact h.mark) (fun j hj => by rw [hg]; exact h.none _ (by omega) (by omega))]
  omega
set_option maxHeartbeats 4000000 in
set_option maxRecDepth 100000 in
theorem str_t4 (w w1 : World) (B : Nat) (ad : Addr) (m c : Nat) (fl : Int) (zs l : List Int) (e k : Nat) (p q : Bool) (hmx : m ≤ 9223372036854775807) (HM : Aside0 (m = zs.length)) (HL : Aside0 (m < 9000000000000000000)) (HBy : Aside0 (Bytes zs)) (HS : Aside0 (Sl w1 B (.slice (some ad) m c) zs)) (HAL : Aside0 (Below w.heap.size w w1)) (HB : Aside0 (B ≤ w1.heap.size)) (HBX : Aside0 (w1.heap[w.heap.size]? = some (.cells #[.int .u32 fl] 116 (0, 0))))
    (HSA : Aside0 (StrAt zs e 1 l)) (HK : Aside0 (FirstAt zs k)) (HF : Aside0 (Fl fl p q)) (HQ : Aside0 (q = true → 92 ∉ zs)) (J : Act → World → Prop) {u3 u4 u5 u6 u7 u8 u9 u10 u11 u12 u13 u14 u15 u16 u17 u18 u19 u20 u21 u22 u23 u24 u25 u26 u27 u28 u29 u30 u31 u32 u33 u34 u35 u36 u37 u38 u39 u40 u41 u42 u43 u44 u45 u46 u47 u48 u49 u50 u51 u52 u53 u54 u55 u56 u57 u58 u59 u60 u61 u62 u63 u64 u65 u66 u67 u68 u69 u70 u71 u72 u73 u74 u75 u76 u77 u78 u79 u80 u81 u82 u83 u84 u85 u86 u87 u88 u89 u90 u91 u92 u93 u94 u95 u96 u97 u98 u99 u100 u101 u102 u103 u104 u105 u106 u107 u108 u109 u110 u111 u112 u113 u114 u115 u116 u117 u118 u119 u120 u121 u122 u123 u124 u125 u126 u127 u128 u129 u130 u131 u132 u133 u134 u135 u136 u137 u138 u139 u140 u141 u142 u143 u144 u145 u146 u147 u148 u149 u150 u151 u152 u153 u154 u155 u156 u157 u158 u159 u160 u161 u162 u163 u164 u165 u166 u167 u168 u169 u170 u171 u172 u173 u174 u175 u176 u177 u178 u179 u180 u181 u182 u183 u184 u185 u186 u187 u188 u189 u190 u191 u192 u193 u194 u195 u196 u197 u198 u199 u200 u201 u202 u203 u204 : Value} :
    Code.wp Tryd.prog (strCode 4) (Exit.jump 0 J (bodyPost Tryd.prog Tryd.f80 (StrPostS w B e p l zs))) ⟨#[.agg #[.int .u32 fl], .slice (some ad) m c, .pointer (some ⟨w.heap.size, 0, none⟩), u3, u4, u5, u6, u7, u8, u9, u10, u11, u12, u13, u14, u15, u16, u17, u18, u19, u20, u21, u22, u23, u24, u25, u26, u27, u28, u29, u30, u31, u32, u33, u34, u35, u36, u37, u38, u39, u40, u41, u42, u43, u44, u45, u46, u47, u48, u49, u50, u51, u52, u53, u54, u55, u56, u57, u58, u59, u60, u61, u62, u63, u64, u65, u66, u67, u68, u69, u70, u71, u72, u73, u74, u75, u76, u77, u78, u79, u80, u81, u82, u83, u84, u85, u86, u87, u88, u89, u90, u91, u92, u93, u94, u95, u96, u97, u98, u99, u100, u101, u102, u103, u104, u105, u106, u107, u108, u109, u110, u111, u112, u113, u114, u115, u116, u117, u118, u119, u120, u121, u122, u123, u124, u125, u126, u127, u128, u129, u130, u131, u132, u133, u134, u135, u136, u137, u138, u139, u140, u141, u142, u143, u144, u145, u146, u147, u148, u149, u150, u151, u152, u153, u154, u155, u156, u157, u158, u159, u160, u161, u162, u163, u164, u165, u166, u167, u168, u169, u170, u171, u172, u173, u174, u175, u176, u177, u178, u179, u180, u181, u182, u183, u184, u185, u186, u187, u188, u189, u190, u191, u192, u193, u194, u195, u196, u197, u198, u199, u200, u201, u202, u203, u204], []⟩ w1 := by
  conv => arg 2; whnf
  refine wp_seam (fun K hK => ?_)
  have hkm : k ≤ m := by rw [HM.out]; exact HK.out.hi
  have hk2 : 2 ≤ k := HK.out.lo
  obtain ⟨A2, hcut2, hd2⟩ := HS.out.next 22 1 .i64 Tryd.underlying22 (by omega)
  have hcut3 : ∀ W : World, (Instr.slice 22 (.slice (some ad) m c) (some (.int .i64 1)) none none).run Tryd.prog W = .ok (.slice A2 (m - 1) (c - 1)) W := hcut2
  have hi := index_calls w1 B A2 (m - 1) (c - 1) _ 34 hd2 (HBy.out.sub (fun c hc => List.mem_of_mem_drop hc)) (by decide) (by decide)
  rw [first_idx HK.out] at hi
  obtain ⟨x, hx⟩ : ∃ x, x = (k : Int) - 2 := ⟨_, rfl⟩
  rw [← hx] at hi
  have HI := Aside0.mk hi
  have HX := Aside0.mk (show x + 2 = (k : Int) by omega)
  have hx0 : 0 ≤ x := by omega
  have hx1 : x ≤ 9000000000000000000 := by have := HL.out; omega
  clear hi hd2 hcut2 hx
  go_wp2_with (go_at_call 112; (with_reducible refine HI.out.mono ?_); rintro en w2 ⟨rfl, rfl⟩)
  rw [HX.out]
  refine ⟨wp_seam (fun K2 hK2 => ?_)⟩
  have hk1 : ¬ (k : Int) ≤ 1 := by omega
  have hk3 : ¬ k ≤ 1 := by omega
  clear hx0 hx1
  go_wp2_with fail
  refine ⟨wp_seam (fun K3 hK3 => ?_)⟩
  refine wp_label ?_
  refine hK3 _ _ ⟨?_⟩
  refine wp_noGoto ?_
  exact str_t7 w _ B ad m c fl zs l e k p q hmx HM HL HBy HS HAL HB HBX HSA HK HF HQ
set_option maxHeartbeats 4000000 in
set_option maxRecDepth 100000 in
theorem pstr_strong (w : World) (B : Nat) (A : Option Addr) (n c : Nat) (fl : Int) (zs l : List Int) (e : Nat) (p q : Bool) (hl : zs.length < 9000000000000000000) (hb : Bytes zs) (h : Sl w B (.slice A n c) zs) (hB : B ≤ w.heap.size) (h34 : zs.getD 0 0 = 34) (hsa : StrAt zs e 1 l) (hf : Fl fl p q) (hq : q = true → 92 ∉ zs) (ht : Tab w) :
    Calls Tryd.prog 80 #[.agg #[.int .u32 fl], .slice A n c] w (StrPostS w B e p l zs) := by
  obtain ⟨rfl, hnc⟩ := h.len
  have hmx : zs.length ≤ 9223372036854775807 := by omega
  have hal := below_alloc (Below.refl w.heap.size w) (.cells #[.int .u32 fl] 116)
  have h1 := h.below (hal.mono hB)
  have hel := hsa.lt
  have hef := hsa.fit
  obtain ⟨ad, rfl, c0, -⟩ := h1.at_ 0 (by omega)
  rw [h34] at c0
  have e0 : ad.add 0 = ad := by simp [Addr.add]
  rw [e0] at c0
  have HS := Aside0.mk h1
  have HAL := Aside0.mk hal
  have HBX := Aside0.mk (blk_new w (.cells #[.int .u32 fl] 116))
  have HB := Aside0.mk (Nat.le_trans hB hal.size)
  have HTB := Aside0.mk (ht.below hal)
  have HSA := Aside0.mk hsa
  have HF := Aside0.mk hf
  have HQ := Aside0.mk hq
  have HBy := Aside0.mk hb
  obtain ⟨k, hk⟩ := first_is hsa
  have HK := Aside0.mk hk
  obtain ⟨w1, hw1⟩ : ∃ w1, w1 = w.alloc (.cells #[.int .u32 fl] 116) := ⟨_, rfl⟩
  rw [← hw1] at c0 HS HAL HBX HB HTB
  have HW1 := Aside0.mk hw1
  obtain ⟨m, hm⟩ : ∃ m, m = zs.length := ⟨_, rfl⟩
  rw [← hm] at HS hmx hnc ⊢
  have HL := Aside0.mk (show m < 9000000000000000000 by omega)
  have HM := Aside0.mk hm
  have hm2 : ¬ m < 2 := by omega
  clear hk h hB hal h1 hb e0 hw1 hm hl h34 hsa hf hq ht hel hef
  go_enter Tryd.func80, Tryd.ntmps80
  refine wp_seam (fun K hK => ?_)
  go_wp2_with fail
  refine ⟨?_⟩
  rw [← HW1.out]
  clear HW1
  refine wp_scope_fwd 0 (b := strCode 7) rfl ?_
  refine wp_seam (fun K1 hK1 => ?_)
  go_wp2_with fail
  refine ⟨wp_seam (fun K2 hK2 => ?_)⟩
  go_wp2_with fail
  refine ⟨wp_seam (fun K3 hK3 => ?_)⟩
  go_wp2_with fail
  refine ⟨wp_seam (fun K4 hK4 => ?_)⟩
  clear hm2
  by_cases h9 : 9 ≤ m
  · have d9 : decide (9 ≤ m) = true := by simpa using h9
    obtain ⟨A2, hcut2, hd2⟩ := HS.out.next 22 1 .i64 Tryd.underlying22 (by omega)
    have hcut3 : ∀ W : World, (Instr.slice 22 (.slice (some ad) m c) (some (.int .i64 1)) none none).run Tryd.prog W = .ok (.slice A2 (m - 1) (c - 1)) W := hcut2
    have HLE := Aside0.mk (fun (W : World) (hW : Below w1.heap.size w1 W) => le_calls W B A2 (m - 1) (c - 1) zs _ 1 rfl (hd2.below (hW.mono HB.out)) HBy.out (by have := HM.out; omega))
    clear hd2 hcut2
    go_upto_region 7 with (fail)
    go_region_with (go_at_call 114; (with_reducible refine (HLE.out _ ?_).mono ?_); (first | exact below_drew (Below.refl _ _) | exact Below.refl _ _); rintro en w4 ⟨rfl, hb4⟩; have HB4 := Aside0.mk hb4; clear hb4)
    all_goals
      have HW4 : Aside0 (Below w1.heap.size w1 w4) := ⟨by first | exact (below_drew (Below.refl _ _)).trans HB4.out | exact HB4.out | exact below_drew HB4.out⟩
      go_upto_region 9 with (fail)
      first | rw [show Go.bits .and .u64 (Go.bits .and .u64 (IntKind.u64.wrap (Go.bits .xor .u64 ((w8 (oct zs 1) : Nat) : Int) 2459565876494606882 - 72340172838076673)) (Go.bits .xor .u64 (if IntKind.u64.signed = true then -1 else IntKind.u64.max) (Go.bits .xor .u64 ((w8 (oct zs 1) : Nat) : Int) 2459565876494606882))) 9259542123273814144 = ((hack (oct zs 1) : Nat) : Int) from hackZ_eq rfl (oct_lt HBy.out 1)] | rw [show Go.bits .and .u64 (Go.bits .and .u64 (IntKind.u64.wrap (Go.bits .xor .u64 ((w8 (oct zs 1) : Nat) : Int) 2459565876494606882 - 72340172838076673)) (Go.bits .xor .u64 IntKind.u64.max (Go.bits .xor .u64 ((w8 (oct zs 1) : Nat) : Int) 2459565876494606882))) 9259542123273814144 = ((hack (oct zs 1) : Nat) : Int) from hackZ_eq rfl (oct_lt HBy.out 1)]
      have hoc := oct_cases HBy.out HK.out 1 (by decide) (by have := HK.out.lo; omega)
      have HHL := Aside0.mk (hack_lt (oct zs 1))
      obtain ⟨H, hH⟩ : ∃ H, H = hack (oct zs 1) := ⟨_, rfl⟩
      rw [← hH] at hoc HHL ⊢
      generalize ((w8 (oct zs 1) : Nat) : Int) = V1
      clear hH
      rcases hoc with ⟨hk9, hne, hlow⟩ | ⟨hk9, rfl⟩
      · have hz : ((H : Int) == 0) = false := by rw [beq_eq_false_iff_ne]; omega
        have hz2 : ((H : Int) != 0) = true := by rw [bne_iff_ne]; omega
        have hlo : 1 < k := by have := HK.out.lo; omega
        have HT := Aside0.mk (fun (W : World) (hW : Below w1.heap.size w1 W) => tz (k - 1 - 1) (by omega) (H : Int) (by omega) (by have := HHL.out; omega) (by rw [low_eq H HHL.out hne, hlow]) W (HTB.out.below hW))
        obtain ⟨T, hT⟩ : ∃ T, T = ((8 * (k - 1 - 1) + 7 : Nat) : Int) := ⟨_, rfl⟩
        rw [← hT] at HT
        have ht0 : 0 ≤ T := by omega
        have ht1 : T ≤ 63 := by omega
        have HKT := Aside0.mk (show T / 8 + 2 = (k : Int) by omega)
        clear hne hlow hlo hT hk9
        go_wp2_with (go_at_call 115; (with_reducible refine (HT.out _ HW4.out).mono ?_); rintro en w5 ⟨rfl, hb5⟩; have HB5 := Aside0.mk ((HW4.out).trans (hb5.mono (HW4.out).size)); clear hb5)
        refine wp_goto ?_
        change (0 : Nat) = 0 ∧ Seam _ _ _ _ _
        refine ⟨rfl, ⟨?_⟩⟩
        rw [HKT.out]
        exact str_t7 w _ B ad m c fl zs l e k p q hmx HM HL HBy ⟨HS.out.below (HB5.out.mono HB.out)⟩ ⟨HAL.out.trans (HB5.out.mono HAL.out.size)⟩ ⟨Nat.le_trans HB.out HB5.out.size⟩ ⟨blk_below HBX.out HB5.out⟩ HSA HK HF HQ
      · have HK9 := Aside0.mk hk9
        clear hk9 HHL
        by_cases h17 : 17 ≤ m
        · have d17 : decide (17 ≤ m) = true := by simpa using h17
          obtain ⟨A3, hcut4, hd4⟩ := HS.out.next 22 9 .i64 Tryd.underlying22 (by omega)
          have hcut5 : ∀ W : World, (Instr.slice 22 (.slice (some ad) m c) (some (.int .i64 9)) none none).run Tryd.prog W = .ok (.slice A3 (m - 9) (c - 9)) W := hcut4
          have HLF := Aside0.mk (fun (W : World) (hW : Below w1.heap.size w1 W) => le_calls W B A3 (m - 9) (c - 9) zs _ 9 rfl (hd4.below (hW.mono HB.out)) HBy.out (by have := HM.out; omega))
          clear hd4 hcut4 hcut3 h9 d9
          go_upto_region 12 with (fail)
          go_region_with (go_at_call 114; (with_reducible refine (HLF.out _ ?_).mono ?_); (first | exact below_drew HW4.out | exact HW4.out); rintro en w6 ⟨rfl, hb6⟩; have HB6 := Aside0.mk hb6; clear hb6)
          all_goals
            have HW6 : Aside0 (Below w1.heap.size w1 w6) := ⟨by first | exact (below_drew HW4.out).trans (HB6.out.mono (below_drew HW4.out).size) | exact HW4.out.trans (HB6.out.mono HW4.out.size)⟩
            go_upto_region 14 with (fail)
            first | rw [show Go.bits .and .u64 (Go.bits .and .u64 (IntKind.u64.wrap (Go.bits .xor .u64 ((w8 (oct zs 9) : Nat) : Int) 2459565876494606882 - 72340172838076673)) (Go.bits .xor .u64 (if IntKind.u64.signed = true then -1 else IntKind.u64.max) (Go.bits .xor .u64 ((w8 (oct zs 9) : Nat) : Int) 2459565876494606882))) 9259542123273814144 = ((hack (oct zs 9) : Nat) : Int) from hackZ_eq rfl (oct_lt HBy.out 9)] | rw [show Go.bits .and .u64 (Go.bits .and .u64 (IntKind.u64.wrap (Go.bits .xor .u64 ((w8 (oct zs 9) : Nat) : Int) 2459565876494606882 - 72340172838076673)) (Go.bits .xor .u64 IntKind.u64.max (Go.bits .xor .u64 ((w8 (oct zs 9) : Nat) : Int) 2459565876494606882))) 9259542123273814144 = ((hack (oct zs 9) : Nat) : Int) from hackZ_eq rfl (oct_lt HBy.out 9)]
            have hoc := oct_cases HBy.out HK.out 9 (by decide) (by have := HK9.out; omega)
            have HHL := Aside0.mk (hack_lt (oct zs 9))
            obtain ⟨H, hH⟩ : ∃ H, H = hack (oct zs 9) := ⟨_, rfl⟩
            rw [← hH] at hoc HHL ⊢
            generalize ((w8 (oct zs 9) : Nat) : Int) = V9
            clear hH
            rcases hoc with ⟨hk9, hne, hlow⟩ | ⟨hk9, rfl⟩
            · have hz : ((H : Int) == 0) = false := by rw [beq_eq_false_iff_ne]; omega
              have hz2 : ((H : Int) != 0) = true := by rw [bne_iff_ne]; omega
              have hlo : 9 < k := by have := HK9.out; omega
              have HT := Aside0.mk (fun (W : World) (hW : Below w1.heap.size w1 W) => tz (k - 1 - 9) (by omega) (H : Int) (by omega) (by have := HHL.out; omega) (by rw [low_eq H HHL.out hne, hlow]) W (HTB.out.below hW))
              obtain ⟨T, hT⟩ : ∃ T, T = ((8 * (k - 1 - 9) + 7 : Nat) : Int) := ⟨_, rfl⟩
              rw [← hT] at HT
              have ht0 : 0 ≤ T := by omega
              have ht1 : T ≤ 63 := by omega
              have HKT := Aside0.mk (show T / 8 + 10 = (k : Int) by omega)
              clear hne hlow hlo hT hk9
              go_wp2_with (go_at_call 115; (with_reducible refine (HT.out _ HW6.out).mono ?_); rintro en w5 ⟨rfl, hb5⟩; have HB5 := Aside0.mk ((HW6.out).trans (hb5.mono (HW6.out).size)); clear hb5)
              refine wp_goto ?_
              change (0 : Nat) = 0 ∧ Seam _ _ _ _ _
              refine ⟨rfl, ⟨?_⟩⟩
              rw [HKT.out]
              exact str_t7 w _ B ad m c fl zs l e k p q hmx HM HL HBy ⟨HS.out.below (HB5.out.mono HB.out)⟩ ⟨HAL.out.trans (HB5.out.mono HAL.out.size)⟩ ⟨Nat.le_trans HB.out HB5.out.size⟩ ⟨blk_below HBX.out HB5.out⟩ HSA HK HF HQ
            · have HK9 := Aside0.mk hk9
              clear hk9 HHL
              go_wp2_with fail
              exact ⟨str_t4 w _ B ad m c fl zs l e k p q hmx HM HL HBy ⟨HS.out.below (HW6.out.mono HB.out)⟩ ⟨HAL.out.trans (HW6.out.mono HAL.out.size)⟩ ⟨Nat.le_trans HB.out HW6.out.size⟩ ⟨blk_below HBX.out HW6.out⟩ HSA HK HF HQ _⟩
        · have d17 : decide (17 ≤ m) = false := by simpa using h17
          go_wp2_with fail
          exact ⟨str_t4 w _ B ad m c fl zs l e k p q hmx HM HL HBy ⟨HS.out.below (HW4.out.mono HB.out)⟩ ⟨HAL.out.trans (HW4.out.mono HAL.out.size)⟩ ⟨Nat.le_trans HB.out HW4.out.size⟩ ⟨blk_below HBX.out HW4.out⟩ HSA HK HF HQ _⟩
  · have d9 : decide (9 ≤ m) = false := by simpa using h9
    go_wp2_with fail
    exact ⟨str_t4 w _ B ad m c fl zs l e k p q hmx HM HL HBy HS HAL HB HBX HSA HK HF HQ _⟩
theorem pstr_calls (w : World) (B : Nat) (A : Option Addr) (n c : Nat) (fl : Int) (zs l : List Int) (e : Nat) (p q : Bool) (hl : zs.length < 9000000000000000000) (hb : Bytes zs) (h : Sl w B (.slice A n c) zs) (hB : B ≤ w.heap.size) (h34 : zs.getD 0 0 = 34) (hsa : StrAt zs e 1 l) (hf : Fl fl p q) (hq : q = true → 92 ∉ zs) (ht : Tab w) :
    Calls Tryd.prog 80 #[.agg #[.int .u32 fl], .slice A n c] w (StrPost w B e l zs) := (pstr_strong w B A n c fl zs l e p q hl hb h hB h34 hsa hf hq ht).mono fun _ _ h => h.weak
end Go.Proofs.YtekmminmgjoabaaDoor.Js

