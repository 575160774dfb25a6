/- The law on whole numbers. -/
import Derived.Test.YtekmminmgjoabaaDoorSi
import Derived.Test.YtekmminmgjoabaaDoorSp
import Derived.Test.YtekmminmgjoabaaDoorJsFmt
namespace Go.Proofs.YtekmminmgjoabaaDoor.Js
open Go.RowKit Go.Proofs.YtekmminmgjoabaaDoorW.PrintWords Go.Proofs.YtekmminmgjoabaaDoorW.PrintLast Go.Proofs.YtekmminmgjoabaaDoorW.PrintMore Go.Proofs.YtekmminmgjoabaaDoor.PFnJSTokens
set_option linter.unusedVariables false
set_option linter.unusedSimpArgs false
theorem str_of_bytes (l : List UInt8) : (⟨l.toArray⟩ : ByteArray) = strOfNums (l.map fun b => (b.toNat : Int)) := by
  unfold strOfNums
  congr 2
  rw [List.map_map]
  conv => lhs; rw [← List.map_id l]
  refine List.map_congr_left fun b _ => ?_
  simp
theorem nums_len (k : Nat) : ∀ u, u < 10 ^ (k + 1) → (nums u).length ≤ k + 1 := by
  induction k with
  | zero => intro u hu; rw [nums_small (by omega)]; simp
  | succ k ih =>
    intro u hu
    by_cases h : u < 10
    · rw [nums_small h]; simp
    · rw [nums_big h, List.length_append]
      have := ih (u / 10) (by rw [Nat.pow_succ] at hu; omega)
      simp; omega
theorem nums_num (u : Nat) : ([48] = nums u ∨ (Digits (nums u) ∧ ∃ c t, nums u = c :: t ∧ c ≠ 48)) := by
  rcases Nat.eq_zero_or_pos u with rfl | h
  · exact .inl nums_zero.symm
  · right
    have hp := nums_pos u
    refine ⟨⟨fun e => by rw [e] at hp; simp at hp, fun c hc => nums_digits u c hc⟩, ?_⟩
    have hh := nums_head u h
    cases he : nums u with
    | nil => rw [he] at hp; simp at hp
    | cons c t =>
      rw [he] at hh
      exact ⟨c, t, rfl, hh⟩
theorem nums_plain (u : Nat) : Plain 3 (nums u) := by
  have := Num.mk (s := []) (i := nums u) (f := []) (e := []) (.inl rfl) ((nums_num u).imp Eq.symm id) (.inl rfl) (.inl rfl)
  rw [List.append_nil, List.append_nil, List.nil_append] at this
  exact .num this
theorem nums_minus (u : Nat) : Plain 3 (45 :: nums u) := by
  have := Num.mk (s := [45]) (i := nums u) (f := []) (e := []) (.inr rfl) ((nums_num u).imp Eq.symm id) (.inl rfl) (.inl rfl)
  rw [List.append_nil, List.append_nil] at this
  exact .num this
theorem nums_hh (u : Nat) : 1 < (nums u).length → (nums u).getD 0 0 ≠ 48 := fun h => nums_head u (by have := nums_len_small (u := u) (by omega); omega)
def numsI (n : Int) : List Int := if n < 0 then 45 :: nums n.natAbs else nums n.toNat
theorem itoa_nums (n : Int) : (⟨(Lib.itoa n).toArray⟩ : ByteArray) = strOfNums (numsI n) := by
  rw [str_of_bytes]
  unfold Lib.itoa numsI nums
  split
  · simp
  · rfl
theorem utoa_nums (u : Nat) : (⟨(Lib.decDigits u).toArray⟩ : ByteArray) = strOfNums (nums u) := str_of_bytes _
theorem numsI_ok (n : Int) (h0 : -9223372036854775808 ≤ n) (h1 : n ≤ 9223372036854775807) : Plain 3 (numsI n) ∧ Bytes (numsI n) ∧ (numsI n).length ≤ 21 ∧ ∀ (W : World) (B T : Nat), B ≤ T → OnTok W B T (numsI n) → Calls Tryd.prog 72 #[.pointer (some ⟨T, 0, none⟩)] W fun e w' => e = .returned (.int .i64 n) ∧ Below W.heap.size W w' := by
  have hd : ∀ u, Bytes (nums u) := fun u c hc => by have := nums_digits u c hc; omega
  by_cases hn : n < 0
  · have e : numsI n = 45 :: nums n.natAbs := by unfold numsI; rw [if_pos hn]
    have hl := nums_len 19 n.natAbs (by omega)
    rw [e]
    refine ⟨nums_minus _, fun c hc => ?_, by rw [List.length_cons]; omega, fun W B T hB h => ?_⟩
    · rcases List.mem_cons.1 hc with rfl | hc
      · decide
      · exact hd _ c hc
    · have := tint_neg W B T (nums n.natAbs) n.natAbs hB (nums_digits _) (nums_pos _) (nums_hh _) (by omega) (dval_nums _) (by omega) h
      rw [show -((n.natAbs : Nat) : Int) = n by omega] at this
      exact this
  · have e : numsI n = nums n.toNat := by unfold numsI; rw [if_neg hn]
    have hl := nums_len 19 n.toNat (by omega)
    rw [e]
    refine ⟨nums_plain _, hd _, by omega, fun W B T hB h => ?_⟩
    have := tint_calls W B T (nums n.toNat) n.toNat hB (nums_digits _) (nums_pos _) (nums_hh _) (by omega) (dval_nums _) (by omega) h
    rw [show ((n.toNat : Nat) : Int) = n by omega] at this
    exact this
theorem below_grown {w : World} {B k : Nat} {os : Array Obj} (hB : B ≤ w.heap.size) : Below B w (Sort.grow (w.drewN k) os) := Lib.below_grow B w hB k os
set_option maxHeartbeats 4000000 in
set_option maxRecDepth 100000 in
theorem law_ints (w : World) (ht : Tab w) (hp : Lib.TabIs Tryd.prog w "internal/strconv.uint64pow10" .u64 Lib.pow10Tab) (n : Int) (hn : -9223372036854775808 ≤ n ∧ n ≤ 9223372036854775807) (u : Int) (hu : 0 ≤ u ∧ u ≤ 18446744073709551615) (a : Int) (ha : 0 ≤ a ∧ a ≤ 255) :
    Calls Tryd.prog 15 #[.int .i64 n, .int .u64 u, .int .u8 a] w fun e w' => e = .returned (.bool true) ∧ Below w.heap.size w w' := by
  obtain ⟨q, rfl⟩ : ∃ q : Nat, u = (q : Int) := ⟨u.toNat, by omega⟩
  have HT := Aside0.mk ht
  have HTP := Aside0.mk (show ∀ W, Below w.heap.size w W → Lib.TabIs Tryd.prog W "internal/strconv.uint64pow10" .u64 Lib.pow10Tab from Lib.tabBelow_of_tabIs hp)
  obtain ⟨k1, k2, k3, k4⟩ := numsI_ok n hn.1 hn.2
  have hql := nums_len 19 q (by omega)
  have hqb : Bytes (nums q) := fun c hc => by have := nums_digits q c hc; omega
  obtain ⟨j, hj⟩ : ∃ j : Nat, j = a.toNat % 5 := ⟨_, rfl⟩
  have hj4 : j ≤ 4 := by omega
  have hrem : a.tmod 5 = (j : Int) := by rw [hj, Int.tmod_eq_emod_of_nonneg ha.1]; omega
  have hw8 : IntKind.u8.wrap (j : Int) = (j : Int) := by rw [IntKind.wrap_u8]; omega
  have hw64 : IntKind.i64.wrap (j : Int) = (j : Int) := by rw [IntKind.wrap_i64]; omega
  obtain ⟨sp, hsp⟩ : ∃ sp, sp = List.replicate j (32 : Int) := ⟨_, rfl⟩
  have HSP := Aside0.mk (show (∀ c ∈ sp, isSp c = true) ∧ Bytes sp ∧ sp.length ≤ 4 by
    rw [hsp]
    refine ⟨fun c hc => by rw [List.eq_of_mem_replicate hc]; rfl, fun c hc => by rw [List.eq_of_mem_replicate hc]; decide, by rw [List.length_replicate]; exact hj4⟩)
  have HREP := Aside0.mk (fun (W : World) (B : Nat) (v : Value) (hs : Sl W B v [32]) (hB : B ≤ W.heap.size) => (show Calls Tryd.prog 36 #[v, .int .i64 (j : Int)] W fun e w' => ∃ v', e = .returned v' ∧ Sl w' w'.heap.size v' sp ∧ Below W.heap.size W w' by rw [hsp]; exact repeat_calls W B v j (by omega) hs hB))
  have HF1 := Aside0.mk (fun (W : World) (hW : Below w.heap.size w W) => (show Calls Tryd.prog 39 #[.int .i64 n, .int .i64 10] W fun e w' => e = .returned (.string (strOfNums (numsI n))) ∧ Below W.heap.size W w' from (Fmt.fmt_int n hn.1 hn.2 W (HTP.out W hW)).mono fun e w' ⟨h1, k, os, h2⟩ => ⟨by rw [h1, itoa_nums], by rw [h2]; exact below_grown (Nat.le_refl _)⟩))
  have HF2 := Aside0.mk (fun (W : World) (hW : Below w.heap.size w W) => (show Calls Tryd.prog 41 #[.int .u64 (q : Int), .int .i64 10] W fun e w' => e = .returned (.string (strOfNums (nums q))) ∧ Below W.heap.size W w' from (Fmt.fmt_uint q (by omega) W (HTP.out W hW)).mono fun e w' ⟨h1, k, os, h2⟩ => ⟨by rw [h1, utoa_nums], by rw [h2]; exact below_grown (Nat.le_refl _)⟩))
  obtain ⟨y1, hy1⟩ : ∃ y, y = numsI n := ⟨_, rfl⟩
  obtain ⟨y2, hy2⟩ : ∃ y, y = nums q := ⟨_, rfl⟩
  rw [← hy1] at HF1 k1 k2 k3 k4
  rw [← hy2] at HF2 hql hqb
  have hq2 : Plain 3 y2 := hy2 ▸ nums_plain q
  have HU := Aside0.mk (show ∀ (W : World) (B T : Nat), B ≤ T → OnTok W B T y2 → Calls Tryd.prog 74 #[.pointer (some ⟨T, 0, none⟩)] W fun e w' => e = .returned (.int .u64 (q : Int)) ∧ Below W.heap.size W w' from fun W B T hB h => by
    rw [hy2] at h
    exact tuint_calls W B T (nums q) q hB (nums_digits _) (nums_pos _) (nums_hh _) (by have := hql; rw [hy2] at this; omega) (dval_nums _) (by omega) h)
  have HI := Aside0.mk k4
  have q1 : ¬ (9223372036854775807 < (strOfNums sp).size + (strOfNums y1).size) := by rw [strOf_size, strOf_size]; have := HSP.out.2.2; omega
  have q2 : ¬ (9223372036854775807 < (strOfNums sp).size + (strOfNums y2).size) := by rw [strOf_size, strOf_size]; have := HSP.out.2.2; omega
  have HE1 := Aside0.mk (show strOfNums sp ++ strOfNums y1 = strOfNums (sp ++ (y1 ++ [])) by rw [List.append_nil, strOf_append])
  have HE2 := Aside0.mk (show strOfNums sp ++ strOfNums y2 = strOfNums (sp ++ (y2 ++ [])) by rw [List.append_nil, strOf_append])
  have HL := Aside0.mk (show (sp ++ (y1 ++ [])).length < 2000000000 ∧ (sp ++ (y2 ++ [])).length < 2000000000 by simp only [List.length_append, List.length_nil]; have := HSP.out.2.2; omega)
  have HBY := Aside0.mk (show Bytes (sp ++ (y1 ++ [])) ∧ Bytes (sp ++ (y2 ++ [])) by rw [List.append_nil, List.append_nil]; exact ⟨bytes_append HSP.out.2.1 k2, bytes_append HSP.out.2.1 hqb⟩)
  have HP1 := Aside0.mk (fun (W : World) (A : Option Addr) (m c : Nat) (hW : Below w.heap.size w W) (hs : Sl W W.heap.size (.slice A m c) (sp ++ (y1 ++ []))) => jsInt_calls W A m c sp y1 n _ rfl k1 HL.out.1 HSP.out.1 hs HBY.out.1 (HT.out.below hW) (fun W' T hT h => HI.out W' _ T hT h))
  have HP2 := Aside0.mk (fun (W : World) (A : Option Addr) (m c : Nat) (hW : Below w.heap.size w W) (hs : Sl W W.heap.size (.slice A m c) (sp ++ (y2 ++ []))) => jsUint_calls W A m c sp y2 (q : Int) _ rfl hq2 HL.out.2 HSP.out.1 hs HBY.out.2 (HT.out.below hW) (fun W' T hT h => HU.out W' _ T hT h))
  obtain ⟨z1, hz1⟩ : ∃ z, z = sp ++ (y1 ++ []) := ⟨_, rfl⟩
  obtain ⟨z2, hz2⟩ : ∃ z, z = sp ++ (y2 ++ []) := ⟨_, rfl⟩
  rw [← hz1] at HE1 HL HBY HP1
  rw [← hz2] at HE2 HL HBY HP2
  clear ht hp k1 k2 k3 k4 hql hqb hj hsp hn hu hy1 hy2 hq2 hz1 hz2 ha
  go_enter Tryd.func15, Tryd.ntmps15
  go_upto_region 2 with (first
    | ((with_reducible refine gate_dst (N := 12) rfl ?_); (try (refine gate_guard (by rfl) ?_; dsimp only)); refine mark_lit (xs := [32]) (w0 := w) Tryd.underlying22 Tryd.underlying5 (by decide) (by decide) ?hg (N := 12) ?hd (Below.refl _ _) ?hr ?_; (case hd => rfl); (case hg => rfl); (case hr => first | (go_simp; done) | (go_simp; rfl)); intro A0 c0 w8 w9 hcv0 hC hle hb hB2; have hcv1 : (convert 22 22 (.slice A0 1 c0)).run Tryd.prog w8 = .ok (.slice A0 1 c0) w9 := hcv0; clear hcv0; have HS9 := Aside0.mk (show Sl w9 w9.heap.size (.slice A0 1 c0) [32] from Sl_of_C hC (by decide) hle); have HB9 := Aside0.mk hB2; clear hB2 hb hC hle)
    | (go_at_call 36; (with_reducible refine (HREP.out _ _ _ HS9.out (Nat.le_refl _)).mono ?_); rintro e w10 ⟨v', rfl, hsl, hb⟩; obtain ⟨A3, m3, c3, rfl, hm3⟩ := hsl.formv; have hcv2 := hsl.text Tryd.underlying22 Tryd.underlying9; have HB10 := Aside0.mk (HB9.out.trans (hb.mono HB9.out.size)); clear hb hsl hm3))
  clear hcv1 hcv2 hrem hw8 hw64
  go_upto_region 3 with (first
    | (go_at_call 39; (with_reducible refine (HF1.out _ HB10.out).mono ?_); rintro e w11 ⟨rfl, hb⟩; obtain ⟨cz, w12, hcv0, hsl12, hb12⟩ := text_bytes w11 z1 HBY.out.1 (by have := HL.out.1; omega); rw [← HE1.out] at hcv0; have hcv := hcv0; have HB11 := Aside0.mk (HB10.out.trans (hb.mono HB10.out.size)); have HB12 := Aside0.mk (HB11.out.trans (hb12.mono HB11.out.size)); have HQ1 := Aside0.mk (HP1.out w12 _ _ _ HB12.out hsl12); clear hb hb12 hsl12 hcv0)
    | (go_at_call 38; (with_reducible refine HQ1.out.mono ?_); rintro e w13 ⟨rfl, hb⟩; have HB13 := Aside0.mk (HB12.out.trans (hb.mono HB12.out.size)); clear hb))
  clear hcv q1
  go_upto_region 4 with (first
    | (go_at_call 41; (with_reducible refine (HF2.out _ HB13.out).mono ?_); rintro e w14 ⟨rfl, hb⟩; obtain ⟨cz2, w15, hcv0, hsl15, hb15⟩ := text_bytes w14 z2 HBY.out.2 (by have := HL.out.2; omega); rw [← HE2.out] at hcv0; have hcv := hcv0; have HB14 := Aside0.mk (HB13.out.trans (hb.mono HB13.out.size)); have HB15 := Aside0.mk (HB14.out.trans (hb15.mono HB14.out.size)); have HQ2 := Aside0.mk (HP2.out w15 _ _ _ HB15.out hsl15); clear hb hb15 hsl15 hcv0)
    | (go_at_call 40; (with_reducible refine HQ2.out.mono ?_); rintro e w16 ⟨rfl, hb⟩; have HB16 := Aside0.mk (HB15.out.trans (hb.mono HB15.out.size)); clear hb))
  clear hcv q2
  go_wp2_with fail
  go_returns
  exact ⟨rfl, HB16.out⟩
end Go.Proofs.YtekmminmgjoabaaDoor.Js
