/- Strings are parsed: the quick road. -/
import Derived.Test.YtekmminmgjoabaaDoorYRd
namespace Go.Proofs.YtekmminmgjoabaaDoor.Js
open Go.RowKit Go.Proofs.YtekmminmgjoabaaDoorW.PrintWords Go.Proofs.YtekmminmgjoabaaDoorW.PrintLast Go.Proofs.YtekmminmgjoabaaDoorW.PrintMore Go.Proofs.YtekmminmgjoabaaDoor.PFnJSTokens
set_option linter.unusedVariables false
set_option linter.unusedSimpArgs false
/-- The first mark behind the opening one is byte number k - 1. -/
structure FirstAt (zs : List Int) (k : Nat) : Prop where
  lo : 2 ≤ k
  hi : k ≤ zs.length
  mark : zs.getD (k - 1) 0 = 34
  none : ∀ j, 1 ≤ j → j + 1 < k → zs.getD j 0 ≠ 34
theorem mem_mid {zs : List Int} {k : Nat} {c : Int} (hk : k ≤ zs.length) : c ∈ (zs.take k).drop 1 ↔ ∃ j, 1 ≤ j ∧ j < k ∧ zs.getD j 0 = c := by
  constructor
  · intro h
    obtain ⟨i, hi, rfl⟩ := List.getElem_of_mem h
    simp only [List.length_drop, List.length_take] at hi
    refine ⟨1 + i, by omega, by omega, ?_⟩
    rw [List.getD_eq_getElem?_getD, List.getElem?_eq_getElem (by omega)]
    simp [Nat.add_comm]
  · rintro ⟨j, h1, h2, rfl⟩
    rw [List.getD_eq_getElem?_getD, List.getElem?_eq_getElem (by omega), Option.getD_some]
    refine List.mem_iff_getElem.2 ⟨j - 1, by simp only [List.length_drop, List.length_take]; omega, ?_⟩
    simp only [List.getElem_drop, List.getElem_take]
    congr 1
    omega
theorem StrAt.mem {zs l : List Int} {e : Nat} (h : StrAt zs e 1 l) {c : Int} : c ∈ l ↔ ∃ j, 1 ≤ j ∧ j < e ∧ zs.getD j 0 = c := by
  have hf := h.fit
  constructor
  · intro hc
    obtain ⟨i, hi, rfl⟩ := List.getElem_of_mem hc
    refine ⟨1 + i, by omega, by omega, ?_⟩
    rw [h.at_ i hi, List.getD_eq_getElem?_getD, List.getElem?_eq_getElem hi, Option.getD_some]
  · rintro ⟨j, h1, h2, rfl⟩
    have := h.at_ (j - 1) (by omega)
    rw [show 1 + (j - 1) = j by omega] at this
    rw [this, List.getD_eq_getElem?_getD, List.getElem?_eq_getElem (by omega), Option.getD_some]
    exact List.getElem_mem _
theorem first_le {zs l : List Int} {e k : Nat} (h : StrAt zs e 1 l) (hf : FirstAt zs k) : k ≤ e + 1 := by
  apply Classical.byContradiction
  intro hk
  have := h.fit
  exact hf.none e (by omega) (by omega) h.mark
theorem first_sub {zs l : List Int} {e k : Nat} (h : StrAt zs e 1 l) (hf : FirstAt zs k) : ∀ c ∈ (zs.take k).drop 1, c = 34 ∨ c ∈ l := by
  intro c hc
  obtain ⟨j, h1, h2, rfl⟩ := (mem_mid hf.hi).1 hc
  by_cases hj : j = k - 1
  · exact .inl (by rw [hj]; exact hf.mark)
  · exact .inr (h.mem.2 ⟨j, h1, by have := first_le h hf; omega, rfl⟩)
theorem first_end {zs l : List Int} {e k : Nat} (h : StrAt zs e 1 l) (hf : FirstAt zs k) (h92 : 92 ∉ (zs.take k).drop 1) : k = e + 1 ∧ 92 ∉ l := by
  have h9 : ∀ j, 1 ≤ j → j < k → zs.getD j 0 ≠ 92 := fun j h1 h2 e => h92 ((mem_mid hf.hi).2 ⟨j, h1, h2, e⟩)
  have hlo := hf.lo
  have hhi := hf.hi
  have := str_end h (k - 1) (by omega) (by omega) hf.mark (fun j h1 h2 => hf.none j h1 (by omega)) (fun j h1 h2 => h9 j h1 (by omega))
  refine ⟨by omega, fun hm => ?_⟩
  obtain ⟨j, h1, h2, h3⟩ := h.mem.1 hm
  exact h9 j h1 (by omega) h3
theorem first_prn {zs l : List Int} {e k : Nat} (h : StrAt zs e 1 l) (hf : FirstAt zs k) (hp : ((zs.take k).drop 1).all prn = false) : ¬ (92 ∉ l ∧ ∀ c ∈ l, prn c = true) := by
  rintro ⟨-, hl⟩
  have : ((zs.take k).drop 1).all prn = true := List.all_eq_true.2 (fun c hc => by
    rcases first_sub h hf c hc with rfl | h1
    · rfl
    · exact hl c h1)
  rw [hp] at this
  cases this
theorem first_all {zs l : List Int} {e k : Nat} (h : StrAt zs e 1 l) (hk : k = e + 1) (hz : k ≤ zs.length) (hp : ((zs.take k).drop 1).all prn = true) : ∀ c ∈ l, prn c = true := by
  intro c hc
  obtain ⟨j, h1, h2, h3⟩ := h.mem.1 hc
  exact List.all_eq_true.1 hp c ((mem_mid hz).2 ⟨j, h1, by omega, h3⟩)
theorem first_92 {zs l : List Int} {e k : Nat} (h : StrAt zs e 1 l) (hf : FirstAt zs k) (hp : 92 ∈ (zs.take k).drop 1) : ¬ (92 ∉ l ∧ ∀ c ∈ l, prn c = true) := by
  rintro ⟨hl, -⟩
  rcases first_sub h hf 92 hp with h1 | h1
  · cases h1
  · exact hl h1
/-- What the two flags of a number say. -/
structure Fl (fl : Int) (p q : Bool) : Prop where
  p : (Go.bits .and .u32 fl 268435456 != 0) = p
  q : (Go.bits .and .u32 fl 1073741824 != 0) = q
theorem has_p {fl : Int} {p q : Bool} (h : Fl fl p q) (w : World) : Calls Tryd.prog 116 #[.int .u32 fl, .int .u32 268435456] w fun e w' => e = .returned (.bool p) ∧ w = w' :=
  (has_calls fl 268435456 w).mono (by rintro e w' ⟨rfl, rfl⟩; exact ⟨by rw [h.p], rfl⟩)
theorem has_q {fl : Int} {p q : Bool} (h : Fl fl p q) (w : World) : Calls Tryd.prog 116 #[.int .u32 fl, .int .u32 1073741824] w fun e w' => e = .returned (.bool q) ∧ w = w' :=
  (has_calls fl 1073741824 w).mono (by rintro e w' ⟨rfl, rfl⟩; exact ⟨by rw [h.q], rfl⟩)
theorem idx_ge (c : Int) : ∀ l : List Int, -1 ≤ idx l c := by
  intro l
  induction l with
  | nil => exact Int.le_refl _
  | cons b l ih =>
    rw [idx]; split
    · decide
    · split
      · decide
      · omega
set_option maxHeartbeats 4000000 in
set_option maxRecDepth 100000 in
theorem str_t7 (w w1 : World) (B : Nat) (ad : Addr) (m c : Nat) (fl : Int) (zs l : List Int) (e k : Nat) (p q : Bool) (hmx : m ≤ 9223372036854775807) (HM : Aside0 (m = zs.length)) (HL : Aside0 (m < 9000000000000000000)) (HBy : Aside0 (Bytes zs)) (HS : Aside0 (Sl w1 B (.slice (some ad) m c) zs)) (HAL : Aside0 (Below w.heap.size w w1)) (HB : Aside0 (B ≤ w1.heap.size)) (HBX : Aside0 (w1.heap[w.heap.size]? = some (.cells #[.int .u32 fl] 116 (0, 0))))
    (HSA : Aside0 (StrAt zs e 1 l)) (HK : Aside0 (FirstAt zs k)) (HF : Aside0 (Fl fl p q)) (HQ : Aside0 (q = true → 92 ∉ zs)) {u3 u4 u5 u6 u7 u9 u10 u11 u12 u13 u14 u15 u16 u17 u18 u19 u20 u21 u22 u23 u24 u25 u26 u27 u28 u29 u30 u31 u32 u33 u34 u35 u36 u37 u38 u39 u40 u41 u42 u43 u44 u45 u46 u47 u48 u49 u50 u51 u52 u53 u54 u55 u56 u57 u58 u59 u60 u61 u62 u63 u64 u65 u66 u67 u68 u69 u70 u71 u72 u73 u74 u75 u76 u77 u78 u79 u80 u81 u82 u83 u84 u85 u86 u87 u88 u89 u90 u91 u92 u93 u94 u95 u96 u97 u98 u99 u100 u101 u102 u103 u104 u105 u106 u107 u108 u109 u110 u111 u112 u113 u114 u115 u116 u117 u118 u119 u120 u121 u122 u123 u124 u125 u126 u127 u128 u129 u130 u131 u132 u133 u134 u135 u136 u137 u138 u139 u140 u141 u142 u143 u144 u145 u146 u147 u148 u149 u150 u151 u152 u153 u154 u155 u156 u157 u158 u159 u160 u161 u162 u163 u164 u165 u166 u167 u168 u169 u170 u171 u172 u173 u174 u175 u176 u177 u178 u179 u180 u181 u182 u183 u184 u185 u186 u187 u188 u189 u190 u191 u192 u193 u194 u195 u196 u197 u198 u199 u200 u201 u202 u203 u204 : Value} :
    Code.wp Tryd.prog (strCode 7) (Exit.noGoto (bodyPost Tryd.prog Tryd.f80 (StrPostS w B e p l zs))) ⟨#[.agg #[.int .u32 fl], .slice (some ad) m c, .pointer (some ⟨w.heap.size, 0, none⟩), u3, u4, u5, u6, u7, .int .i64 (k : Int), u9, u10, u11, u12, u13, u14, u15, u16, u17, u18, u19, u20, u21, u22, u23, u24, u25, u26, u27, u28, u29, u30, u31, u32, u33, u34, u35, u36, u37, u38, u39, u40, u41, u42, u43, u44, u45, u46, u47, u48, u49, u50, u51, u52, u53, u54, u55, u56, u57, u58, u59, u60, u61, u62, u63, u64, u65, u66, u67, u68, u69, u70, u71, u72, u73, u74, u75, u76, u77, u78, u79, u80, u81, u82, u83, u84, u85, u86, u87, u88, u89, u90, u91, u92, u93, u94, u95, u96, u97, u98, u99, u100, u101, u102, u103, u104, u105, u106, u107, u108, u109, u110, u111, u112, u113, u114, u115, u116, u117, u118, u119, u120, u121, u122, u123, u124, u125, u126, u127, u128, u129, u130, u131, u132, u133, u134, u135, u136, u137, u138, u139, u140, u141, u142, u143, u144, u145, u146, u147, u148, u149, u150, u151, u152, u153, u154, u155, u156, u157, u158, u159, u160, u161, u162, u163, u164, u165, u166, u167, u168, u169, u170, u171, u172, u173, u174, u175, u176, u177, u178, u179, u180, u181, u182, u183, u184, u185, u186, u187, u188, u189, u190, u191, u192, u193, u194, u195, u196, u197, u198, u199, u200, u201, u202, u203, u204], []⟩ w1 := by
  conv => arg 2; whnf
  refine wp_seam (fun K hK => ?_)
  have hkm : k ≤ m := by rw [HM.out]; exact HK.out.hi
  have hk1 : 1 ≤ k := by have := HK.out.lo; omega
  obtain ⟨A', hcutM, hdM⟩ := HS.out.mid 22 1 k 1 (k : Int) .i64 .i64 Tryd.underlying22 rfl rfl hk1 hkm
  obtain ⟨A2, hcutA, hcutB, hdA, hdB⟩ := HS.out.both 22 k (k : Int) .i64 Tryd.underlying22 rfl hkm
  have HDD := Aside0.mk (And.intro hdA hdB)
  have hbx' : w1.cell? ⟨w.heap.size, 0, none⟩ = some (.int .u32 fl) := (blk_cell HBX.out 0).trans rfl
  have hby : Bytes ((zs.take k).drop 1) := HBy.out.sub (fun c hc => List.mem_of_mem_take (List.mem_of_mem_drop hc))
  have hly : ((zs.take k).drop 1).length < 9000000000000000000 := by
    have := HL.out
    rw [List.length_drop, List.length_take]; omega
  have HI := Aside0.mk (fun (W : World) (hW : Below w1.heap.size w1 W) => index_calls W B A' (k - 1) (c - 1) _ 92 (hdM.below (hW.mono HB.out)) hby (by decide) (by decide))
  have HP := Aside0.mk (fun (W : World) (hW : Below w1.heap.size w1 W) => print_calls W B A' (k - 1) (c - 1) _ (hdM.below (hW.mono HB.out)) hby hly)
  have HGE := Aside0.mk (idx_ge 92 ((zs.take k).drop 1))
  have HIN := Aside0.mk (idx_none 92 ((zs.take k).drop 1))
  obtain ⟨ix, hix⟩ : ∃ ix, ix = idx ((zs.take k).drop 1) 92 := ⟨_, rfl⟩
  obtain ⟨pp, hpp⟩ : ∃ pp, pp = ((zs.take k).drop 1).all prn := ⟨_, rfl⟩
  rw [← hix] at HI HGE HIN
  rw [← hpp] at HP
  have HPP := Aside0.mk hpp.symm
  clear hdM hdA hdB hby hly hix hpp
  have h92q : q = true → 92 ∉ (zs.take k).drop 1 := fun h hm => HQ.out h (List.mem_of_mem_take (List.mem_of_mem_drop hm))
  have H9 := Aside0.mk h92q
  clear h92q
  cases q
  case true =>
    cases p
    case true =>
      go_upto_region 20 with (first | (go_at_call 116; (with_reducible refine (has_q HF.out _).mono ?_); rintro en w2 ⟨rfl, rfl⟩) | (go_at_call 116; (with_reducible refine (has_p HF.out _).mono ?_); rintro en w2 ⟨rfl, rfl⟩) | (go_at_call 112; (with_reducible refine (HI.out _ (Below.refl _ _)).mono ?_); rintro en w3 ⟨rfl, rfl⟩) | (go_at_call 111; (with_reducible refine (HP.out _ (Below.refl _ _)).mono ?_); rintro en w4 ⟨rfl, hb4⟩; have HB4 := Aside0.mk hb4; clear hb4))
      go_quiet (fail)
      go_wp2_with fail
      (try rw [Exit.noGoto_ret])
      go_returns
      obtain ⟨hke, hl92⟩ := first_end HSA.out HK.out (H9.out (by trivial))
      exact ⟨_, _, 9, rfl, .inl ⟨rfl, hl92, fun h => by cases h⟩, hke ▸ HDD.out.1.below (pw_below_drewN ((Below.refl _ _).mono HB.out) _), hke ▸ HDD.out.2.below (pw_below_drewN ((Below.refl _ _).mono HB.out) _), pw_below_drewN (HAL.out.trans ((Below.refl _ _).mono HAL.out.size)) _⟩
    case false =>
      cases pp
      case true =>
        go_upto_region 20 with (first | (go_at_call 116; (with_reducible refine (has_q HF.out _).mono ?_); rintro en w2 ⟨rfl, rfl⟩) | (go_at_call 116; (with_reducible refine (has_p HF.out _).mono ?_); rintro en w2 ⟨rfl, rfl⟩) | (go_at_call 112; (with_reducible refine (HI.out _ (Below.refl _ _)).mono ?_); rintro en w3 ⟨rfl, rfl⟩) | (go_at_call 111; (with_reducible refine (HP.out _ (Below.refl _ _)).mono ?_); rintro en w4 ⟨rfl, hb4⟩; have HB4 := Aside0.mk hb4; clear hb4))
        go_quiet (fail)
        go_wp2_with fail
        (try rw [Exit.noGoto_ret])
        go_returns
        obtain ⟨hke, hl92⟩ := first_end HSA.out HK.out (H9.out (by trivial))
        exact ⟨_, _, 9, rfl, .inl ⟨rfl, hl92, fun _ => first_all HSA.out hke HK.out.hi HPP.out⟩, hke ▸ HDD.out.1.below (pw_below_drewN (HB4.out.mono HB.out) _), hke ▸ HDD.out.2.below (pw_below_drewN (HB4.out.mono HB.out) _), pw_below_drewN (HAL.out.trans (HB4.out.mono HAL.out.size)) _⟩
      case false =>
        go_wp2_with (first | (go_at_call 116; (with_reducible refine (has_q HF.out _).mono ?_); rintro en w2 ⟨rfl, rfl⟩) | (go_at_call 116; (with_reducible refine (has_p HF.out _).mono ?_); rintro en w2 ⟨rfl, rfl⟩) | (go_at_call 112; (with_reducible refine (HI.out _ (Below.refl _ _)).mono ?_); rintro en w3 ⟨rfl, rfl⟩) | (go_at_call 111; (with_reducible refine (HP.out _ (Below.refl _ _)).mono ?_); rintro en w4 ⟨rfl, hb4⟩; have HB4 := Aside0.mk hb4; clear hb4))
        exact ⟨str_t8 w _ B ad m c fl zs l e _ hmx HM ⟨HS.out.below (HB4.out.mono HB.out)⟩ ⟨HAL.out.trans (HB4.out.mono HAL.out.size)⟩ ⟨Nat.le_trans HB.out HB4.out.size⟩ ⟨blk_below HBX.out HB4.out⟩ HSA ⟨first_prn HSA.out HK.out HPP.out⟩⟩
  case false =>
    by_cases hx : ix < 0
    · have H8 := Aside0.mk (HIN.out.1 (by have := HGE.out; omega))
      cases p
      case true =>
        go_upto_region 20 with (first | (go_at_call 116; (with_reducible refine (has_q HF.out _).mono ?_); rintro en w2 ⟨rfl, rfl⟩) | (go_at_call 116; (with_reducible refine (has_p HF.out _).mono ?_); rintro en w2 ⟨rfl, rfl⟩) | (go_at_call 112; (with_reducible refine (HI.out _ (Below.refl _ _)).mono ?_); rintro en w3 ⟨rfl, rfl⟩) | (go_at_call 111; (with_reducible refine (HP.out _ (Below.refl _ _)).mono ?_); rintro en w4 ⟨rfl, hb4⟩; have HB4 := Aside0.mk hb4; clear hb4))
        go_quiet (fail)
        go_wp2_with fail
        (try rw [Exit.noGoto_ret])
        go_returns
        obtain ⟨hke, hl92⟩ := first_end HSA.out HK.out H8.out
        exact ⟨_, _, 9, rfl, .inl ⟨rfl, hl92, fun h => by cases h⟩, hke ▸ HDD.out.1.below (pw_below_drewN ((Below.refl _ _).mono HB.out) _), hke ▸ HDD.out.2.below (pw_below_drewN ((Below.refl _ _).mono HB.out) _), pw_below_drewN (HAL.out.trans ((Below.refl _ _).mono HAL.out.size)) _⟩
      case false =>
        cases pp
        case true =>
          go_upto_region 20 with (first | (go_at_call 116; (with_reducible refine (has_q HF.out _).mono ?_); rintro en w2 ⟨rfl, rfl⟩) | (go_at_call 116; (with_reducible refine (has_p HF.out _).mono ?_); rintro en w2 ⟨rfl, rfl⟩) | (go_at_call 112; (with_reducible refine (HI.out _ (Below.refl _ _)).mono ?_); rintro en w3 ⟨rfl, rfl⟩) | (go_at_call 111; (with_reducible refine (HP.out _ (Below.refl _ _)).mono ?_); rintro en w4 ⟨rfl, hb4⟩; have HB4 := Aside0.mk hb4; clear hb4))
          go_quiet (fail)
          go_wp2_with fail
          (try rw [Exit.noGoto_ret])
          go_returns
          obtain ⟨hke, hl92⟩ := first_end HSA.out HK.out H8.out
          exact ⟨_, _, 9, rfl, .inl ⟨rfl, hl92, fun _ => first_all HSA.out hke HK.out.hi HPP.out⟩, hke ▸ HDD.out.1.below (pw_below_drewN (HB4.out.mono HB.out) _), hke ▸ HDD.out.2.below (pw_below_drewN (HB4.out.mono HB.out) _), pw_below_drewN (HAL.out.trans (HB4.out.mono HAL.out.size)) _⟩
        case false =>
          go_wp2_with (first | (go_at_call 116; (with_reducible refine (has_q HF.out _).mono ?_); rintro en w2 ⟨rfl, rfl⟩) | (go_at_call 116; (with_reducible refine (has_p HF.out _).mono ?_); rintro en w2 ⟨rfl, rfl⟩) | (go_at_call 112; (with_reducible refine (HI.out _ (Below.refl _ _)).mono ?_); rintro en w3 ⟨rfl, rfl⟩) | (go_at_call 111; (with_reducible refine (HP.out _ (Below.refl _ _)).mono ?_); rintro en w4 ⟨rfl, hb4⟩; have HB4 := Aside0.mk hb4; clear hb4))
          exact ⟨str_t8 w _ B ad m c fl zs l e _ hmx HM ⟨HS.out.below (HB4.out.mono HB.out)⟩ ⟨HAL.out.trans (HB4.out.mono HAL.out.size)⟩ ⟨Nat.le_trans HB.out HB4.out.size⟩ ⟨blk_below HBX.out HB4.out⟩ HSA ⟨first_prn HSA.out HK.out HPP.out⟩⟩
    · have H8 := Aside0.mk (show 92 ∈ (zs.take k).drop 1 from Classical.byContradiction (fun hn => hx (by rw [HIN.out.2 hn]; decide)))
      go_wp2_with (first | (go_at_call 116; (with_reducible refine (has_q HF.out _).mono ?_); rintro en w2 ⟨rfl, rfl⟩) | (go_at_call 116; (with_reducible refine (has_p HF.out _).mono ?_); rintro en w2 ⟨rfl, rfl⟩) | (go_at_call 112; (with_reducible refine (HI.out _ (Below.refl _ _)).mono ?_); rintro en w3 ⟨rfl, rfl⟩) | (go_at_call 111; (with_reducible refine (HP.out _ (Below.refl _ _)).mono ?_); rintro en w4 ⟨rfl, hb4⟩; have HB4 := Aside0.mk hb4; clear hb4))
      exact ⟨str_t8 w _ B ad m c fl zs l e _ hmx HM HS HAL HB HBX HSA ⟨first_92 HSA.out HK.out H8.out⟩⟩
end Go.Proofs.YtekmminmgjoabaaDoor.Js

