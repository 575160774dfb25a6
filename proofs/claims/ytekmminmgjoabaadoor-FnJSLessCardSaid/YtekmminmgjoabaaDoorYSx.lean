/- parseString on a string that is cut: it tells an error. The slow road, the first mark. parseString on a string that is cut: it tells an error. parseNumber on a beginning of a number that is none itself: it tells an error. Printed by cutn.py. -/
import Derived.Test.YtekmminmgjoabaaDoorYRf
import Derived.Test.YtekmminmgjoabaaDoorYRg
namespace Go.Proofs.YtekmminmgjoabaaDoor.Js
open Go.RowKit Go.Proofs.YtekmminmgjoabaaDoorW.PrintWords Go.Proofs.YtekmminmgjoabaaDoorW.PrintLast Go.Proofs.YtekmminmgjoabaaDoorW.PrintMore Go.Proofs.YtekmminmgjoabaaDoor.PFnJSTokens
set_option linter.unusedVariables false
set_option linter.unusedSimpArgs false
/-- An error is told. -/
def FailS (w : World) (en : Ending) (w' : World) : Prop := ∃ v1 v2 K g, en = .returned (.tuple #[v1, v2, .int .u64 K, .iface 186 (.pointer (some ⟨g, 0, none⟩))]) ∧ Below w.heap.size w w'
/-- Behind i bytes stands a beginning of a string's inside, and nothing more. -/
structure StrCut (zs : List Int) (i : Nat) (l : List Int) : Prop where
  str : Str l
  at_ : ∀ j, i + j < zs.length → j < l.length ∧ zs.getD (i + j) 0 = l.getD j 0
theorem StrCut.next {zs l : List Int} {i : Nat} (h : StrCut zs i l) (hi : i < zs.length) :
    (∃ l', zs.getD i 0 ≠ 34 ∧ zs.getD i 0 ≠ 92 ∧ 32 ≤ zs.getD i 0 ∧ StrCut zs (i + 1) l') ∨
    (zs.getD i 0 = 92 ∧ zs.length ≤ i + 1) ∨
    (∃ l', i + 1 < zs.length ∧ zs.getD i 0 = 92 ∧ (zs.getD (i + 1) 0 = 34 ∨ zs.getD (i + 1) 0 = 92 ∨ zs.getD (i + 1) 0 = 47 ∨ zs.getD (i + 1) 0 = 110 ∨ zs.getD (i + 1) 0 = 114 ∨ zs.getD (i + 1) 0 = 116 ∨ zs.getD (i + 1) 0 = 102 ∨ zs.getD (i + 1) 0 = 98) ∧ StrCut zs (i + 2) l') ∨
    (i + 1 < zs.length ∧ zs.getD i 0 = 92 ∧ zs.getD (i + 1) 0 = 117 ∧ zs.length < i + 6) ∨
    (∃ l', i + 5 < zs.length ∧ zs.getD i 0 = 92 ∧ zs.getD (i + 1) 0 = 117 ∧ Hex (zs.getD (i + 2) 0) ∧ Hex (zs.getD (i + 3) 0) ∧ Hex (zs.getD (i + 4) 0) ∧ Hex (zs.getD (i + 5) 0) ∧ StrCut zs (i + 6) l') := by
  obtain ⟨h1, h3⟩ := h
  have h0 := h3 0 (by omega)
  rw [Nat.add_zero] at h0
  cases h1 with
  | nil => exact absurd h0.1 (by simp)
  | @raw c l g1 g2 g3 g4 hs =>
    have e0 : zs.getD i 0 = c := by simpa using h0.2
    refine .inl ⟨l, by rw [e0]; exact g3, by rw [e0]; exact g4, by rw [e0]; exact g1, hs, fun j hj => ?_⟩
    have := h3 (j + 1) (by omega)
    rw [show i + 1 + j = i + (j + 1) by omega]
    simpa using this
  | @esc c l g1 hs =>
    have e0 : zs.getD i 0 = 92 := by simpa using h0.2
    by_cases hl : i + 1 < zs.length
    · have e1 : zs.getD (i + 1) 0 = c := by simpa using (h3 1 (by omega)).2
      refine .inr (.inr (.inl ⟨l, hl, e0, by rw [e1]; exact g1, hs, fun j hj => ?_⟩))
      have := h3 (j + 2) (by omega)
      rw [show i + 2 + j = i + (j + 2) by omega]
      simpa using this
    · exact .inr (.inl ⟨e0, by omega⟩)
  | @uni a b c d l ga gb gc gd hs =>
    have e0 : zs.getD i 0 = 92 := by simpa using h0.2
    by_cases hl : i + 1 < zs.length
    · have e1 : zs.getD (i + 1) 0 = 117 := by simpa using (h3 1 (by omega)).2
      by_cases hl5 : i + 5 < zs.length
      · have e2 : zs.getD (i + 2) 0 = a := by simpa using (h3 2 (by omega)).2
        have e3 : zs.getD (i + 3) 0 = b := by simpa using (h3 3 (by omega)).2
        have e4 : zs.getD (i + 4) 0 = c := by simpa using (h3 4 (by omega)).2
        have e5 : zs.getD (i + 5) 0 = d := by simpa using (h3 5 (by omega)).2
        refine .inr (.inr (.inr (.inr ⟨l, hl5, e0, e1, by rw [e2]; exact ga, by rw [e3]; exact gb, by rw [e4]; exact gc, by rw [e5]; exact gd, hs, fun j hj => ?_⟩)))
        have := h3 (j + 6) (by omega)
        rw [show i + 6 + j = i + (j + 6) by omega]
        simpa using this
      · exact .inr (.inr (.inr (.inl ⟨hl, e0, e1, by omega⟩)))
    · exact .inr (.inl ⟨e0, by omega⟩)
set_option maxHeartbeats 4000000 in
set_option maxRecDepth 100000 in
theorem uni_short (w : World) (A : Option Addr) (n c : Nat) (fl : Int) (h4 : n < 4) : Calls Tryd.prog 117 #[.agg #[.int .u32 fl], .slice A n c] w fun e w' => ∃ g, e = .returned (.tuple #[.int .i32 0, .int .i64 (n : Int), .iface 186 (.pointer (some ⟨g, 0, none⟩))]) ∧ Below w.heap.size w w' := by
  have hlt : (n : Int) < 4 := by omega
  have dlt : decide (n < 4) = true := by simpa using h4
  have HAL := Aside0.mk (below_alloc (Below.refl w.heap.size w) (.cells #[.int .u32 fl] 116))
  clear h4
  go_enter Tryd.func117, Tryd.ntmps117
  go_wp2_with (go_at_call 85; (with_reducible refine (syntax_err _ _ _ _).mono ?_); rintro en w4 ⟨⟨g, rfl⟩, hb⟩; have HB4 := Aside0.mk (HAL.out.trans (hb.mono HAL.out.size)); clear hb)
  go_returns
  exact ⟨g, rfl, HB4.out⟩
set_option maxHeartbeats 4000000 in
set_option maxRecDepth 100000 in
theorem cut_t8 (w w1 : World) (B : Nat) (ad : Addr) (m c : Nat) (fl : Int) (zs l : List Int) (hmx : m ≤ 9000000000000000000) (HM : Aside0 (m = zs.length)) (HS : Aside0 (Sl w1 B (.slice (some ad) m c) zs)) (HAL : Aside0 (Below w.heap.size w w1)) (HB : Aside0 (B ≤ w1.heap.size)) (HBX : Aside0 (w1.heap[w.heap.size]? = some (.cells #[.int .u32 fl] 116 (0, 0))))
    (HSA : Aside0 (StrCut zs 1 l)) {u3 u4 u5 u6 u7 u8 u9 u10 u11 u12 u13 u14 u15 u16 u17 u18 u19 u20 u21 u22 u23 u24 u25 u26 u27 u28 u29 u30 u31 u32 u33 u34 u35 u36 u37 u38 u39 u40 u41 u42 u43 u44 u45 u46 u47 u48 u49 u50 u51 u52 u53 u54 u55 u56 u57 u58 u59 u60 u61 u62 u63 u64 u65 u66 u67 u68 u69 u70 u71 u72 u73 u74 u75 u76 u77 u78 u79 u80 u81 u82 u83 u84 u85 u86 u87 u88 u89 u90 u91 u92 u93 u94 u95 u96 u97 u98 u99 u100 u101 u102 u103 u104 u105 u106 u107 u108 u109 u110 u111 u112 u113 u114 u115 u116 u117 u118 u119 u120 u121 u122 u123 u124 u125 u126 u127 u128 u129 u130 u131 u132 u133 u134 u135 u136 u137 u138 u139 u140 u141 u142 u143 u144 u145 u146 u147 u148 u149 u150 u151 u152 u153 u154 u155 u156 u157 u158 u159 u160 u161 u162 u163 u164 u165 u166 u167 u168 u169 u170 u171 u172 u173 u174 u175 u176 u177 u178 u179 u180 u181 u182 u183 u184 u185 u186 u187 u188 u189 u190 u191 u192 u193 u194 u195 u196 u197 u198 u199 u200 u201 u202 u203 u204 : Value} :
    Code.wp Tryd.prog (strCode 8) (Exit.noGoto (bodyPost Tryd.prog Tryd.f80 (FailS w))) ⟨#[.agg #[.int .u32 fl], .slice (some ad) m c, .pointer (some ⟨w.heap.size, 0, none⟩), u3, u4, u5, u6, u7, u8, u9, u10, u11, u12, u13, u14, u15, u16, u17, u18, u19, u20, u21, u22, u23, u24, u25, u26, u27, u28, u29, u30, u31, u32, u33, u34, u35, u36, u37, u38, u39, u40, u41, u42, u43, u44, u45, u46, u47, u48, u49, u50, u51, u52, u53, u54, u55, u56, u57, u58, u59, u60, u61, u62, u63, u64, u65, u66, u67, u68, u69, u70, u71, u72, u73, u74, u75, u76, u77, u78, u79, u80, u81, u82, u83, u84, u85, u86, u87, u88, u89, u90, u91, u92, u93, u94, u95, u96, u97, u98, u99, u100, u101, u102, u103, u104, u105, u106, u107, u108, u109, u110, u111, u112, u113, u114, u115, u116, u117, u118, u119, u120, u121, u122, u123, u124, u125, u126, u127, u128, u129, u130, u131, u132, u133, u134, u135, u136, u137, u138, u139, u140, u141, u142, u143, u144, u145, u146, u147, u148, u149, u150, u151, u152, u153, u154, u155, u156, u157, u158, u159, u160, u161, u162, u163, u164, u165, u166, u167, u168, u169, u170, u171, u172, u173, u174, u175, u176, u177, u178, u179, u180, u181, u182, u183, u184, u185, u186, u187, u188, u189, u190, u191, u192, u193, u194, u195, u196, u197, u198, u199, u200, u201, u202, u203, u204], []⟩ w1 := by
  conv => arg 2; whnf
  refine wp_seam (fun K hK => ?_)
  obtain ⟨A9, hcut9, -⟩ := HS.out.next 22 m .i64 Tryd.underlying22 (Nat.le_refl _)
  have HC9 := Aside0.mk hcut9
  clear hcut9
  go_upto_region 22 with (fail)
  go_loopg [12] (m + 1) (fun n v12 w' => ∃ (i : Nat) (l' : List Int), v12 = .int .i64 (i : Int) ∧ Aside0 (i + n = m + 2 ∧ i ≤ m + 1) ∧ Aside0 (i < m → StrCut zs i l') ∧ Aside0 (Below w1.heap.size w1 w'))
  case atStart => exact ⟨1, l, rfl, ⟨by omega, by omega⟩, ⟨fun _ => HSA.out⟩, ⟨Below.refl _ _⟩⟩
  case round =>
    obtain ⟨i, l', rfl, HI, HA, HW⟩ := hrel
    by_cases him : i < m
    · have dlt : decide (i < m) = true := by simpa using him
      have HSr := Aside0.mk (HS.out.below (HW.out.mono HB.out))
      obtain ⟨ad2, had, c2, -⟩ := HSr.out.at_ i him
      obtain rfl : ad = ad2 := by injection had
      have hnx := (HA.out him).next (by rw [← HM.out]; exact him)
      rw [← HM.out] at hnx
      obtain ⟨d1, hd1⟩ : ∃ d1, d1 = zs.getD i 0 := ⟨_, rfl⟩
      rw [← hd1] at c2 hnx
      clear hd1 had
      rcases hnx with ⟨l1, n1, n2, n3, hs⟩ | ⟨rfl, hie⟩ | ⟨l1, hie, rfl, hes, hs⟩ | ⟨hie, rfl, h117, hsh⟩ | ⟨l1, hie, rfl, h117, hx0, hx1, hx2, hx3, hs⟩
      · -- as it stands
        have hn1 : (d1 == 92) = false := by rw [beq_eq_false_iff_ne]; exact n2
        have hn2 : (d1 == 34) = false := by rw [beq_eq_false_iff_ne]; exact n1
        have hn3 : ¬ d1 < 32 := by omega
        have HSS := Aside0.mk hs
        clear n1 n2 n3 hs
        go_wp2_with fail
        go_roundg (m + 1 - i)
        case measure => have := HI.out; omega
        case rel => exact ⟨i + 1, l1, by go_num, ⟨by have := HI.out; omega, by omega⟩, ⟨fun _ => HSS.out⟩, HW⟩
      · -- the end is behind a backslash
        obtain ⟨i1, hi1⟩ : ∃ i1, i1 = i + 1 := ⟨_, rfl⟩
        have HE := Aside0.mk (show (i : Int) + 1 = (i1 : Int) by omega)
        have HI1 := Aside0.mk (show i1 = i + 1 ∧ m = i1 by omega)
        have dlt2 : decide (i1 < m) = false := by simp; omega
        have hnl : ¬ i1 < m := by omega
        have hib : (i1 : Int) ≤ 9000000000000000000 := by omega
        clear hi1 hie
        go_upto_region 29 with (fail)
        rw [HE.out]
        clear c2 dlt him
        go_wp2_with fail
        go_roundg (m + 1 - i1)
        case measure => have := HI.out; have := HI1.out; omega
        case rel => exact ⟨i1 + 1, l', by go_num, ⟨by have := HI1.out; omega, by have := HI1.out; omega⟩, ⟨fun h => absurd h (by have := HI1.out; omega)⟩, HW⟩
      · -- an escape
        obtain ⟨ad3, had3, c3, -⟩ := HSr.out.at_ (i + 1) hie
        obtain rfl : ad = ad3 := by injection had3
        obtain ⟨d2, hd2⟩ : ∃ d2, d2 = zs.getD (i + 1) 0 := ⟨_, rfl⟩
        rw [← hd2] at c3 hes
        obtain ⟨i1, hi1⟩ : ∃ i1, i1 = i + 1 := ⟨_, rfl⟩
        have HE := Aside0.mk (show (i : Int) + 1 = (i1 : Int) by omega)
        have HI1 := Aside0.mk hi1
        rw [← hi1] at c3 hie
        have hs' : StrCut zs (i1 + 1) l1 := by rw [hi1]; exact hs
        have HSS := Aside0.mk hs'
        have HIE := Aside0.mk hie
        have dlt2 : decide (i1 < m) = true := by simpa using hie
        clear hd2 had3 hi1 hs hs'
        go_upto_region 29 with (fail)
        rw [HE.out]
        clear c2 dlt him
        rcases hes with rfl | rfl | rfl | rfl | rfl | rfl | rfl | rfl
        all_goals
          go_wp2_with fail
          go_roundg (m + 1 - i1)
          case measure => have := HI.out; have := HI1.out; have := HIE.out; omega
          case rel => exact ⟨i1 + 1, l1, by go_num, ⟨by have := HIE.out; omega, by have := HIE.out; omega⟩, ⟨fun _ => HSS.out⟩, HW⟩
      · -- a number that is cut
        obtain ⟨ad3, had3, c3, -⟩ := HSr.out.at_ (i + 1) hie
        obtain rfl : ad = ad3 := by injection had3
        rw [h117] at c3
        obtain ⟨i1, hi1⟩ : ∃ i1, i1 = i + 1 := ⟨_, rfl⟩
        have HE := Aside0.mk (show (i : Int) + 1 = (i1 : Int) by omega)
        have HI1 := Aside0.mk hi1
        rw [← hi1] at c3 hie
        have dlt2 : decide (i1 < m) = true := by simpa using hie
        obtain ⟨A', -, hcutB, -, hdB⟩ := HSr.out.both 22 (i1 + 1) ((i1 : Int) + 1) .i64 Tryd.underlying22 (by omega) (by omega)
        obtain ⟨n3, hn3⟩ : ∃ n3, n3 = m - (i1 + 1) := ⟨_, rfl⟩
        rw [← hn3] at hcutB
        have hn4 : n3 < 4 := by omega
        have HU := Aside0.mk (fun (W : World) => uni_short W A' n3 (c - (i1 + 1)) fl hn4)
        have hbx' : wr.cell? ⟨w.heap.size, 0, none⟩ = some (.int .u32 fl) := (blk_cell (blk_below HBX.out HW.out) 0).trans rfl
        have HSM := Aside0.mk (show (i1 : Int) + 1 + (n3 : Int) = (m : Int) by omega)
        have hib : (i1 : Int) + 1 ≤ 9000000000000000000 := by omega
        have hmb : (m : Int) ≤ 9000000000000000000 := by omega
        have hsum : IntKind.i64.wrap ((i1 : Int) + 1) = (i1 : Int) + 1 := IntWalk.i64_in _ (by omega)
        clear had3 hi1 h117 hdB hn3 hsh hn4
        go_upto_region 29 with (fail)
        rw [HE.out]
        clear c2 dlt him
        go_upto_region 41 with (fail)
        go_region_with (go_at_call 117; (with_reducible refine (HU.out _).mono ?_); rintro en w4 ⟨g, rfl, hb4⟩; have HB4 := Aside0.mk hb4; clear hb4)
        all_goals
          have HW4 : Aside0 (Below w.heap.size w w4) := by
            first
            | exact ⟨HAL.out.trans ((HW.out.trans (HB4.out.mono HW.out.size)).mono HAL.out.size)⟩
            | exact ⟨HAL.out.trans (((below_drew HW.out).trans (HB4.out.mono (below_drew HW.out).size)).mono HAL.out.size)⟩
          have hsm := HSM.out
          have hsum2 : IntKind.i64.wrap ((i1 : Int) + 1 + (n3 : Int)) = (m : Int) := by rw [hsm]; exact IntWalk.i64_in _ (by omega)
          have hc9 := HC9.out
          clear hsm c3 hbx' hcutB
          go_upto_region 43 with (fail)
          go_quiet (fail)
          go_wp2_with fail
          (try rw [Exit.noGoto_ret])
          go_returns
          exact ⟨_, _, 0, g, rfl, by first | exact HW4.out | exact pw_below_drewN HW4.out _ | exact below_drew HW4.out | exact pw_below_drewN (below_drew HW4.out) _⟩
      · -- a number
        have hie2 : i + 1 < m := by omega
        obtain ⟨ad3, had3, c3, -⟩ := HSr.out.at_ (i + 1) hie2
        obtain rfl : ad = ad3 := by injection had3
        rw [h117] at c3
        obtain ⟨i1, hi1⟩ : ∃ i1, i1 = i + 1 := ⟨_, rfl⟩
        have HE := Aside0.mk (show (i : Int) + 1 = (i1 : Int) by omega)
        have HI1 := Aside0.mk hi1
        rw [← hi1] at c3 hie2
        have hs' : StrCut zs (i1 + 5) l1 := by rw [hi1]; exact hs
        have HSS := Aside0.mk hs'
        have HIE := Aside0.mk (show i1 + 4 < m by omega)
        have dlt2 : decide (i1 < m) = true := by simpa using hie2
        obtain ⟨A', -, hcutB, -, hdB⟩ := HSr.out.both 22 (i1 + 1) ((i1 : Int) + 1) .i64 Tryd.underlying22 (by omega) (by omega)
        have hex : ∀ j, j < 4 → Hex ((zs.drop (i1 + 1)).getD j 0) := by
          intro j hj
          rw [List.getD_eq_getElem?_getD, List.getElem?_drop, ← List.getD_eq_getElem?_getD, hi1]
          rcases (by omega : j = 0 ∨ j = 1 ∨ j = 2 ∨ j = 3) with rfl | rfl | rfl | rfl
          · exact hx0
          · exact hx1
          · exact hx2
          · exact hx3
        have hl4 : 4 ≤ (zs.drop (i1 + 1)).length := by
          rw [List.length_drop, ← HM.out]
          omega
        have hi5 : (i1 : Int) + 5 ≤ (m : Int) := by omega
        have HBr := Aside0.mk (Nat.le_trans HB.out HW.out.size)
        have HU := Aside0.mk (fun (W : World) (hW : Below wr.heap.size wr W) => uni_calls W B A' (m - (i1 + 1)) (c - (i1 + 1)) fl (zs.drop (i1 + 1)) (hdB.below (hW.mono HBr.out)) hl4 hex (Nat.le_trans HBr.out hW.size))
        have hbx' : wr.cell? ⟨w.heap.size, 0, none⟩ = some (.int .u32 fl) := (blk_cell (blk_below HBX.out HW.out) 0).trans rfl
        clear had3 hi1 hs hs' hie hx0 hx1 hx2 hx3 h117 hdB hex hl4
        go_upto_region 29 with (fail)
        rw [HE.out]
        clear c2 dlt him
        go_upto_region 41 with (fail)
        have hsum : IntKind.i64.wrap ((i1 : Int) + 1) = (i1 : Int) + 1 := IntWalk.i64_in _ (by omega)
        go_region_with (go_at_call 117; (with_reducible refine (HU.out _ ?_).mono ?_); (first | exact below_drew (Below.refl _ _) | exact Below.refl _ _); rintro en w4 ⟨rfl, hb4⟩; have HB4 := Aside0.mk hb4; clear hb4)
        all_goals
          clear hsum
          go_wp2_with fail
          go_roundg (m + 1 - (i1 + 4))
          case measure => have := HI.out; have := HIE.out; have := HI1.out; omega
          case rel =>
            refine ⟨i1 + 5, l1, congrArg (Value.int .i64) (by omega), ⟨by have := HIE.out; omega, by have := HIE.out; omega⟩, ⟨fun _ => HSS.out⟩, ⟨?_⟩⟩
            first
            | exact HW.out.trans (HB4.out.mono HW.out.size)
            | exact (below_drew HW.out).trans (HB4.out.mono (below_drew HW.out).size)
            | exact below_drew (HW.out.trans (HB4.out.mono HW.out.size))
            | exact below_drew ((below_drew HW.out).trans (HB4.out.mono (below_drew HW.out).size))
    · have dlt : decide (i < m) = false := by simpa using him
      have hib : (i : Int) ≤ 9000000000000000001 := by have := HI.out.2; omega
      have hc9 := HC9.out
      go_wp2_with fail
      rename_i Kx hKx
      refine ⟨?_⟩
      go_upto_region 47 with (fail)
      go_region_with (go_at_call 85; (with_reducible refine (syntax_err _ _ _ _).mono ?_); rintro en w4 ⟨⟨g, rfl⟩, hb4⟩; have HB4 := Aside0.mk hb4; clear hb4)
      all_goals
        have HW4 : Aside0 (Below w.heap.size w w4) := by
          first
          | exact ⟨HAL.out.trans ((HW.out.trans (HB4.out.mono HW.out.size)).mono HAL.out.size)⟩
          | exact ⟨HAL.out.trans (((below_drew HW.out).trans (HB4.out.mono (below_drew HW.out).size)).mono HAL.out.size)⟩
        go_wp2_with fail
        (try rw [Exit.noGoto_ret])
        go_returns
        exact ⟨_, _, 0, g, rfl, by first | exact HW4.out | exact below_drew HW4.out⟩
end Go.Proofs.YtekmminmgjoabaaDoor.Js

namespace Go.Proofs.YtekmminmgjoabaaDoor.Js
open Go.RowKit Go.Proofs.YtekmminmgjoabaaDoorW.PrintWords Go.Proofs.YtekmminmgjoabaaDoorW.PrintLast Go.Proofs.YtekmminmgjoabaaDoorW.PrintMore Go.Proofs.YtekmminmgjoabaaDoor.PFnJSTokens
set_option linter.unusedVariables false
set_option linter.unusedSimpArgs false
/-- The first mark behind the opening one is byte number k - 1; or there is none, and k - 1 bytes stand there. -/
structure FA (zs : List Int) (k : Nat) : Prop where
  lo : 2 ≤ k
  hi : k ≤ zs.length + 1
  mark : k ≤ zs.length → zs.getD (k - 1) 0 = 34
  none : ∀ j, 1 ≤ j → j + 1 < k → zs.getD j 0 ≠ 34
theorem jump_ret {l : Nat} {J : Act → World → Prop} {Q : Exit → Act → World → Prop} {a : Act} {w : World} : Exit.jump l J Q .ret a w = Q .ret a w := rfl
theorem FA.first {zs : List Int} {k : Nat} (h : FA zs k) (hk : k ≤ zs.length) : FirstAt zs k := ⟨h.lo, hk, h.mark hk, h.none⟩
theorem fa_is (zs : List Int) (h2 : 2 ≤ zs.length) : ∃ k, FA zs k := by
  have key : ∀ d j, 1 ≤ j → j ≤ zs.length → zs.length - j ≤ d → (∀ i, 1 ≤ i → i < j → zs.getD i 0 ≠ 34) → ∃ k, FA zs k := by
    intro d
    induction d with
    | zero =>
      intro j h1 h2 h3 h4
      obtain rfl : j = zs.length := by omega
      exact ⟨zs.length + 1, by omega, by omega, fun h => by omega, fun i a b => h4 i a (by omega)⟩
    | succ d ih =>
      intro j h1 h2 h3 h4
      by_cases hj : zs.getD j 0 = 34
      · by_cases hl : j = zs.length
        · subst hl
          exact ⟨zs.length + 1, by omega, by omega, fun h => by omega, fun i a b => h4 i a (by omega)⟩
        · exact ⟨j + 1, by omega, by omega, fun _ => by simpa using hj, fun i a b => h4 i a (by omega)⟩
      · by_cases hje : j = zs.length
        · subst hje
          exact ⟨zs.length + 1, by omega, by omega, fun h => by omega, fun i a b => h4 i a (by omega)⟩
        · exact ih (j + 1) (by omega) (by omega) (by omega) (fun i a b => by
            by_cases hij : i = j
            · rw [hij]; exact hj
            · exact h4 i a (by omega))
  exact key zs.length 1 (by omega) (by omega) (by omega) (fun i a b => by omega)
/-- In front of a mark within the string stands a backslash. -/
theorem cut_first {zs l : List Int} {k : Nat} (h : StrCut zs 1 l) (hk : FirstAt zs k) : 92 ∈ (zs.take k).drop 1 := by
  have h1 := hk.lo
  have h2 := hk.hi
  have hm := h.at_ (k - 2) (by omega)
  rw [show 1 + (k - 2) = k - 1 by omega, hk.mark] at hm
  obtain ⟨j, hj, h92⟩ := str_first h.str (k - 2) hm.1 hm.2.symm (fun j hj => by
    have := h.at_ j (by omega)
    rw [← this.2]
    exact hk.none _ (by omega) (by omega))
  have := h.at_ j (by omega)
  exact (mem_mid hk.hi).2 ⟨1 + j, by omega, by omega, by rw [this.2, h92]⟩
theorem fa_idx {zs : List Int} {k : Nat} (h : FA zs k) : (k ≤ zs.length ∧ idx (zs.drop 1) 34 = (k : Int) - 2) ∨ (k = zs.length + 1 ∧ idx (zs.drop 1) 34 = -1) := by
  by_cases hk : k ≤ zs.length
  · exact .inl ⟨hk, first_idx (h.first hk)⟩
  · have h2 := h.hi
    refine .inr ⟨by omega, (idx_none 34 (zs.drop 1)).2 ?_⟩
    intro hm
    obtain ⟨i, hi, he⟩ := List.getElem_of_mem hm
    simp only [List.length_drop] at hi
    rw [List.getElem_drop] at he
    refine h.none (1 + i) (by omega) (by omega) ?_
    rw [List.getD_eq_getElem?_getD, List.getElem?_eq_getElem (by omega), Option.getD_some, he]
/-- The first mark lies among eight bytes, or behind them. -/
theorem fa_cases {zs : List Int} (hb : Bytes zs) {k : Nat} (hk : FA zs k) (o : Nat) (ho : 1 ≤ o) (hlo : o < k) (hoz : o + 8 ≤ zs.length) :
    (k ≤ o + 8 ∧ hack (oct zs o) ≠ 0 ∧ hack (oct zs o) &&& (2 ^ 64 - hack (oct zs o)) = 2 ^ (8 * (k - 1 - o) + 7)) ∨ (o + 8 < k ∧ hack (oct zs o) = 0) := by
  have hl : (oct zs o).length = 8 := rfl
  by_cases h : k ≤ o + 8
  · have hj : k - 1 - o < 8 := by omega
    have := hack_first hl (oct_lt hb o) (k - 1 - o) hj ((oct_mark hb o _ hj).2 (by rw [show o + (k - 1 - o) = k - 1 by omega]; exact hk.mark (by omega))) (fun i hi => fun e => hk.none (o + i) (by omega) (by omega) ((oct_mark hb o i (by omega)).1 e))
    exact .inl ⟨h, this.2, this.1⟩
  · exact .inr ⟨by omega, hack_none hl (oct_lt hb o) (fun i hi => fun e => hk.none (o + i) (by omega) (by omega) ((oct_mark hb o i hi).1 e))⟩
set_option maxHeartbeats 4000000 in
set_option maxRecDepth 100000 in
theorem cut_t7 (w w1 : World) (B : Nat) (ad : Addr) (m c : Nat) (fl : Int) (zs l : List Int) (k : Nat) (p q : Bool) (hmx : m ≤ 9000000000000000000) (HM : Aside0 (m = zs.length)) (HL : Aside0 (m < 9000000000000000000)) (HBy : Aside0 (Bytes zs)) (HS : Aside0 (Sl w1 B (.slice (some ad) m c) zs)) (HAL : Aside0 (Below w.heap.size w w1)) (HB : Aside0 (B ≤ w1.heap.size)) (HBX : Aside0 (w1.heap[w.heap.size]? = some (.cells #[.int .u32 fl] 116 (0, 0))))
    (HSA : Aside0 (StrCut zs 1 l)) (HK : Aside0 (FirstAt zs k)) (HF : Aside0 (Fl fl p q)) (HQ : Aside0 (q = true → 92 ∉ zs)) {u3 u4 u5 u6 u7 u9 u10 u11 u12 u13 u14 u15 u16 u17 u18 u19 u20 u21 u22 u23 u24 u25 u26 u27 u28 u29 u30 u31 u32 u33 u34 u35 u36 u37 u38 u39 u40 u41 u42 u43 u44 u45 u46 u47 u48 u49 u50 u51 u52 u53 u54 u55 u56 u57 u58 u59 u60 u61 u62 u63 u64 u65 u66 u67 u68 u69 u70 u71 u72 u73 u74 u75 u76 u77 u78 u79 u80 u81 u82 u83 u84 u85 u86 u87 u88 u89 u90 u91 u92 u93 u94 u95 u96 u97 u98 u99 u100 u101 u102 u103 u104 u105 u106 u107 u108 u109 u110 u111 u112 u113 u114 u115 u116 u117 u118 u119 u120 u121 u122 u123 u124 u125 u126 u127 u128 u129 u130 u131 u132 u133 u134 u135 u136 u137 u138 u139 u140 u141 u142 u143 u144 u145 u146 u147 u148 u149 u150 u151 u152 u153 u154 u155 u156 u157 u158 u159 u160 u161 u162 u163 u164 u165 u166 u167 u168 u169 u170 u171 u172 u173 u174 u175 u176 u177 u178 u179 u180 u181 u182 u183 u184 u185 u186 u187 u188 u189 u190 u191 u192 u193 u194 u195 u196 u197 u198 u199 u200 u201 u202 u203 u204 : Value} :
    Code.wp Tryd.prog (strCode 7) (Exit.noGoto (bodyPost Tryd.prog Tryd.f80 (FailS w))) ⟨#[.agg #[.int .u32 fl], .slice (some ad) m c, .pointer (some ⟨w.heap.size, 0, none⟩), u3, u4, u5, u6, u7, .int .i64 (k : Int), u9, u10, u11, u12, u13, u14, u15, u16, u17, u18, u19, u20, u21, u22, u23, u24, u25, u26, u27, u28, u29, u30, u31, u32, u33, u34, u35, u36, u37, u38, u39, u40, u41, u42, u43, u44, u45, u46, u47, u48, u49, u50, u51, u52, u53, u54, u55, u56, u57, u58, u59, u60, u61, u62, u63, u64, u65, u66, u67, u68, u69, u70, u71, u72, u73, u74, u75, u76, u77, u78, u79, u80, u81, u82, u83, u84, u85, u86, u87, u88, u89, u90, u91, u92, u93, u94, u95, u96, u97, u98, u99, u100, u101, u102, u103, u104, u105, u106, u107, u108, u109, u110, u111, u112, u113, u114, u115, u116, u117, u118, u119, u120, u121, u122, u123, u124, u125, u126, u127, u128, u129, u130, u131, u132, u133, u134, u135, u136, u137, u138, u139, u140, u141, u142, u143, u144, u145, u146, u147, u148, u149, u150, u151, u152, u153, u154, u155, u156, u157, u158, u159, u160, u161, u162, u163, u164, u165, u166, u167, u168, u169, u170, u171, u172, u173, u174, u175, u176, u177, u178, u179, u180, u181, u182, u183, u184, u185, u186, u187, u188, u189, u190, u191, u192, u193, u194, u195, u196, u197, u198, u199, u200, u201, u202, u203, u204], []⟩ w1 := by
  conv => arg 2; whnf
  refine wp_seam (fun K hK => ?_)
  have hkm : k ≤ m := by rw [HM.out]; exact HK.out.hi
  have hk1 : 1 ≤ k := by have := HK.out.lo; omega
  obtain ⟨A', hcutM, hdM⟩ := HS.out.mid 22 1 k 1 (k : Int) .i64 .i64 Tryd.underlying22 rfl rfl hk1 hkm
  obtain ⟨A2, hcutA, hcutB, hdA, hdB⟩ := HS.out.both 22 k (k : Int) .i64 Tryd.underlying22 rfl hkm
  have HDD := Aside0.mk (And.intro hdA hdB)
  have hbx' : w1.cell? ⟨w.heap.size, 0, none⟩ = some (.int .u32 fl) := (blk_cell HBX.out 0).trans rfl
  have hby : Bytes ((zs.take k).drop 1) := HBy.out.sub (fun c hc => List.mem_of_mem_take (List.mem_of_mem_drop hc))
  have hly : ((zs.take k).drop 1).length < 9000000000000000000 := by
    have := HL.out
    rw [List.length_drop, List.length_take]; omega
  have HI := Aside0.mk (fun (W : World) (hW : Below w1.heap.size w1 W) => index_calls W B A' (k - 1) (c - 1) _ 92 (hdM.below (hW.mono HB.out)) hby (by decide) (by decide))
  have HP := Aside0.mk (fun (W : World) (hW : Below w1.heap.size w1 W) => print_calls W B A' (k - 1) (c - 1) _ (hdM.below (hW.mono HB.out)) hby hly)
  have HGE := Aside0.mk (idx_ge 92 ((zs.take k).drop 1))
  have HIN := Aside0.mk (idx_none 92 ((zs.take k).drop 1))
  obtain ⟨ix, hix⟩ : ∃ ix, ix = idx ((zs.take k).drop 1) 92 := ⟨_, rfl⟩
  obtain ⟨pp, hpp⟩ : ∃ pp, pp = ((zs.take k).drop 1).all prn := ⟨_, rfl⟩
  rw [← hix] at HI HGE HIN
  rw [← hpp] at HP
  have HPP := Aside0.mk hpp.symm
  clear hdM hdA hdB hby hly hix hpp
  have h92q : q = true → 92 ∉ (zs.take k).drop 1 := fun h hm => HQ.out h (List.mem_of_mem_take (List.mem_of_mem_drop hm))
  have H9 := Aside0.mk h92q
  clear h92q
  have hm92 := cut_first HSA.out HK.out
  have hq : q = false := by
    cases q with
    | false => rfl
    | true => exact absurd hm92 (H9.out (by trivial))
  subst hq
  have hx : ¬ ix < 0 := fun h => (HIN.out.1 (by have := HGE.out; omega)) hm92
  clear hm92
  go_wp2_with (first | (go_at_call 116; (with_reducible refine (has_q HF.out _).mono ?_); rintro en w2 ⟨rfl, rfl⟩) | (go_at_call 116; (with_reducible refine (has_p HF.out _).mono ?_); rintro en w2 ⟨rfl, rfl⟩) | (go_at_call 112; (with_reducible refine (HI.out _ (Below.refl _ _)).mono ?_); rintro en w3 ⟨rfl, rfl⟩) | (go_at_call 111; (with_reducible refine (HP.out _ (Below.refl _ _)).mono ?_); rintro en w4 ⟨rfl, hb4⟩; have HB4 := Aside0.mk hb4; clear hb4))
  exact ⟨cut_t8 w _ B ad m c fl zs l hmx HM HS HAL HB HBX HSA⟩
set_option maxHeartbeats 4000000 in
set_option maxRecDepth 100000 in
theorem cut_t4 (w w1 : World) (B : Nat) (ad : Addr) (m c : Nat) (fl : Int) (zs l : List Int) (k : Nat) (p q : Bool) (hmx : m ≤ 9000000000000000000) (HM : Aside0 (m = zs.length)) (HL : Aside0 (m < 9000000000000000000)) (HBy : Aside0 (Bytes zs)) (HS : Aside0 (Sl w1 B (.slice (some ad) m c) zs)) (HAL : Aside0 (Below w.heap.size w w1)) (HB : Aside0 (B ≤ w1.heap.size)) (HBX : Aside0 (w1.heap[w.heap.size]? = some (.cells #[.int .u32 fl] 116 (0, 0))))
    (HSA : Aside0 (StrCut zs 1 l)) (HK : Aside0 (FA zs k)) (hm2 : 2 ≤ m) (HF : Aside0 (Fl fl p q)) (HQ : Aside0 (q = true → 92 ∉ zs)) (J : Act → World → Prop) {u3 u4 u5 u6 u7 u8 u9 u10 u11 u12 u13 u14 u15 u16 u17 u18 u19 u20 u21 u22 u23 u24 u25 u26 u27 u28 u29 u30 u31 u32 u33 u34 u35 u36 u37 u38 u39 u40 u41 u42 u43 u44 u45 u46 u47 u48 u49 u50 u51 u52 u53 u54 u55 u56 u57 u58 u59 u60 u61 u62 u63 u64 u65 u66 u67 u68 u69 u70 u71 u72 u73 u74 u75 u76 u77 u78 u79 u80 u81 u82 u83 u84 u85 u86 u87 u88 u89 u90 u91 u92 u93 u94 u95 u96 u97 u98 u99 u100 u101 u102 u103 u104 u105 u106 u107 u108 u109 u110 u111 u112 u113 u114 u115 u116 u117 u118 u119 u120 u121 u122 u123 u124 u125 u126 u127 u128 u129 u130 u131 u132 u133 u134 u135 u136 u137 u138 u139 u140 u141 u142 u143 u144 u145 u146 u147 u148 u149 u150 u151 u152 u153 u154 u155 u156 u157 u158 u159 u160 u161 u162 u163 u164 u165 u166 u167 u168 u169 u170 u171 u172 u173 u174 u175 u176 u177 u178 u179 u180 u181 u182 u183 u184 u185 u186 u187 u188 u189 u190 u191 u192 u193 u194 u195 u196 u197 u198 u199 u200 u201 u202 u203 u204 : Value} :
    Code.wp Tryd.prog (strCode 4) (Exit.jump 0 J (bodyPost Tryd.prog Tryd.f80 (FailS w))) ⟨#[.agg #[.int .u32 fl], .slice (some ad) m c, .pointer (some ⟨w.heap.size, 0, none⟩), u3, u4, u5, u6, u7, u8, u9, u10, u11, u12, u13, u14, u15, u16, u17, u18, u19, u20, u21, u22, u23, u24, u25, u26, u27, u28, u29, u30, u31, u32, u33, u34, u35, u36, u37, u38, u39, u40, u41, u42, u43, u44, u45, u46, u47, u48, u49, u50, u51, u52, u53, u54, u55, u56, u57, u58, u59, u60, u61, u62, u63, u64, u65, u66, u67, u68, u69, u70, u71, u72, u73, u74, u75, u76, u77, u78, u79, u80, u81, u82, u83, u84, u85, u86, u87, u88, u89, u90, u91, u92, u93, u94, u95, u96, u97, u98, u99, u100, u101, u102, u103, u104, u105, u106, u107, u108, u109, u110, u111, u112, u113, u114, u115, u116, u117, u118, u119, u120, u121, u122, u123, u124, u125, u126, u127, u128, u129, u130, u131, u132, u133, u134, u135, u136, u137, u138, u139, u140, u141, u142, u143, u144, u145, u146, u147, u148, u149, u150, u151, u152, u153, u154, u155, u156, u157, u158, u159, u160, u161, u162, u163, u164, u165, u166, u167, u168, u169, u170, u171, u172, u173, u174, u175, u176, u177, u178, u179, u180, u181, u182, u183, u184, u185, u186, u187, u188, u189, u190, u191, u192, u193, u194, u195, u196, u197, u198, u199, u200, u201, u202, u203, u204], []⟩ w1 := by
  conv => arg 2; whnf
  refine wp_seam (fun K hK => ?_)
  obtain ⟨A2, hcut2, hd2⟩ := HS.out.next 22 1 .i64 Tryd.underlying22 (by omega)
  have hcut3 : ∀ W : World, (Instr.slice 22 (.slice (some ad) m c) (some (.int .i64 1)) none none).run Tryd.prog W = .ok (.slice A2 (m - 1) (c - 1)) W := hcut2
  have hi := index_calls w1 B A2 (m - 1) (c - 1) _ 34 hd2 (HBy.out.sub (fun c hc => List.mem_of_mem_drop hc)) (by decide) (by decide)
  have hix := fa_idx HK.out
  rw [← HM.out] at hix
  rcases hix with ⟨hkm, hix⟩ | ⟨-, hix⟩
  · have hk2 : 2 ≤ k := HK.out.lo
    rw [hix] at hi
    clear hix
    obtain ⟨x, hx⟩ : ∃ x, x = (k : Int) - 2 := ⟨_, rfl⟩
    rw [← hx] at hi
    have HI := Aside0.mk hi
    have HX := Aside0.mk (show x + 2 = (k : Int) by omega)
    have hx0 : 0 ≤ x := by omega
    have hx1 : x ≤ 9000000000000000000 := by have := HL.out; omega
    clear hi hd2 hcut2 hx
    go_wp2_with (go_at_call 112; (with_reducible refine HI.out.mono ?_); rintro en w2 ⟨rfl, rfl⟩)
    rw [HX.out]
    refine ⟨wp_seam (fun K2 hK2 => ?_)⟩
    have hk1 : ¬ (k : Int) ≤ 1 := by omega
    have hk3 : ¬ k ≤ 1 := by omega
    clear hx0 hx1
    go_wp2_with fail
    refine ⟨wp_seam (fun K3 hK3 => ?_)⟩
    refine wp_label ?_
    refine hK3 _ _ ⟨?_⟩
    refine wp_noGoto ?_
    exact cut_t7 w _ B ad m c fl zs l k p q hmx HM HL HBy HS HAL HB HBX HSA ⟨HK.out.first (by rw [← HM.out]; exact hkm)⟩ HF HQ
  · rw [hix] at hi
    have HI := Aside0.mk hi
    obtain ⟨A9, hcut9, -⟩ := HS.out.next 22 m .i64 Tryd.underlying22 (Nat.le_refl _)
    clear hi hd2 hcut2 hix
    go_wp2_with (go_at_call 112; (with_reducible refine HI.out.mono ?_); rintro en w2 ⟨rfl, rfl⟩)
    refine ⟨wp_seam (fun K2 hK2 => ?_)⟩
    clear hcut3
    go_upto_region 18 with (fail)
    go_region_with (go_at_call 85; (with_reducible refine (syntax_err _ _ _ _).mono ?_); rintro en w4 ⟨⟨g, rfl⟩, hb4⟩; have HB4 := Aside0.mk hb4; clear hb4)
    all_goals
      have HW4 : Aside0 (Below w.heap.size w w4) := by
        first
        | exact ⟨HAL.out.trans (HB4.out.mono HAL.out.size)⟩
        | exact ⟨HAL.out.trans (((below_drew (Below.refl _ _)).trans HB4.out).mono HAL.out.size)⟩
      go_wp2_with fail
      (try rw [jump_ret])
      (try rw [Exit.noGoto_ret])
      go_returns
      exact ⟨_, _, 0, g, rfl, by first | exact HW4.out | exact below_drew HW4.out⟩
set_option maxHeartbeats 4000000 in
set_option maxRecDepth 100000 in
theorem pcut (w : World) (B : Nat) (A : Option Addr) (n c : Nat) (fl : Int) (zs l : List Int) (p q : Bool) (hl : zs.length < 9000000000000000000) (hb : Bytes zs) (h : Sl w B (.slice A n c) zs) (hB : B ≤ w.heap.size) (h34 : zs.getD 0 0 = 34) (hz1 : 1 ≤ zs.length) (hsa : StrCut zs 1 l) (hf : Fl fl p q) (hq : q = true → 92 ∉ zs) (ht : Tab w) :
    Calls Tryd.prog 80 #[.agg #[.int .u32 fl], .slice A n c] w (FailS w) := by
  obtain ⟨rfl, hnc⟩ := h.len
  have hmx : zs.length ≤ 9000000000000000000 := by omega
  have hal := below_alloc (Below.refl w.heap.size w) (.cells #[.int .u32 fl] 116)
  have h1 := h.below (hal.mono hB)
  obtain ⟨ad, rfl, c0, -⟩ := h1.at_ 0 (by omega)
  rw [h34] at c0
  have e0 : ad.add 0 = ad := by simp [Addr.add]
  rw [e0] at c0
  have HS := Aside0.mk h1
  have HAL := Aside0.mk hal
  have HBX := Aside0.mk (blk_new w (.cells #[.int .u32 fl] 116))
  have HB := Aside0.mk (Nat.le_trans hB hal.size)
  have HTB := Aside0.mk (ht.below hal)
  have HSA := Aside0.mk hsa
  have HF := Aside0.mk hf
  have HQ := Aside0.mk hq
  have HBy := Aside0.mk hb
  obtain ⟨w1, hw1⟩ : ∃ w1, w1 = w.alloc (.cells #[.int .u32 fl] 116) := ⟨_, rfl⟩
  rw [← hw1] at c0 HS HAL HBX HB HTB
  have HW1 := Aside0.mk hw1
  obtain ⟨m, hm⟩ : ∃ m, m = zs.length := ⟨_, rfl⟩
  rw [← hm] at HS hmx hnc ⊢
  have HL := Aside0.mk (show m < 9000000000000000000 by omega)
  have HM := Aside0.mk hm
  clear h hB hal h1 hb e0 hw1 hl h34 hsa hf hq ht
  by_cases hm2 : 2 ≤ m
  · obtain ⟨k, hk⟩ := fa_is zs (by rw [← hm]; exact hm2)
    have HK := Aside0.mk hk
    have HM2 := Aside0.mk hm2
    have hm3 : ¬ m < 2 := by omega
    clear hk hm hz1
    go_enter Tryd.func80, Tryd.ntmps80
    refine wp_seam (fun K hK => ?_)
    go_wp2_with fail
    refine ⟨?_⟩
    rw [← HW1.out]
    clear HW1
    refine wp_scope_fwd 0 (b := strCode 7) rfl ?_
    refine wp_seam (fun K1 hK1 => ?_)
    go_wp2_with fail
    refine ⟨wp_seam (fun K2 hK2 => ?_)⟩
    go_wp2_with fail
    refine ⟨wp_seam (fun K3 hK3 => ?_)⟩
    go_wp2_with fail
    refine ⟨wp_seam (fun K4 hK4 => ?_)⟩
    clear hm2 hm3
    by_cases h9 : 9 ≤ m
    · have d9 : decide (9 ≤ m) = true := by simpa using h9
      obtain ⟨A2, hcut2, hd2⟩ := HS.out.next 22 1 .i64 Tryd.underlying22 (by omega)
      have hcut3 : ∀ W : World, (Instr.slice 22 (.slice (some ad) m c) (some (.int .i64 1)) none none).run Tryd.prog W = .ok (.slice A2 (m - 1) (c - 1)) W := hcut2
      have HLE := Aside0.mk (fun (W : World) (hW : Below w1.heap.size w1 W) => le_calls W B A2 (m - 1) (c - 1) zs _ 1 rfl (hd2.below (hW.mono HB.out)) HBy.out (by have := HM.out; omega))
      clear hd2 hcut2
      go_upto_region 7 with (fail)
      go_region_with (go_at_call 114; (with_reducible refine (HLE.out _ ?_).mono ?_); (first | exact below_drew (Below.refl _ _) | exact Below.refl _ _); rintro en w4 ⟨rfl, hb4⟩; have HB4 := Aside0.mk hb4; clear hb4)
      all_goals
        have HW4 : Aside0 (Below w1.heap.size w1 w4) := ⟨by first | exact (below_drew (Below.refl _ _)).trans HB4.out | exact HB4.out | exact below_drew HB4.out⟩
        go_upto_region 9 with (fail)
        first | rw [show Go.bits .and .u64 (Go.bits .and .u64 (IntKind.u64.wrap (Go.bits .xor .u64 ((w8 (oct zs 1) : Nat) : Int) 2459565876494606882 - 72340172838076673)) (Go.bits .xor .u64 (if IntKind.u64.signed = true then -1 else IntKind.u64.max) (Go.bits .xor .u64 ((w8 (oct zs 1) : Nat) : Int) 2459565876494606882))) 9259542123273814144 = ((hack (oct zs 1) : Nat) : Int) from hackZ_eq rfl (oct_lt HBy.out 1)] | rw [show Go.bits .and .u64 (Go.bits .and .u64 (IntKind.u64.wrap (Go.bits .xor .u64 ((w8 (oct zs 1) : Nat) : Int) 2459565876494606882 - 72340172838076673)) (Go.bits .xor .u64 IntKind.u64.max (Go.bits .xor .u64 ((w8 (oct zs 1) : Nat) : Int) 2459565876494606882))) 9259542123273814144 = ((hack (oct zs 1) : Nat) : Int) from hackZ_eq rfl (oct_lt HBy.out 1)]
        have hoc := fa_cases HBy.out HK.out 1 (by decide) (by have := HK.out.lo; omega) (by have := HM.out; omega)
        have HHL := Aside0.mk (hack_lt (oct zs 1))
        obtain ⟨H, hH⟩ : ∃ H, H = hack (oct zs 1) := ⟨_, rfl⟩
        rw [← hH] at hoc HHL ⊢
        generalize ((w8 (oct zs 1) : Nat) : Int) = V1
        clear hH
        rcases hoc with ⟨hk9, hne, hlow⟩ | ⟨hk9, rfl⟩
        · have hz : ((H : Int) == 0) = false := by rw [beq_eq_false_iff_ne]; omega
          have hz2 : ((H : Int) != 0) = true := by rw [bne_iff_ne]; omega
          have hlo : 1 < k := by have := HK.out.lo; omega
          have HT := Aside0.mk (fun (W : World) (hW : Below w1.heap.size w1 W) => tz (k - 1 - 1) (by omega) (H : Int) (by omega) (by have := HHL.out; omega) (by rw [low_eq H HHL.out hne, hlow]) W (HTB.out.below hW))
          obtain ⟨T, hT⟩ : ∃ T, T = ((8 * (k - 1 - 1) + 7 : Nat) : Int) := ⟨_, rfl⟩
          rw [← hT] at HT
          have ht0 : 0 ≤ T := by omega
          have ht1 : T ≤ 63 := by omega
          have HKT := Aside0.mk (show T / 8 + 2 = (k : Int) by omega)
          have HKF := Aside0.mk (HK.out.first (by have := HM.out; omega))
          clear hne hlow hlo hT hk9
          go_wp2_with (go_at_call 115; (with_reducible refine (HT.out _ HW4.out).mono ?_); rintro en w5 ⟨rfl, hb5⟩; have HB5 := Aside0.mk ((HW4.out).trans (hb5.mono (HW4.out).size)); clear hb5)
          refine wp_goto ?_
          change (0 : Nat) = 0 ∧ Seam _ _ _ _ _
          refine ⟨rfl, ⟨?_⟩⟩
          rw [HKT.out]
          exact cut_t7 w _ B ad m c fl zs l k p q hmx HM HL HBy ⟨HS.out.below (HB5.out.mono HB.out)⟩ ⟨HAL.out.trans (HB5.out.mono HAL.out.size)⟩ ⟨Nat.le_trans HB.out HB5.out.size⟩ ⟨blk_below HBX.out HB5.out⟩ HSA ⟨HKF.out⟩ HF HQ
        · have HK9 := Aside0.mk hk9
          clear hk9 HHL
          by_cases h17 : 17 ≤ m
          · have d17 : decide (17 ≤ m) = true := by simpa using h17
            obtain ⟨A3, hcut4, hd4⟩ := HS.out.next 22 9 .i64 Tryd.underlying22 (by omega)
            have hcut5 : ∀ W : World, (Instr.slice 22 (.slice (some ad) m c) (some (.int .i64 9)) none none).run Tryd.prog W = .ok (.slice A3 (m - 9) (c - 9)) W := hcut4
            have HLF := Aside0.mk (fun (W : World) (hW : Below w1.heap.size w1 W) => le_calls W B A3 (m - 9) (c - 9) zs _ 9 rfl (hd4.below (hW.mono HB.out)) HBy.out (by have := HM.out; omega))
            clear hd4 hcut4 hcut3 h9 d9
            go_upto_region 12 with (fail)
            go_region_with (go_at_call 114; (with_reducible refine (HLF.out _ ?_).mono ?_); (first | exact below_drew HW4.out | exact HW4.out); rintro en w6 ⟨rfl, hb6⟩; have HB6 := Aside0.mk hb6; clear hb6)
            all_goals
              have HW6 : Aside0 (Below w1.heap.size w1 w6) := ⟨by first | exact (below_drew HW4.out).trans (HB6.out.mono (below_drew HW4.out).size) | exact HW4.out.trans (HB6.out.mono HW4.out.size)⟩
              go_upto_region 14 with (fail)
              first | rw [show Go.bits .and .u64 (Go.bits .and .u64 (IntKind.u64.wrap (Go.bits .xor .u64 ((w8 (oct zs 9) : Nat) : Int) 2459565876494606882 - 72340172838076673)) (Go.bits .xor .u64 (if IntKind.u64.signed = true then -1 else IntKind.u64.max) (Go.bits .xor .u64 ((w8 (oct zs 9) : Nat) : Int) 2459565876494606882))) 9259542123273814144 = ((hack (oct zs 9) : Nat) : Int) from hackZ_eq rfl (oct_lt HBy.out 9)] | rw [show Go.bits .and .u64 (Go.bits .and .u64 (IntKind.u64.wrap (Go.bits .xor .u64 ((w8 (oct zs 9) : Nat) : Int) 2459565876494606882 - 72340172838076673)) (Go.bits .xor .u64 IntKind.u64.max (Go.bits .xor .u64 ((w8 (oct zs 9) : Nat) : Int) 2459565876494606882))) 9259542123273814144 = ((hack (oct zs 9) : Nat) : Int) from hackZ_eq rfl (oct_lt HBy.out 9)]
              have hoc := fa_cases HBy.out HK.out 9 (by decide) (by have := HK9.out; omega) (by have := HM.out; omega)
              have HHL := Aside0.mk (hack_lt (oct zs 9))
              obtain ⟨H, hH⟩ : ∃ H, H = hack (oct zs 9) := ⟨_, rfl⟩
              rw [← hH] at hoc HHL ⊢
              generalize ((w8 (oct zs 9) : Nat) : Int) = V9
              clear hH
              rcases hoc with ⟨hk9, hne, hlow⟩ | ⟨hk9, rfl⟩
              · have hz : ((H : Int) == 0) = false := by rw [beq_eq_false_iff_ne]; omega
                have hz2 : ((H : Int) != 0) = true := by rw [bne_iff_ne]; omega
                have hlo : 9 < k := by have := HK9.out; omega
                have HT := Aside0.mk (fun (W : World) (hW : Below w1.heap.size w1 W) => tz (k - 1 - 9) (by omega) (H : Int) (by omega) (by have := HHL.out; omega) (by rw [low_eq H HHL.out hne, hlow]) W (HTB.out.below hW))
                obtain ⟨T, hT⟩ : ∃ T, T = ((8 * (k - 1 - 9) + 7 : Nat) : Int) := ⟨_, rfl⟩
                rw [← hT] at HT
                have ht0 : 0 ≤ T := by omega
                have ht1 : T ≤ 63 := by omega
                have HKT := Aside0.mk (show T / 8 + 10 = (k : Int) by omega)
                have HKF := Aside0.mk (HK.out.first (by have := HM.out; omega))
                clear hne hlow hlo hT hk9
                go_wp2_with (go_at_call 115; (with_reducible refine (HT.out _ HW6.out).mono ?_); rintro en w5 ⟨rfl, hb5⟩; have HB5 := Aside0.mk ((HW6.out).trans (hb5.mono (HW6.out).size)); clear hb5)
                refine wp_goto ?_
                change (0 : Nat) = 0 ∧ Seam _ _ _ _ _
                refine ⟨rfl, ⟨?_⟩⟩
                rw [HKT.out]
                exact cut_t7 w _ B ad m c fl zs l k p q hmx HM HL HBy ⟨HS.out.below (HB5.out.mono HB.out)⟩ ⟨HAL.out.trans (HB5.out.mono HAL.out.size)⟩ ⟨Nat.le_trans HB.out HB5.out.size⟩ ⟨blk_below HBX.out HB5.out⟩ HSA ⟨HKF.out⟩ HF HQ
              · have HK9 := Aside0.mk hk9
                clear hk9 HHL
                go_wp2_with fail
                exact ⟨cut_t4 w _ B ad m c fl zs l k p q hmx HM HL HBy ⟨HS.out.below (HW6.out.mono HB.out)⟩ ⟨HAL.out.trans (HW6.out.mono HAL.out.size)⟩ ⟨Nat.le_trans HB.out HW6.out.size⟩ ⟨blk_below HBX.out HW6.out⟩ HSA HK HM2.out HF HQ _⟩
          · have d17 : decide (17 ≤ m) = false := by simpa using h17
            go_wp2_with fail
            exact ⟨cut_t4 w _ B ad m c fl zs l k p q hmx HM HL HBy ⟨HS.out.below (HW4.out.mono HB.out)⟩ ⟨HAL.out.trans (HW4.out.mono HAL.out.size)⟩ ⟨Nat.le_trans HB.out HW4.out.size⟩ ⟨blk_below HBX.out HW4.out⟩ HSA HK HM2.out HF HQ _⟩
    · have d9 : decide (9 ≤ m) = false := by simpa using h9
      go_wp2_with fail
      exact ⟨cut_t4 w _ B ad m c fl zs l k p q hmx HM HL HBy HS HAL HB HBX HSA HK HM2.out HF HQ _⟩
  · obtain rfl : m = 1 := by omega
    have d2 : decide ((1 : Int) < 2) = true := rfl
    obtain ⟨A9, hcut9, -⟩ := HS.out.next 22 1 .i64 Tryd.underlying22 (Nat.le_refl _)
    have hcut10 : ∀ W : World, (Instr.slice 22 (.slice (some ad) 1 c) (some (.int .i64 1)) none none).run Tryd.prog W = .ok (.slice A9 0 (c - 1)) W := hcut9
    clear hm hz1 hm2 hcut9
    go_enter Tryd.func80, Tryd.ntmps80
    refine wp_seam (fun K hK => ?_)
    go_wp2_with fail
    refine ⟨?_⟩
    rw [← HW1.out]
    clear HW1
    refine wp_scope_fwd 0 (b := strCode 7) rfl ?_
    refine wp_seam (fun K1 hK1 => ?_)
    go_upto_region 2 with (fail)
    go_region_with (go_at_call 113; (with_reducible refine (eof_err _ _).mono ?_); rintro en w4 ⟨⟨g, rfl⟩, hb4⟩; have HB4 := Aside0.mk hb4; clear hb4)
    all_goals
      have HW4 : Aside0 (Below w.heap.size w w4) := by
        first
        | exact ⟨HAL.out.trans (HB4.out.mono HAL.out.size)⟩
        | exact ⟨HAL.out.trans (((below_drew (Below.refl _ _)).trans HB4.out).mono HAL.out.size)⟩
      go_wp2_with fail
      (try rw [jump_ret])
      (try rw [Exit.noGoto_ret])
      go_returns
      exact ⟨_, _, 0, g, rfl, by first | exact HW4.out | exact below_drew HW4.out⟩
end Go.Proofs.YtekmminmgjoabaaDoor.Js

namespace Go.Proofs.YtekmminmgjoabaaDoor.Js
open Go.RowKit Go.Proofs.YtekmminmgjoabaaDoorW.PrintWords Go.Proofs.YtekmminmgjoabaaDoorW.PrintLast Go.Proofs.YtekmminmgjoabaaDoorW.PrintMore Go.Proofs.YtekmminmgjoabaaDoor.PFnJSTokens
set_option linter.unusedVariables false
set_option linter.unusedSimpArgs false
/-- A number that is cut behind its point, behind the exponent's letter or behind the exponent's sign. -/
structure NumC (zs : List Int) (p0 p1 p2 : Nat) : Prop where
  sign : (p0 = 0 ∧ Digit (zs.getD 0 0)) ∨ (p0 = 1 ∧ zs.getD 0 0 = 45)
  int : p0 < p1 ∧ Run zs p0 p1 ∧ (zs.getD p0 0 = 48 → p1 = p0 + 1)
  cut : (p2 = p1 ∧ zs.length = p1 + 1 ∧ zs.getD p1 0 = 46) ∨
    (((p2 = p1) ∨ (p1 < zs.length ∧ zs.getD p1 0 = 46 ∧ p1 + 1 < p2 ∧ Run zs (p1 + 1) p2)) ∧ (zs.getD p2 0 = 101 ∨ zs.getD p2 0 = 69) ∧ (zs.length = p2 + 1 ∨ (zs.length = p2 + 2 ∧ (zs.getD (p2 + 1) 0 = 43 ∨ zs.getD (p2 + 1) 0 = 45))))
theorem NumC.lt {zs : List Int} {p0 p1 p2 : Nat} (h : NumC zs p0 p1 p2) : p1 < zs.length ∧ p1 ≤ p2 ∧ p2 < zs.length := by
  rcases h.cut with ⟨h1, h2, -⟩ | ⟨h1, -, h2⟩
  · omega
  · rcases h1 with h1 | h1 <;> omega
theorem NumC.stop {zs : List Int} {p0 p1 p2 : Nat} (h : NumC zs p0 p1 p2) : zs.getD p1 0 = 46 ∨ zs.getD p1 0 = 101 ∨ zs.getD p1 0 = 69 := by
  rcases h.cut with ⟨-, -, h2⟩ | ⟨h1, h2, -⟩
  · exact .inl h2
  · rcases h1 with h1 | h1
    · rw [h1] at h2; exact .inr h2
    · exact .inl h1.2.1
set_option maxHeartbeats 4000000 in
set_option maxRecDepth 100000 in
theorem cutn_exp (w w1 : World) (B : Nat) (ad : Addr) (m c : Nat) (fl : Int) (zs : List Int) (i2 : Nat) (hmx : m ≤ 9223372036854775807) (HM : Aside0 (m = zs.length)) (HS : Aside0 (Sl w1 B (.slice (some ad) m c) zs)) (HAL : Aside0 (Below w.heap.size w w1)) (HX : Aside0 (m = i2 ∨ (m = i2 + 1 ∧ (zs.getD i2 0 = 43 ∨ zs.getD i2 0 = 45))))
    (K : Act → World → Prop) {u2 u3 u4 u5 u9 u10 u11 u12 u13 u14 u15 u16 u17 u18 u19 u20 u21 u22 u23 u24 u25 u26 u27 u28 u29 u30 u31 u32 u33 u34 u35 u36 u37 u38 u39 u40 u41 u42 u43 u44 u45 u46 u47 u48 u49 u50 u51 u52 u53 u54 u55 u56 u57 u58 u59 u60 u61 u62 u63 u64 u65 u66 u67 u68 u69 u70 u71 u72 u73 u74 u75 u76 u77 u78 u79 u80 u81 u82 u83 u84 u85 u86 u87 u88 u89 u90 u91 u92 u93 u94 u95 u96 u97 u98 u99 u100 u101 u102 u103 u104 u105 u106 u107 u108 u109 u110 u111 u112 u113 u114 u115 u116 u117 u118 u119 u120 u121 u122 u123 u124 u125 u126 u127 u128 u129 u130 u131 u132 u133 u134 u135 u136 u137 u138 u139 u140 u141 u142 u143 u144 u145 u146 u147 u148 u149 u150 u151 u152 u153 u154 u155 u156 u157 u158 u159 u160 u161 u162 u163 u164 u165 u166 u167 u168 u169 u170 u171 u172 u173 u174 u175 u176 u177 u178 u179 u180 u181 u182 u183 u184 u185 u186 u187 u188 u189 u190 u191 u192 u193 u194 u195 u196 u197 u198 u199 u200 u201 u202 u203 u204 u205 u206 u207 u208 u209 u210 u211 u212 u213 u214 u215 u216 u217 u218 u219 u220 u221 u222 u223 u224 u225 u226 u227 u228 u229 u230 u231 u232 u233 u234 u235 u236 u237 u238 u239 u240 u241 u242 u243 u244 u245 u246 u247 u248 u249 u250 u251 u252 u253 u254 u255 u256 u257 u258 : Value} :
    Code.wp Tryd.prog (pick [1, 1] expCode) (Exit.then K (bodyPost Tryd.prog Tryd.f84 (FailS w))) ⟨#[.agg #[.int .u32 fl], .slice (some ad) m c, u2, u3, u4, u5, .int .u64 7, .nilIface, .int .i64 (i2 : Int), u9, u10, u11, u12, u13, u14, u15, u16, u17, u18, u19, u20, u21, u22, u23, u24, u25, u26, u27, u28, u29, u30, u31, u32, u33, u34, u35, u36, u37, u38, u39, u40, u41, u42, u43, u44, u45, u46, u47, u48, u49, u50, u51, u52, u53, u54, u55, u56, u57, u58, u59, u60, u61, u62, u63, u64, u65, u66, u67, u68, u69, u70, u71, u72, u73, u74, u75, u76, u77, u78, u79, u80, u81, u82, u83, u84, u85, u86, u87, u88, u89, u90, u91, u92, u93, u94, u95, u96, u97, u98, u99, u100, u101, u102, u103, u104, u105, u106, u107, u108, u109, u110, u111, u112, u113, u114, u115, u116, u117, u118, u119, u120, u121, u122, u123, u124, u125, u126, u127, u128, u129, u130, u131, u132, u133, u134, u135, u136, u137, u138, u139, u140, u141, u142, u143, u144, u145, u146, u147, u148, u149, u150, u151, u152, u153, u154, u155, u156, u157, u158, u159, u160, u161, u162, u163, u164, u165, u166, u167, u168, u169, u170, u171, u172, u173, u174, u175, u176, u177, u178, u179, u180, u181, u182, u183, u184, u185, u186, u187, u188, u189, u190, u191, u192, u193, u194, u195, u196, u197, u198, u199, u200, u201, u202, u203, u204, u205, u206, u207, u208, u209, u210, u211, u212, u213, u214, u215, u216, u217, u218, u219, u220, u221, u222, u223, u224, u225, u226, u227, u228, u229, u230, u231, u232, u233, u234, u235, u236, u237, u238, u239, u240, u241, u242, u243, u244, u245, u246, u247, u248, u249, u250, u251, u252, u253, u254, u255, u256, u257, u258], []⟩ w1 := by
  conv => arg 2; whnf
  refine wp_seam (fun K1 hK1 => ?_)
  rcases HX.out with rfl | ⟨rfl, hs⟩
  · have dlt : decide (m < m) = false := by simp
    have hnl : ¬ m < m := by omega
    have heq : ((m : Int) == (m : Int)) = true := by simp
    go_wp2_with fail
    refine ⟨?_⟩
    obtain ⟨A9, hcut9, -⟩ := HS.out.next 22 m .i64 Tryd.underlying22 (Nat.le_refl _)
    go_upto_region 40 with (fail)
    go_region_with (go_at_call 85; (with_reducible refine (syntax_err _ _ _ _).mono ?_); rintro en w4 ⟨⟨g, rfl⟩, hb4⟩; have HB4 := Aside0.mk hb4; clear hb4)
    all_goals
      have HW4 : Aside0 (Below w.heap.size w w4) := by
        first
        | exact ⟨HAL.out.trans (HB4.out.mono HAL.out.size)⟩
        | exact ⟨HAL.out.trans (((below_drew (Below.refl _ _)).trans HB4.out).mono HAL.out.size)⟩
      go_wp2_with fail
      go_returns
      exact ⟨_, _, _, g, rfl, by first | exact HW4.out | exact below_drew HW4.out⟩
  · obtain ⟨ad3, had3, c3, -⟩ := HS.out.at_ i2 (by omega)
    obtain rfl : ad = ad3 := by injection had3
    have dlt : decide (i2 < i2 + 1) = true := by simp
    have hlt : i2 < i2 + 1 := by omega
    have HMM := Aside0.mk (show (i2 : Int) + 1 = ((i2 + 1 : Nat) : Int) by omega)
    obtain ⟨m, hm⟩ : ∃ m, m = i2 + 1 := ⟨_, rfl⟩
    rw [← hm] at HS hmx HM hlt dlt HMM ⊢
    have heq : ((m : Int) == (m : Int)) = true := by simp
    clear hm had3
    rcases hs with hs | hs
    all_goals
      rw [hs] at c3
      clear hs
      go_wp2_with fail
      refine ⟨?_⟩
      rw [HMM.out]
      obtain ⟨A9, hcut9, -⟩ := HS.out.next 22 m .i64 Tryd.underlying22 (Nat.le_refl _)
      go_upto_region 40 with (fail)
      go_region_with (go_at_call 85; (with_reducible refine (syntax_err _ _ _ _).mono ?_); rintro en w4 ⟨⟨g, rfl⟩, hb4⟩; have HB4 := Aside0.mk hb4; clear hb4)
      all_goals
        have HW4 : Aside0 (Below w.heap.size w w4) := by
          first
          | exact ⟨HAL.out.trans (HB4.out.mono HAL.out.size)⟩
          | exact ⟨HAL.out.trans (((below_drew (Below.refl _ _)).trans HB4.out).mono HAL.out.size)⟩
        go_wp2_with fail
        go_returns
        exact ⟨_, _, _, g, rfl, by first | exact HW4.out | exact below_drew HW4.out⟩
set_option maxHeartbeats 4000000 in
set_option maxRecDepth 100000 in
theorem cutn_t10 (w w1 : World) (B : Nat) (ad : Addr) (m c : Nat) (fl : Int) (zs : List Int) (kk : Int) (p0 p1 p2 : Nat) (hmx : m ≤ 9223372036854775807) (HM : Aside0 (m = zs.length)) (HS : Aside0 (Sl w1 B (.slice (some ad) m c) zs)) (HAL : Aside0 (Below w.heap.size w w1)) (HN : Aside0 ((zs.getD p2 0 = 101 ∨ zs.getD p2 0 = 69) ∧ (zs.length = p2 + 1 ∨ (zs.length = p2 + 2 ∧ (zs.getD (p2 + 1) 0 = 43 ∨ zs.getD (p2 + 1) 0 = 45))))) {u2 u3 u4 u5 u9 u10 u11 u12 u13 u14 u15 u16 u17 u18 u19 u20 u21 u22 u23 u24 u25 u26 u27 u28 u29 u30 u31 u32 u33 u34 u35 u36 u37 u38 u39 u40 u41 u42 u43 u44 u45 u46 u47 u48 u49 u50 u51 u52 u53 u54 u55 u56 u57 u58 u59 u60 u61 u62 u63 u64 u65 u66 u67 u68 u69 u70 u71 u72 u73 u74 u75 u76 u77 u78 u79 u80 u81 u82 u83 u84 u85 u86 u87 u88 u89 u90 u91 u92 u93 u94 u95 u96 u97 u98 u99 u100 u101 u102 u103 u104 u105 u106 u107 u108 u109 u110 u111 u112 u113 u114 u115 u116 u117 u118 u119 u120 u121 u122 u123 u124 u125 u126 u127 u128 u129 u130 u131 u132 u133 u134 u135 u136 u137 u138 u139 u140 u141 u142 u143 u144 u145 u146 u147 u148 u149 u150 u151 u152 u153 u154 u155 u156 u157 u158 u159 u160 u161 u162 u163 u164 u165 u166 u167 u168 u169 u170 u171 u172 u173 u174 u175 u176 u177 u178 u179 u180 u181 u182 u183 u184 u185 u186 u187 u188 u189 u190 u191 u192 u193 u194 u195 u196 u197 u198 u199 u200 u201 u202 u203 u204 u205 u206 u207 u208 u209 u210 u211 u212 u213 u214 u215 u216 u217 u218 u219 u220 u221 u222 u223 u224 u225 u226 u227 u228 u229 u230 u231 u232 u233 u234 u235 u236 u237 u238 u239 u240 u241 u242 u243 u244 u245 u246 u247 u248 u249 u250 u251 u252 u253 u254 u255 u256 u257 u258 : Value} :
    Code.wp Tryd.prog (numCode 10) (bodyPost Tryd.prog Tryd.f84 (FailS w)) ⟨#[.agg #[.int .u32 fl], .slice (some ad) m c, u2, u3, u4, u5, .int .u64 kk, .nilIface, .int .i64 (p2 : Int), u9, u10, u11, u12, u13, u14, u15, u16, u17, u18, u19, u20, u21, u22, u23, u24, u25, u26, u27, u28, u29, u30, u31, u32, u33, u34, u35, u36, u37, u38, u39, u40, u41, u42, u43, u44, u45, u46, u47, u48, u49, u50, u51, u52, u53, u54, u55, u56, u57, u58, u59, u60, u61, u62, u63, u64, u65, u66, u67, u68, u69, u70, u71, u72, u73, u74, u75, u76, u77, u78, u79, u80, u81, u82, u83, u84, u85, u86, u87, u88, u89, u90, u91, u92, u93, u94, u95, u96, u97, u98, u99, u100, u101, u102, u103, u104, u105, u106, u107, u108, u109, u110, u111, u112, u113, u114, u115, u116, u117, u118, u119, u120, u121, u122, u123, u124, u125, u126, u127, u128, u129, u130, u131, u132, u133, u134, u135, u136, u137, u138, u139, u140, u141, u142, u143, u144, u145, u146, u147, u148, u149, u150, u151, u152, u153, u154, u155, u156, u157, u158, u159, u160, u161, u162, u163, u164, u165, u166, u167, u168, u169, u170, u171, u172, u173, u174, u175, u176, u177, u178, u179, u180, u181, u182, u183, u184, u185, u186, u187, u188, u189, u190, u191, u192, u193, u194, u195, u196, u197, u198, u199, u200, u201, u202, u203, u204, u205, u206, u207, u208, u209, u210, u211, u212, u213, u214, u215, u216, u217, u218, u219, u220, u221, u222, u223, u224, u225, u226, u227, u228, u229, u230, u231, u232, u233, u234, u235, u236, u237, u238, u239, u240, u241, u242, u243, u244, u245, u246, u247, u248, u249, u250, u251, u252, u253, u254, u255, u256, u257, u258], []⟩ w1 := by
  conv => arg 2; whnf
  refine wp_seam (fun K hK => ?_)
  have HX := Aside0.mk (show m = p2 + 1 ∨ (m = p2 + 1 + 1 ∧ (zs.getD (p2 + 1) 0 = 43 ∨ zs.getD (p2 + 1) 0 = 45)) by rw [HM.out]; exact HN.out.2)
  have h2l : p2 < m := by rcases HX.out with h | h <;> omega
  have he := HN.out.1
  obtain ⟨ad2, had, c2, -⟩ := HS.out.at_ p2 h2l
  obtain rfl : ad = ad2 := by injection had
  obtain ⟨d1, hd1⟩ : ∃ d1, d1 = zs.getD p2 0 := ⟨_, rfl⟩
  rw [← hd1] at c2 he
  have dlt : decide (p2 < m) = true := by rw [decide_eq_true_iff]; omega
  clear hd1 had
  rcases he with rfl | rfl
  all_goals
    go_upto_if 200 with (fail)
    refine wp_cond (t := true) (by simp [go_sem]; done) ?_
    refine wp_seam (fun K2 hK2 => ?_)
    go_wp2_with fail
    refine ⟨wp_seam (fun K3 hK3 => ?_)⟩
    go_wp2_with fail
    exact ⟨cutn_exp w w1 B ad m c fl zs (p2 + 1) hmx HM HS HAL HX K⟩
set_option maxHeartbeats 4000000 in
set_option maxRecDepth 100000 in
theorem cutn_pt (w w1 : World) (B : Nat) (ad : Addr) (m c : Nat) (fl : Int) (zs : List Int) (hmx : m ≤ 9223372036854775807) (HM : Aside0 (m = zs.length)) (HS : Aside0 (Sl w1 B (.slice (some ad) m c) zs)) (HAL : Aside0 (Below w.heap.size w w1)) 
    (K : Act → World → Prop) {u2 u3 u4 u5 u9 u10 u11 u12 u13 u14 u15 u16 u17 u18 u19 u20 u21 u22 u23 u24 u25 u26 u27 u28 u29 u30 u31 u32 u33 u34 u35 u36 u37 u38 u39 u40 u41 u42 u43 u44 u45 u46 u47 u48 u49 u50 u51 u52 u53 u54 u55 u56 u57 u58 u59 u60 u61 u62 u63 u64 u65 u66 u67 u68 u69 u70 u71 u72 u73 u74 u75 u76 u77 u78 u79 u80 u81 u82 u83 u84 u85 u86 u87 u88 u89 u90 u91 u92 u93 u94 u95 u96 u97 u98 u99 u100 u101 u102 u103 u104 u105 u106 u107 u108 u109 u110 u111 u112 u113 u114 u115 u116 u117 u118 u119 u120 u121 u122 u123 u124 u125 u126 u127 u128 u129 u130 u131 u132 u133 u134 u135 u136 u137 u138 u139 u140 u141 u142 u143 u144 u145 u146 u147 u148 u149 u150 u151 u152 u153 u154 u155 u156 u157 u158 u159 u160 u161 u162 u163 u164 u165 u166 u167 u168 u169 u170 u171 u172 u173 u174 u175 u176 u177 u178 u179 u180 u181 u182 u183 u184 u185 u186 u187 u188 u189 u190 u191 u192 u193 u194 u195 u196 u197 u198 u199 u200 u201 u202 u203 u204 u205 u206 u207 u208 u209 u210 u211 u212 u213 u214 u215 u216 u217 u218 u219 u220 u221 u222 u223 u224 u225 u226 u227 u228 u229 u230 u231 u232 u233 u234 u235 u236 u237 u238 u239 u240 u241 u242 u243 u244 u245 u246 u247 u248 u249 u250 u251 u252 u253 u254 u255 u256 u257 u258 : Value} :
    Code.wp Tryd.prog (pick [1, 1] fracCode) (Exit.then K (bodyPost Tryd.prog Tryd.f84 (FailS w))) ⟨#[.agg #[.int .u32 fl], .slice (some ad) m c, u2, u3, u4, u5, .int .u64 7, .nilIface, .int .i64 (m : Int), u9, u10, u11, u12, u13, u14, u15, u16, u17, u18, u19, u20, u21, u22, u23, u24, u25, u26, u27, u28, u29, u30, u31, u32, u33, u34, u35, u36, u37, u38, u39, u40, u41, u42, u43, u44, u45, u46, u47, u48, u49, u50, u51, u52, u53, u54, u55, u56, u57, u58, u59, u60, u61, u62, u63, u64, u65, u66, u67, u68, u69, u70, u71, u72, u73, u74, u75, u76, u77, u78, u79, u80, u81, u82, u83, u84, u85, u86, u87, u88, u89, u90, u91, u92, u93, u94, u95, u96, u97, u98, u99, u100, u101, u102, u103, u104, u105, u106, u107, u108, u109, u110, u111, u112, u113, u114, u115, u116, u117, u118, u119, u120, u121, u122, u123, u124, u125, u126, u127, u128, u129, u130, u131, u132, u133, u134, u135, u136, u137, u138, u139, u140, u141, u142, u143, u144, u145, u146, u147, u148, u149, u150, u151, u152, u153, u154, u155, u156, u157, u158, u159, u160, u161, u162, u163, u164, u165, u166, u167, u168, u169, u170, u171, u172, u173, u174, u175, u176, u177, u178, u179, u180, u181, u182, u183, u184, u185, u186, u187, u188, u189, u190, u191, u192, u193, u194, u195, u196, u197, u198, u199, u200, u201, u202, u203, u204, u205, u206, u207, u208, u209, u210, u211, u212, u213, u214, u215, u216, u217, u218, u219, u220, u221, u222, u223, u224, u225, u226, u227, u228, u229, u230, u231, u232, u233, u234, u235, u236, u237, u238, u239, u240, u241, u242, u243, u244, u245, u246, u247, u248, u249, u250, u251, u252, u253, u254, u255, u256, u257, u258], []⟩ w1 := by
  conv => arg 2; whnf
  have dlt : decide (m < m) = false := by simp
  have hnl : ¬ m < m := by omega
  have heq : ((m : Int) == (m : Int)) = true := by simp
  obtain ⟨A9, hcut9, -⟩ := HS.out.next 22 m .i64 Tryd.underlying22 (Nat.le_refl _)
  go_upto_region 24 with (fail)
  go_loopg [7, 8] 0 (fun n v7 v8 w' => v7 = .nilIface ∧ v8 = .int .i64 (m : Int) ∧ w1 = w')
  case atStart => exact ⟨rfl, rfl, rfl⟩
  case round =>
    obtain ⟨rfl, rfl, rfl⟩ := hrel
    go_upto_region 31 with (fail)
    go_region_with (go_at_call 85; (with_reducible refine (syntax_err _ _ _ _).mono ?_); rintro en w4 ⟨⟨g, rfl⟩, hb4⟩; have HB4 := Aside0.mk hb4; clear hb4)
    all_goals
      have HW4 : Aside0 (Below w.heap.size w w4) := by
        first
        | exact ⟨HAL.out.trans (HB4.out.mono HAL.out.size)⟩
        | exact ⟨HAL.out.trans (((below_drew (Below.refl _ _)).trans HB4.out).mono HAL.out.size)⟩
      go_wp2_with fail
      go_returns
      exact ⟨_, _, _, g, rfl, by first | exact HW4.out | exact below_drew HW4.out⟩
set_option maxHeartbeats 4000000 in
set_option maxRecDepth 100000 in
theorem cutn_frac (w w1 : World) (B : Nat) (ad : Addr) (m c : Nat) (fl : Int) (zs : List Int) (q p0 p1 p2 : Nat) (hmx : m ≤ 9223372036854775807) (HM : Aside0 (m = zs.length)) (HS : Aside0 (Sl w1 B (.slice (some ad) m c) zs)) (HAL : Aside0 (Below w.heap.size w w1)) (HN : Aside0 ((zs.getD p2 0 = 101 ∨ zs.getD p2 0 = 69) ∧ (zs.length = p2 + 1 ∨ (zs.length = p2 + 2 ∧ (zs.getD (p2 + 1) 0 = 43 ∨ zs.getD (p2 + 1) 0 = 45))))) (HP : Aside0 (p2 < m)) (HQ : Aside0 (q < p2 ∧ Run zs q p2))
    (K : Act → World → Prop) (hK : ∀ s w', Seam Tryd.prog (numCode 10) (bodyPost Tryd.prog Tryd.f84 (FailS w)) s w' → K s w') {u2 u3 u4 u5 u9 u10 u11 u12 u13 u14 u15 u16 u17 u18 u19 u20 u21 u22 u23 u24 u25 u26 u27 u28 u29 u30 u31 u32 u33 u34 u35 u36 u37 u38 u39 u40 u41 u42 u43 u44 u45 u46 u47 u48 u49 u50 u51 u52 u53 u54 u55 u56 u57 u58 u59 u60 u61 u62 u63 u64 u65 u66 u67 u68 u69 u70 u71 u72 u73 u74 u75 u76 u77 u78 u79 u80 u81 u82 u83 u84 u85 u86 u87 u88 u89 u90 u91 u92 u93 u94 u95 u96 u97 u98 u99 u100 u101 u102 u103 u104 u105 u106 u107 u108 u109 u110 u111 u112 u113 u114 u115 u116 u117 u118 u119 u120 u121 u122 u123 u124 u125 u126 u127 u128 u129 u130 u131 u132 u133 u134 u135 u136 u137 u138 u139 u140 u141 u142 u143 u144 u145 u146 u147 u148 u149 u150 u151 u152 u153 u154 u155 u156 u157 u158 u159 u160 u161 u162 u163 u164 u165 u166 u167 u168 u169 u170 u171 u172 u173 u174 u175 u176 u177 u178 u179 u180 u181 u182 u183 u184 u185 u186 u187 u188 u189 u190 u191 u192 u193 u194 u195 u196 u197 u198 u199 u200 u201 u202 u203 u204 u205 u206 u207 u208 u209 u210 u211 u212 u213 u214 u215 u216 u217 u218 u219 u220 u221 u222 u223 u224 u225 u226 u227 u228 u229 u230 u231 u232 u233 u234 u235 u236 u237 u238 u239 u240 u241 u242 u243 u244 u245 u246 u247 u248 u249 u250 u251 u252 u253 u254 u255 u256 u257 u258 : Value} :
    Code.wp Tryd.prog (pick [1, 1] fracCode) (Exit.then K (bodyPost Tryd.prog Tryd.f84 (FailS w))) ⟨#[.agg #[.int .u32 fl], .slice (some ad) m c, u2, u3, u4, u5, .int .u64 7, .nilIface, .int .i64 (q : Int), u9, u10, u11, u12, u13, u14, u15, u16, u17, u18, u19, u20, u21, u22, u23, u24, u25, u26, u27, u28, u29, u30, u31, u32, u33, u34, u35, u36, u37, u38, u39, u40, u41, u42, u43, u44, u45, u46, u47, u48, u49, u50, u51, u52, u53, u54, u55, u56, u57, u58, u59, u60, u61, u62, u63, u64, u65, u66, u67, u68, u69, u70, u71, u72, u73, u74, u75, u76, u77, u78, u79, u80, u81, u82, u83, u84, u85, u86, u87, u88, u89, u90, u91, u92, u93, u94, u95, u96, u97, u98, u99, u100, u101, u102, u103, u104, u105, u106, u107, u108, u109, u110, u111, u112, u113, u114, u115, u116, u117, u118, u119, u120, u121, u122, u123, u124, u125, u126, u127, u128, u129, u130, u131, u132, u133, u134, u135, u136, u137, u138, u139, u140, u141, u142, u143, u144, u145, u146, u147, u148, u149, u150, u151, u152, u153, u154, u155, u156, u157, u158, u159, u160, u161, u162, u163, u164, u165, u166, u167, u168, u169, u170, u171, u172, u173, u174, u175, u176, u177, u178, u179, u180, u181, u182, u183, u184, u185, u186, u187, u188, u189, u190, u191, u192, u193, u194, u195, u196, u197, u198, u199, u200, u201, u202, u203, u204, u205, u206, u207, u208, u209, u210, u211, u212, u213, u214, u215, u216, u217, u218, u219, u220, u221, u222, u223, u224, u225, u226, u227, u228, u229, u230, u231, u232, u233, u234, u235, u236, u237, u238, u239, u240, u241, u242, u243, u244, u245, u246, u247, u248, u249, u250, u251, u252, u253, u254, u255, u256, u257, u258], []⟩ w1 := by
  conv => arg 2; whnf
  have HF := Aside0.mk (show p2 < m → ¬ Digit (zs.getD p2 0) from fun h hd => by rcases HN.out.1 with h | h <;> (rw [h] at hd; unfold Digit at hd; omega))
  go_upto_region 24 with (fail)
  go_loopg [7, 8] (p2 - q) (fun n v7 v8 w' => v7 = .nilIface ∧ ∃ i : Nat, v8 = .int .i64 (i : Int) ∧ Aside0 (i + n = p2 ∧ q ≤ i) ∧ w1 = w')
  case atStart => exact ⟨rfl, q, rfl, ⟨by have := HQ.out.1; omega, Nat.le_refl _⟩, rfl⟩
  case round =>
    obtain ⟨rfl, i, rfl, HI, rfl⟩ := hrel
    cases gk with
    | zero =>
      obtain rfl : i = p2 := by have := HI.out; omega
      have hiq : ((i : Int) == (q : Int)) = false := by rw [beq_eq_false_iff_ne]; have := HQ.out.1; omega
      by_cases hm : i = m
      · exact absurd HP.out (by omega)
      · have hil : i < m := by have := HP.out; omega
        obtain ⟨ad2, had, c2, -⟩ := HS.out.at_ i hil
        obtain rfl : ad = ad2 := by injection had
        obtain ⟨d1, hd1⟩ : ∃ d1, d1 = zs.getD i 0 := ⟨_, rfl⟩
        rw [← hd1] at c2
        have hnd : ¬ Digit d1 := by rw [hd1]; exact HF.out hil
        have dlt : decide (i < m) = true := by rw [decide_eq_true_iff]; omega
        by_cases hlo : d1 < 48
        · clear hnd hd1 had hm
          go_wp2_with fail
          exact ⟨cutn_t10 w w1 B ad m c fl zs 7 p0 p1 i hmx HM HS HAL HN⟩
        · have hhi : 57 < d1 := by
            apply Classical.byContradiction
            intro h
            exact hnd ⟨by omega, by omega⟩
          clear hnd hd1 had hm
          go_wp2_with fail
          exact ⟨cutn_t10 w w1 B ad m c fl zs 7 p0 p1 i hmx HM HS HAL HN⟩
    | succ k1 =>
      have hil : i < m := by have := HP.out; have := HI.out; omega
      obtain ⟨ad2, had, c2, -⟩ := HS.out.at_ i hil
      obtain rfl : ad = ad2 := by injection had
      obtain ⟨d1, hd1⟩ : ∃ d1, d1 = zs.getD i 0 := ⟨_, rfl⟩
      rw [← hd1] at c2
      have hdg : 48 ≤ d1 ∧ d1 ≤ 57 := by rw [hd1]; exact HQ.out.2 i HI.out.2 (by have := HI.out; omega)
      obtain ⟨hg2, hg3⟩ := hdg
      have hlo : ¬ d1 < 48 := by omega
      have hhi : ¬ 57 < d1 := by omega
      have dlt : decide (i < m) = true := by rw [decide_eq_true_iff]; omega
      clear hd1 had
      go_wp2_with fail
      go_roundg k1
      case measure => omega
      case rel => exact ⟨rfl, i + 1, by go_num, ⟨by have := HI.out; omega, by have := HI.out; omega⟩, rfl⟩
set_option maxHeartbeats 4000000 in
set_option maxRecDepth 100000 in
theorem cutn_t9 (w w1 : World) (B : Nat) (ad : Addr) (m c : Nat) (fl : Int) (zs : List Int) (kk : Int) (p0 p1 p2 : Nat) (hmx : m ≤ 9223372036854775807) (HM : Aside0 (m = zs.length)) (HS : Aside0 (Sl w1 B (.slice (some ad) m c) zs)) (HAL : Aside0 (Below w.heap.size w w1)) (HN : Aside0 (NumC zs p0 p1 p2)) {u2 u3 u4 u5 u9 u10 u11 u12 u13 u14 u15 u16 u17 u18 u19 u20 u21 u22 u23 u24 u25 u26 u27 u28 u29 u30 u31 u32 u33 u34 u35 u36 u37 u38 u39 u40 u41 u42 u43 u44 u45 u46 u47 u48 u49 u50 u51 u52 u53 u54 u55 u56 u57 u58 u59 u60 u61 u62 u63 u64 u65 u66 u67 u68 u69 u70 u71 u72 u73 u74 u75 u76 u77 u78 u79 u80 u81 u82 u83 u84 u85 u86 u87 u88 u89 u90 u91 u92 u93 u94 u95 u96 u97 u98 u99 u100 u101 u102 u103 u104 u105 u106 u107 u108 u109 u110 u111 u112 u113 u114 u115 u116 u117 u118 u119 u120 u121 u122 u123 u124 u125 u126 u127 u128 u129 u130 u131 u132 u133 u134 u135 u136 u137 u138 u139 u140 u141 u142 u143 u144 u145 u146 u147 u148 u149 u150 u151 u152 u153 u154 u155 u156 u157 u158 u159 u160 u161 u162 u163 u164 u165 u166 u167 u168 u169 u170 u171 u172 u173 u174 u175 u176 u177 u178 u179 u180 u181 u182 u183 u184 u185 u186 u187 u188 u189 u190 u191 u192 u193 u194 u195 u196 u197 u198 u199 u200 u201 u202 u203 u204 u205 u206 u207 u208 u209 u210 u211 u212 u213 u214 u215 u216 u217 u218 u219 u220 u221 u222 u223 u224 u225 u226 u227 u228 u229 u230 u231 u232 u233 u234 u235 u236 u237 u238 u239 u240 u241 u242 u243 u244 u245 u246 u247 u248 u249 u250 u251 u252 u253 u254 u255 u256 u257 u258 : Value} :
    Code.wp Tryd.prog (numCode 9) (bodyPost Tryd.prog Tryd.f84 (FailS w)) ⟨#[.agg #[.int .u32 fl], .slice (some ad) m c, u2, u3, u4, u5, .int .u64 kk, .nilIface, .int .i64 (p1 : Int), u9, u10, u11, u12, u13, u14, u15, u16, u17, u18, u19, u20, u21, u22, u23, u24, u25, u26, u27, u28, u29, u30, u31, u32, u33, u34, u35, u36, u37, u38, u39, u40, u41, u42, u43, u44, u45, u46, u47, u48, u49, u50, u51, u52, u53, u54, u55, u56, u57, u58, u59, u60, u61, u62, u63, u64, u65, u66, u67, u68, u69, u70, u71, u72, u73, u74, u75, u76, u77, u78, u79, u80, u81, u82, u83, u84, u85, u86, u87, u88, u89, u90, u91, u92, u93, u94, u95, u96, u97, u98, u99, u100, u101, u102, u103, u104, u105, u106, u107, u108, u109, u110, u111, u112, u113, u114, u115, u116, u117, u118, u119, u120, u121, u122, u123, u124, u125, u126, u127, u128, u129, u130, u131, u132, u133, u134, u135, u136, u137, u138, u139, u140, u141, u142, u143, u144, u145, u146, u147, u148, u149, u150, u151, u152, u153, u154, u155, u156, u157, u158, u159, u160, u161, u162, u163, u164, u165, u166, u167, u168, u169, u170, u171, u172, u173, u174, u175, u176, u177, u178, u179, u180, u181, u182, u183, u184, u185, u186, u187, u188, u189, u190, u191, u192, u193, u194, u195, u196, u197, u198, u199, u200, u201, u202, u203, u204, u205, u206, u207, u208, u209, u210, u211, u212, u213, u214, u215, u216, u217, u218, u219, u220, u221, u222, u223, u224, u225, u226, u227, u228, u229, u230, u231, u232, u233, u234, u235, u236, u237, u238, u239, u240, u241, u242, u243, u244, u245, u246, u247, u248, u249, u250, u251, u252, u253, u254, u255, u256, u257, u258], []⟩ w1 := by
  conv => arg 2; whnf
  refine wp_seam (fun K hK => ?_)
  have hlt := HN.out.lt
  rw [← HM.out] at hlt
  obtain ⟨ad2, had, c2, -⟩ := HS.out.at_ p1 hlt.1
  obtain rfl : ad = ad2 := by injection had
  have dlt : decide (p1 < m) = true := by rw [decide_eq_true_iff]; omega
  have h1l : p1 < m := hlt.1
  clear had
  rcases HN.out.cut with ⟨h1, h2, he⟩ | ⟨h1, h2, h3⟩
  · -- nothing stands behind the point
    rw [he] at c2
    have HMM := Aside0.mk (show (p1 : Int) + 1 = (m : Int) by rw [HM.out, h2]; omega)
    clear h1 h2 he hlt
    go_upto_if 144 with (fail)
    refine wp_cond (t := true) (by simp [go_sem]; done) ?_
    refine wp_seam (fun K2 hK2 => ?_)
    go_wp2_with fail
    refine ⟨wp_seam (fun K3 hK3 => ?_)⟩
    go_wp2_with fail
    rw [HMM.out]
    exact ⟨cutn_pt w w1 B ad m c fl zs hmx HM HS HAL K⟩
  · have HE := Aside0.mk (And.intro h2 h3)
    by_cases h12 : p2 = p1
    · -- no point
      subst h12
      obtain ⟨d1, hd1⟩ : ∃ d1, d1 = zs.getD p2 0 := ⟨_, rfl⟩
      rw [← hd1] at c2 h2
      have hn2 : (d1 == 46) = false := by rw [beq_eq_false_iff_ne]; omega
      clear hd1 h1 h2 h3 hlt
      go_wp2_with fail
      exact ⟨cutn_t10 w w1 B ad m c fl zs kk p0 p2 p2 hmx HM HS HAL HE⟩
    · obtain ⟨-, he, hl, hrun⟩ := h1.resolve_left h12
      have HQ := Aside0.mk (And.intro hl hrun)
      have HP := Aside0.mk hlt.2.2
      rw [he] at c2
      clear hl hrun h12 he h1 h2 h3 hlt
      go_upto_if 144 with (fail)
      refine wp_cond (t := true) (by simp [go_sem]; done) ?_
      refine wp_seam (fun K2 hK2 => ?_)
      go_wp2_with fail
      refine ⟨wp_seam (fun K3 hK3 => ?_)⟩
      go_wp2_with fail
      exact ⟨cutn_frac w w1 B ad m c fl zs (p1 + 1) p0 p1 p2 hmx HM HS HAL HE HP HQ K hK⟩
set_option maxHeartbeats 4000000 in
set_option maxRecDepth 100000 in
theorem cutn_t8 (w w1 : World) (B : Nat) (ad : Addr) (m c : Nat) (fl : Int) (zs : List Int) (kk : Int) (i0 p0 p1 p2 : Nat) (hmx : m ≤ 9223372036854775807) (HM : Aside0 (m = zs.length)) (HS : Aside0 (Sl w1 B (.slice (some ad) m c) zs)) (HAL : Aside0 (Below w.heap.size w w1)) (HN : Aside0 (NumC zs p0 p1 p2)) (HP : Aside0 (p1 < m)) (HI0 : Aside0 (p0 ≤ i0 ∧ i0 ≤ p1)) {u2 u3 u4 u5 u9 u10 u11 u12 u13 u14 u15 u16 u17 u18 u19 u20 u21 u22 u23 u24 u25 u26 u27 u28 u29 u30 u31 u32 u33 u34 u35 u36 u37 u38 u39 u40 u41 u42 u43 u44 u45 u46 u47 u48 u49 u50 u51 u52 u53 u54 u55 u56 u57 u58 u59 u60 u61 u62 u63 u64 u65 u66 u67 u68 u69 u70 u71 u72 u73 u74 u75 u76 u77 u78 u79 u80 u81 u82 u83 u84 u85 u86 u87 u88 u89 u90 u91 u92 u93 u94 u95 u96 u97 u98 u99 u100 u101 u102 u103 u104 u105 u106 u107 u108 u109 u110 u111 u112 u113 u114 u115 u116 u117 u118 u119 u120 u121 u122 u123 u124 u125 u126 u127 u128 u129 u130 u131 u132 u133 u134 u135 u136 u137 u138 u139 u140 u141 u142 u143 u144 u145 u146 u147 u148 u149 u150 u151 u152 u153 u154 u155 u156 u157 u158 u159 u160 u161 u162 u163 u164 u165 u166 u167 u168 u169 u170 u171 u172 u173 u174 u175 u176 u177 u178 u179 u180 u181 u182 u183 u184 u185 u186 u187 u188 u189 u190 u191 u192 u193 u194 u195 u196 u197 u198 u199 u200 u201 u202 u203 u204 u205 u206 u207 u208 u209 u210 u211 u212 u213 u214 u215 u216 u217 u218 u219 u220 u221 u222 u223 u224 u225 u226 u227 u228 u229 u230 u231 u232 u233 u234 u235 u236 u237 u238 u239 u240 u241 u242 u243 u244 u245 u246 u247 u248 u249 u250 u251 u252 u253 u254 u255 u256 u257 u258 : Value} :
    Code.wp Tryd.prog (numCode 8) (bodyPost Tryd.prog Tryd.f84 (FailS w)) ⟨#[.agg #[.int .u32 fl], .slice (some ad) m c, u2, u3, u4, u5, .int .u64 kk, .nilIface, .int .i64 (i0 : Int), u9, u10, u11, u12, u13, u14, u15, u16, u17, u18, u19, u20, u21, u22, u23, u24, u25, u26, u27, u28, u29, u30, u31, u32, u33, u34, u35, u36, u37, u38, u39, u40, u41, u42, u43, u44, u45, u46, u47, u48, u49, u50, u51, u52, u53, u54, u55, u56, u57, u58, u59, u60, u61, u62, u63, u64, u65, u66, u67, u68, u69, u70, u71, u72, u73, u74, u75, u76, u77, u78, u79, u80, u81, u82, u83, u84, u85, u86, u87, u88, u89, u90, u91, u92, u93, u94, u95, u96, u97, u98, u99, u100, u101, u102, u103, u104, u105, u106, u107, u108, u109, u110, u111, u112, u113, u114, u115, u116, u117, u118, u119, u120, u121, u122, u123, u124, u125, u126, u127, u128, u129, u130, u131, u132, u133, u134, u135, u136, u137, u138, u139, u140, u141, u142, u143, u144, u145, u146, u147, u148, u149, u150, u151, u152, u153, u154, u155, u156, u157, u158, u159, u160, u161, u162, u163, u164, u165, u166, u167, u168, u169, u170, u171, u172, u173, u174, u175, u176, u177, u178, u179, u180, u181, u182, u183, u184, u185, u186, u187, u188, u189, u190, u191, u192, u193, u194, u195, u196, u197, u198, u199, u200, u201, u202, u203, u204, u205, u206, u207, u208, u209, u210, u211, u212, u213, u214, u215, u216, u217, u218, u219, u220, u221, u222, u223, u224, u225, u226, u227, u228, u229, u230, u231, u232, u233, u234, u235, u236, u237, u238, u239, u240, u241, u242, u243, u244, u245, u246, u247, u248, u249, u250, u251, u252, u253, u254, u255, u256, u257, u258], []⟩ w1 := by
  conv => arg 2; whnf
  refine wp_seam (fun K hK => ?_)
  have HF := Aside0.mk (show p1 < m → ¬ Digit (zs.getD p1 0) from fun h hd => by rcases HN.out.stop with h | h | h <;> (rw [h] at hd; unfold Digit at hd; omega))
  go_upto_region 18 with (fail)
  go_loopg [8] (p1 - i0) (fun n v8 w' => ∃ i : Nat, v8 = .int .i64 (i : Int) ∧ Aside0 (i + n = p1 ∧ p0 ≤ i) ∧ w1 = w')
  case atStart => exact ⟨i0, rfl, ⟨by have := HI0.out; omega, HI0.out.1⟩, rfl⟩
  case round =>
    obtain ⟨i, rfl, HI, rfl⟩ := hrel
    cases gk with
    | zero =>
      obtain rfl : i = p1 := by have := HI.out; omega
      by_cases hm : i = m
      · exact absurd HP.out (by omega)
      · have hil : i < m := by have := HP.out; omega
        obtain ⟨ad2, had, c2, -⟩ := HS.out.at_ i hil
        obtain rfl : ad = ad2 := by injection had
        obtain ⟨d1, hd1⟩ : ∃ d1, d1 = zs.getD i 0 := ⟨_, rfl⟩
        rw [← hd1] at c2
        have hnd : ¬ Digit d1 := by rw [hd1]; exact HF.out hil
        have dlt : decide (i < m) = true := by rw [decide_eq_true_iff]; omega
        by_cases hlo : 48 ≤ d1
        · have hhi : ¬ d1 ≤ 57 := fun h => hnd ⟨hlo, h⟩
          clear hnd hd1 had hm
          go_wp2_with fail
          exact ⟨cutn_t9 w w1 B ad m c fl zs kk p0 i p2 hmx HM HS HAL HN⟩
        · clear hnd hd1 had hm
          go_wp2_with fail
          exact ⟨cutn_t9 w w1 B ad m c fl zs kk p0 i p2 hmx HM HS HAL HN⟩
    | succ k1 =>
      have hil : i < m := by have := HP.out; have := HI.out; omega
      obtain ⟨ad2, had, c2, -⟩ := HS.out.at_ i hil
      obtain rfl : ad = ad2 := by injection had
      obtain ⟨d1, hd1⟩ : ∃ d1, d1 = zs.getD i 0 := ⟨_, rfl⟩
      rw [← hd1] at c2
      have hdg : 48 ≤ d1 ∧ d1 ≤ 57 := by rw [hd1]; exact HN.out.int.2.1 i HI.out.2 (by have := HI.out; omega)
      obtain ⟨hg2, hg3⟩ := hdg
      have dlt : decide (i < m) = true := by rw [decide_eq_true_iff]; omega
      clear hd1 had
      go_wp2_with fail
      go_roundg k1
      case measure => omega
      case rel => exact ⟨i + 1, by go_num, ⟨by have := HI.out; omega, by have := HI.out; omega⟩, rfl⟩
set_option maxHeartbeats 4000000 in
set_option maxRecDepth 100000 in
theorem cutn_t5 (w w1 : World) (B : Nat) (ad : Addr) (m c : Nat) (fl : Int) (zs : List Int) (kk : Int) (p0 p1 p2 : Nat) (hmx : m ≤ 9223372036854775807) (HM : Aside0 (m = zs.length)) (HS : Aside0 (Sl w1 B (.slice (some ad) m c) zs)) (HAL : Aside0 (Below w.heap.size w w1)) (HN : Aside0 (NumC zs p0 p1 p2)) (HP : Aside0 (p0 < p1 ∧ p1 < m)) {u2 u3 u4 u5 u9 u10 u11 u12 u13 u14 u15 u16 u17 u18 u19 u20 u21 u22 u23 u24 u25 u26 u27 u28 u29 u30 u31 u32 u33 u34 u35 u36 u37 u38 u39 u40 u41 u42 u43 u44 u45 u46 u47 u48 u49 u50 u51 u52 u53 u54 u55 u56 u57 u58 u59 u60 u61 u62 u63 u64 u65 u66 u67 u68 u69 u70 u71 u72 u73 u74 u75 u76 u77 u78 u79 u80 u81 u82 u83 u84 u85 u86 u87 u88 u89 u90 u91 u92 u93 u94 u95 u96 u97 u98 u99 u100 u101 u102 u103 u104 u105 u106 u107 u108 u109 u110 u111 u112 u113 u114 u115 u116 u117 u118 u119 u120 u121 u122 u123 u124 u125 u126 u127 u128 u129 u130 u131 u132 u133 u134 u135 u136 u137 u138 u139 u140 u141 u142 u143 u144 u145 u146 u147 u148 u149 u150 u151 u152 u153 u154 u155 u156 u157 u158 u159 u160 u161 u162 u163 u164 u165 u166 u167 u168 u169 u170 u171 u172 u173 u174 u175 u176 u177 u178 u179 u180 u181 u182 u183 u184 u185 u186 u187 u188 u189 u190 u191 u192 u193 u194 u195 u196 u197 u198 u199 u200 u201 u202 u203 u204 u205 u206 u207 u208 u209 u210 u211 u212 u213 u214 u215 u216 u217 u218 u219 u220 u221 u222 u223 u224 u225 u226 u227 u228 u229 u230 u231 u232 u233 u234 u235 u236 u237 u238 u239 u240 u241 u242 u243 u244 u245 u246 u247 u248 u249 u250 u251 u252 u253 u254 u255 u256 u257 u258 : Value} :
    Code.wp Tryd.prog (numCode 5) (bodyPost Tryd.prog Tryd.f84 (FailS w)) ⟨#[.agg #[.int .u32 fl], .slice (some ad) m c, u2, u3, u4, u5, .int .u64 kk, .nilIface, .int .i64 (p0 : Int), u9, u10, u11, u12, u13, u14, u15, u16, u17, u18, u19, u20, u21, u22, u23, u24, u25, u26, u27, u28, u29, u30, u31, u32, u33, u34, u35, u36, u37, u38, u39, u40, u41, u42, u43, u44, u45, u46, u47, u48, u49, u50, u51, u52, u53, u54, u55, u56, u57, u58, u59, u60, u61, u62, u63, u64, u65, u66, u67, u68, u69, u70, u71, u72, u73, u74, u75, u76, u77, u78, u79, u80, u81, u82, u83, u84, u85, u86, u87, u88, u89, u90, u91, u92, u93, u94, u95, u96, u97, u98, u99, u100, u101, u102, u103, u104, u105, u106, u107, u108, u109, u110, u111, u112, u113, u114, u115, u116, u117, u118, u119, u120, u121, u122, u123, u124, u125, u126, u127, u128, u129, u130, u131, u132, u133, u134, u135, u136, u137, u138, u139, u140, u141, u142, u143, u144, u145, u146, u147, u148, u149, u150, u151, u152, u153, u154, u155, u156, u157, u158, u159, u160, u161, u162, u163, u164, u165, u166, u167, u168, u169, u170, u171, u172, u173, u174, u175, u176, u177, u178, u179, u180, u181, u182, u183, u184, u185, u186, u187, u188, u189, u190, u191, u192, u193, u194, u195, u196, u197, u198, u199, u200, u201, u202, u203, u204, u205, u206, u207, u208, u209, u210, u211, u212, u213, u214, u215, u216, u217, u218, u219, u220, u221, u222, u223, u224, u225, u226, u227, u228, u229, u230, u231, u232, u233, u234, u235, u236, u237, u238, u239, u240, u241, u242, u243, u244, u245, u246, u247, u248, u249, u250, u251, u252, u253, u254, u255, u256, u257, u258], []⟩ w1 := by
  conv => arg 2; whnf
  have HPP := HP.out
  have hpm : p0 < m := by omega
  obtain ⟨ad', had, c1, -⟩ := HS.out.at_ p0 hpm
  obtain rfl : ad = ad' := by injection had
  obtain ⟨d0, hd0⟩ : ∃ d0, d0 = zs.getD p0 0 := ⟨_, rfl⟩
  rw [← hd0] at c1
  have hdg : 48 ≤ d0 ∧ d0 ≤ 57 := by rw [hd0]; exact HN.out.int.2.1 p0 (Nat.le_refl _) HN.out.int.1
  obtain ⟨hg0, hg1⟩ := hdg
  have HD0 := Aside0.mk hd0
  have hz1 : ((p0 : Int) == (m : Int)) = false := by rw [beq_eq_false_iff_ne]; omega
  clear hd0 HPP had
  refine wp_seam (fun K hK => ?_)
  go_wp2_with fail
  refine ⟨wp_seam (fun K2 hK2 => ?_)⟩
  clear hz1
  have hlo : ¬ d0 < 48 := by omega
  have hhi : ¬ 57 < d0 := by omega
  go_wp2_with fail
  refine ⟨wp_seam (fun K3 hK3 => ?_)⟩
  clear hlo hhi
  by_cases hz0 : d0 = 48
  · subst hz0
    have hp1 : (p0 : Int) + 1 = (p1 : Int) := by have := HN.out.int.2.2 HD0.out.symm; omega
    have HP1 := Aside0.mk hp1
    clear hp1
    go_upto_region 14 with (fail)
    rw [HP1.out]
    clear c1 hg0 hg1
    have hml : p1 < m := HP.out.2
    have hmb : ((p1 : Int) == (m : Int)) = false := by rw [beq_eq_false_iff_ne]; omega
    obtain ⟨ad2, had, c2, -⟩ := HS.out.at_ p1 hml
    obtain rfl : ad = ad2 := by injection had
    obtain ⟨d1, hd1⟩ : ∃ d1, d1 = zs.getD p1 0 := ⟨_, rfl⟩
    have hs := HN.out.stop
    rw [← hd1] at c2 hs
    clear hd1 had
    rcases hs with rfl | rfl | rfl
    all_goals
      go_wp2_with fail
      exact ⟨cutn_t8 w w1 B ad m c fl zs kk p1 p0 p1 p2 hmx HM HS HAL HN ⟨HP.out.2⟩ ⟨by have := HP.out; omega, Nat.le_refl _⟩⟩
  · have hzz : (d0 == 48) = false := by rw [beq_eq_false_iff_ne]; exact hz0
    clear hz0
    go_wp2_with fail
    exact ⟨cutn_t8 w w1 B ad m c fl zs kk p0 p0 p1 p2 hmx HM HS HAL HN ⟨HP.out.2⟩ ⟨Nat.le_refl _, by have := HP.out; omega⟩⟩
set_option maxHeartbeats 4000000 in
set_option maxRecDepth 100000 in
theorem cutn_calls (w : World) (B : Nat) (A : Option Addr) (n c : Nat) (fl : Int) (zs : List Int) (p0 p1 p2 : Nat) (hN : NumC zs p0 p1 p2) (h : Sl w B (.slice A n c) zs) (hB : B ≤ w.heap.size) :
    Calls Tryd.prog 84 #[.agg #[.int .u32 fl], .slice A n c] w (FailS w) := by
  obtain ⟨rfl, hnc⟩ := h.len
  have hmx : zs.length ≤ 9223372036854775807 := h.cut.2.2.1.2.1
  have hal := below_alloc (Below.refl w.heap.size w) (.cells #[.int .u32 fl] 116)
  have h1 := h.below (hal.mono hB)
  have hz1 : p0 < p1 ∧ p1 < zs.length := ⟨hN.int.1, hN.lt.1⟩
  obtain ⟨ad, rfl, c0, -⟩ := h1.at_ 0 (by omega)
  have hz : decide (zs.length = 0) = false := decide_eq_false (by omega)
  have hz' : ((zs.length : Int) == 0) = false := by rw [beq_eq_false_iff_ne]; omega
  have HS := Aside0.mk h1
  have HAL := Aside0.mk hal
  obtain ⟨b0, hb0⟩ : ∃ b0, b0 = zs.getD 0 0 := ⟨_, rfl⟩
  rw [← hb0] at c0
  have e0 : ad.add 0 = ad := by simp [Addr.add]
  rw [e0] at c0
  have hsg := hN.sign
  rw [← hb0] at hsg
  have HN := Aside0.mk hN
  obtain ⟨w1, hw1⟩ : ∃ w1, w1 = w.alloc (.cells #[.int .u32 fl] 116) := ⟨_, rfl⟩
  rw [← hw1] at c0 HS HAL
  have HW1 := Aside0.mk hw1
  obtain ⟨m, hm⟩ : ∃ m, m = zs.length := ⟨_, rfl⟩
  rw [← hm] at HS hz hz' hmx hnc ⊢
  rw [← hm] at hz1
  have HP := Aside0.mk hz1
  have hm0 : 0 < m := by omega
  have HM := Aside0.mk hm
  clear h hB hal h1 hN hb0 e0 hw1 hz1 hm
  go_enter Tryd.func84, Tryd.ntmps84
  refine wp_seam (fun K hK => ?_)
  go_wp2_with fail
  rw [← HW1.out]
  clear HW1
  refine ⟨wp_seam (fun K1 hK1 => ?_)⟩
  go_wp2_with fail
  refine ⟨wp_seam (fun K2 hK2 => ?_)⟩
  go_wp2_with fail
  refine ⟨wp_seam (fun K3 hK3 => ?_)⟩
  go_wp2_with fail
  refine ⟨wp_seam (fun K4 hK4 => ?_)⟩
  rcases hsg with ⟨rfl, hd⟩ | ⟨rfl, rfl⟩
  · have h45 : (b0 == 45) = false := by rw [beq_eq_false_iff_ne]; have := hd.1; omega
    clear hd
    go_wp2_with fail
    exact ⟨cutn_t5 w w1 B ad m c fl zs 5 0 p1 p2 hmx HM HS HAL HN HP⟩
  · go_wp2_with fail
    exact ⟨cutn_t5 w w1 B ad m c fl zs 6 1 p1 p2 hmx HM HS HAL HN HP⟩
set_option maxHeartbeats 4000000 in
set_option maxRecDepth 100000 in
theorem cutn_minus (w : World) (B : Nat) (A : Option Addr) (n c : Nat) (fl : Int) (h : Sl w B (.slice A n c) [45]) (hB : B ≤ w.heap.size) :
    Calls Tryd.prog 84 #[.agg #[.int .u32 fl], .slice A n c] w (FailS w) := by
  obtain ⟨hn, hnc⟩ := h.len
  obtain rfl : n = 1 := hn
  have hal := below_alloc (Below.refl w.heap.size w) (.cells #[.int .u32 fl] 116)
  have h1 := h.below (hal.mono hB)
  obtain ⟨ad, rfl, c0, -⟩ := h1.at_ 0 (by omega)
  have e0 : ad.add 0 = ad := by simp [Addr.add]
  rw [e0] at c0
  have HS := Aside0.mk h1
  have HAL := Aside0.mk hal
  obtain ⟨w1, hw1⟩ : ∃ w1, w1 = w.alloc (.cells #[.int .u32 fl] 116) := ⟨_, rfl⟩
  rw [← hw1] at c0 HS HAL
  have HW1 := Aside0.mk hw1
  obtain ⟨A9, hcut9, -⟩ := HS.out.next 22 1 .i64 Tryd.underlying22 (Nat.le_refl _)
  have hcut10 : ∀ W : World, (Instr.slice 22 (.slice (some ad) 1 c) (some (.int .i64 1)) none none).run Tryd.prog W = .ok (.slice A9 0 (c - 1)) W := hcut9
  have c1 : w1.cell? ad = some (.int .u8 45) := c0.trans rfl
  clear h hB hal h1 e0 hw1 hnc hcut9 c0
  go_enter Tryd.func84, Tryd.ntmps84
  refine wp_seam (fun K hK => ?_)
  go_wp2_with fail
  rw [← HW1.out]
  clear HW1
  refine ⟨?_⟩
  go_upto_region 9 with (fail)
  go_region_with (go_at_call 85; (with_reducible refine (syntax_err _ _ _ _).mono ?_); rintro en w4 ⟨⟨g, rfl⟩, hb4⟩; have HB4 := Aside0.mk hb4; clear hb4)
  all_goals
    have HW4 : Aside0 (Below w.heap.size w w4) := by
      first
      | exact ⟨HAL.out.trans (HB4.out.mono HAL.out.size)⟩
      | exact ⟨HAL.out.trans (((below_drew (Below.refl _ _)).trans HB4.out).mono HAL.out.size)⟩
    go_wp2_with fail
    go_returns
    exact ⟨_, _, _, g, rfl, by first | exact HW4.out | exact below_drew HW4.out⟩
end Go.Proofs.YtekmminmgjoabaaDoor.Js

