/- Four hexadecimal digits are read. Strings are parsed: what stands behind the search of the first quotation mark. -/
import Derived.Test.YtekmminmgjoabaaDoorYRa
import Derived.WalkMore
import Derived.Test.YtekmminmgjoabaaDoorYRb
import Derived.ScopeJumps
import Derived.Deep.QuietTactic
import Derived.BigQuiet
namespace Go.Proofs.YtekmminmgjoabaaDoor.Js
open Go.RowKit Go.Proofs.YtekmminmgjoabaaDoorW.PrintWords Go.Proofs.YtekmminmgjoabaaDoorW.PrintLast Go.Proofs.YtekmminmgjoabaaDoorW.PrintMore Go.Proofs.YtekmminmgjoabaaDoor.PFnJSTokens
set_option linter.unusedVariables false
set_option linter.unusedSimpArgs false
def hexd (c : Int) : Int := if c ≤ 57 then c - 48 else if c ≤ 70 then c - 55 else c - 87
def hexv : List Int → Int
  | [a, b, c, d] => ((hexd a * 16 + hexd b) * 16 + hexd c) * 16 + hexd d
  | [a, b, c] => (hexd a * 16 + hexd b) * 16 + hexd c
  | [a, b] => hexd a * 16 + hexd b
  | [a] => hexd a
  | _ => 0
theorem hexd_bd {c : Int} (h : Hex c) : 0 ≤ hexd c ∧ hexd c ≤ 15 := by
  unfold hexd Hex at *
  split
  · omega
  · split <;> omega
theorem hexv_step {zs : List Int} (hl : zs.length = 4) (j : Nat) (hj : j < 4) : hexv (zs.take (j + 1)) = hexv (zs.take j) * 16 + hexd (zs.getD j 0) := by
  obtain ⟨a, b, c, d, rfl⟩ : ∃ a b c d, zs = [a, b, c, d] := by
    match zs, hl with
    | [a, b, c, d], _ => exact ⟨a, b, c, d, rfl⟩
  rcases (by omega : j = 0 ∨ j = 1 ∨ j = 2 ∨ j = 3) with rfl | rfl | rfl | rfl <;> simp [hexv]
theorem hexv_bd {zs : List Int} (hl : zs.length = 4) (hx : ∀ j, j < 4 → Hex (zs.getD j 0)) (j : Nat) (hj : j < 4) : 0 ≤ hexv (zs.take j) ∧ hexv (zs.take j) ≤ 4095 := by
  obtain ⟨a, b, c, d, rfl⟩ : ∃ a b c d, zs = [a, b, c, d] := by
    match zs, hl with
    | [a, b, c, d], _ => exact ⟨a, b, c, d, rfl⟩
  have h0 := hexd_bd (hx 0 (by omega))
  have h1 := hexd_bd (hx 1 (by omega))
  have h2 := hexd_bd (hx 2 (by omega))
  simp at h0 h1 h2
  rcases (by omega : j = 0 ∨ j = 1 ∨ j = 2 ∨ j = 3) with rfl | rfl | rfl | rfl <;> simp [hexv] <;> omega
set_option maxHeartbeats 4000000 in
set_option maxRecDepth 100000 in
theorem hex_calls (w : World) (B : Nat) (A : Option Addr) (n c : Nat) (fl : Int) (zs : List Int) (h : Sl w B (.slice A n c) zs) (h4 : zs.length = 4) (hx : ∀ j, j < 4 → Hex (zs.getD j 0)) (hB : B ≤ w.heap.size) :
    Calls Tryd.prog 148 #[.agg #[.int .u32 fl], .slice A n c] w fun e w' => ∃ A' c', e = .returned (.tuple #[.int .u64 (hexv zs), .slice A' 0 c', .nilIface]) ∧ Below w.heap.size w w' := by
  obtain ⟨rfl, hnc⟩ := h.len
  have hal := below_alloc (Below.refl w.heap.size w) (.cells #[.int .u32 fl] 116)
  have HS := Aside0.mk (h.below (hal.mono hB))
  have HAL := Aside0.mk hal
  have HX := Aside0.mk hx
  have HV := Aside0.mk (And.intro (fun j hj => hexv_step h4 j hj) (fun j hj => hexv_bd h4 hx j hj))
  have HT := Aside0.mk (show hexv (zs.take 4) = hexv zs by rw [List.take_of_length_le (by omega)])
  obtain ⟨w1, hw1⟩ : ∃ w1, w1 = w.alloc (.cells #[.int .u32 fl] 116) := ⟨_, rfl⟩
  rw [← hw1] at HS HAL
  have HW1 := Aside0.mk hw1
  rw [h4] at HS hnc ⊢
  clear h hx hal hw1 hB
  go_enter Tryd.func148, Tryd.ntmps148
  go_upto_region 1 with (fail)
  refine wp_scope_straight ?_
  rw [← HW1.out]
  clear HW1
  go_upto_region 5 with (fail)
  refine wp_label ?_
  with_reducible apply_assumption
  go_upto_region 6 with (fail)
  go_loopg [7, 8, 20] 4 (fun m v7 v8 v20 w' => ∃ j : Nat, v7 = .int .u64 (hexv (zs.take j)) ∧ v8 = .int .i64 (j : Int) ∧ v20 = .int .i64 (j : Int) ∧ Aside0 (j + m = 4) ∧ w1 = w')
  case atStart => exact ⟨0, rfl, rfl, rfl, ⟨rfl⟩, rfl⟩
  case round =>
    obtain ⟨j, rfl, rfl, rfl, HJ, rfl⟩ := hrel
    cases gk with
    | zero =>
      obtain rfl : j = 4 := by have := HJ.out; omega
      obtain ⟨A', hcut, hd⟩ := HS.out.next 22 4 .i64 Tryd.underlying22 (by omega)
      have hcut3 : ∀ W : World, (Instr.slice 22 (.slice A 4 c) (some (.int .i64 4)) none none).run Tryd.prog W = .ok (.slice A' (4 - 4) (c - 4)) W := hcut
      rw [HT.out]
      clear hd hcut
      go_upto_region 25 with (fail)
      go_region_with (fail)
      all_goals
        go_wp2_with fail
        (try rw [Exit.noGoto_ret])
        go_returns
        exact ⟨_, _, rfl, below_drew HAL.out⟩
    | succ k1 =>
      have hj : j < 4 := by have := HJ.out; omega
      obtain ⟨ad, rfl, c2, -⟩ := HS.out.at_ j hj
      have hst := HV.out.1 j hj
      have hbd := HV.out.2 j hj
      have hxx := HX.out j hj
      obtain ⟨d, hd⟩ : ∃ d, d = zs.getD j 0 := ⟨_, rfl⟩
      obtain ⟨V, hV⟩ : ∃ V, V = hexv (zs.take j) := ⟨_, rfl⟩
      rw [← hd] at c2 hst hxx
      rw [← hV] at hst hbd ⊢
      obtain ⟨hb0, hb1⟩ := hbd
      have HST := Aside0.mk hst
      have dlt : decide (j < 4) = true := by simpa using hj
      clear hst hd hV
      have H1 := Aside0.mk (show 48 ≤ d → d ≤ 57 → hexd d = d - 48 from fun a b => by unfold hexd; rw [if_pos b])
      have H2 := Aside0.mk (show 65 ≤ d → d ≤ 70 → hexd d = d - 65 + 10 from fun a b => by unfold hexd; rw [if_neg (by omega), if_pos b]; omega)
      have H3 := Aside0.mk (show 97 ≤ d → d ≤ 102 → hexd d = d - 97 + 10 from fun a b => by unfold hexd; rw [if_neg (by omega), if_neg (by omega)]; omega)
      rcases hxx with ⟨g0, g1⟩ | ⟨g0, g1⟩ | ⟨g0, g1⟩
      · go_wp2_with fail
        go_roundg k1
        case measure => omega
        case rel => exact ⟨j + 1, by rw [HST.out, H1.out g0 g1], by go_num, by go_num, ⟨by have := HJ.out; omega⟩, rfl⟩
      · go_wp2_with fail
        go_roundg k1
        case measure => omega
        case rel => exact ⟨j + 1, by rw [HST.out, H3.out g0 g1], by go_num, by go_num, ⟨by have := HJ.out; omega⟩, rfl⟩
      · go_wp2_with fail
        go_roundg k1
        case measure => omega
        case rel => exact ⟨j + 1, by rw [HST.out, H2.out g0 g1], by go_num, by go_num, ⟨by have := HJ.out; omega⟩, rfl⟩
set_option maxHeartbeats 4000000 in
set_option maxRecDepth 100000 in
theorem uni_calls (w : World) (B : Nat) (A : Option Addr) (n c : Nat) (fl : Int) (zs : List Int) (h : Sl w B (.slice A n c) zs) (h4 : 4 ≤ zs.length) (hx : ∀ j, j < 4 → Hex (zs.getD j 0)) (hB : B ≤ w.heap.size) :
    Calls Tryd.prog 117 #[.agg #[.int .u32 fl], .slice A n c] w fun e w' => e = .returned (.tuple #[.int .i32 (hexv (zs.take 4)), .int .i64 4, .nilIface]) ∧ Below w.heap.size w w' := by
  obtain ⟨rfl, hnc⟩ := h.len
  have hal := below_alloc (Below.refl w.heap.size w) (.cells #[.int .u32 fl] 116)
  have hS := h.below (hal.mono hB)
  obtain ⟨hcut, hd⟩ := hS.next_to 22 4 4 .i64 Tryd.underlying22 rfl h4
  have hl4 : (zs.take 4).length = 4 := by rw [List.length_take]; omega
  have hx4 : ∀ j, j < 4 → Hex ((zs.take 4).getD j 0) := by
    intro j hj
    have := hx j hj
    rw [List.getD_eq_getElem?_getD, List.getElem?_take_of_lt hj, ← List.getD_eq_getElem?_getD]
    exact this
  have hbd : 0 ≤ hexv (zs.take 4) ∧ hexv (zs.take 4) ≤ 65535 := by
    have h1 := hexv_step hl4 3 (by omega)
    have h2 := hexv_bd hl4 hx4 3 (by omega)
    have h3 := hexd_bd (hx4 3 (by omega))
    rw [List.take_take, show min (3 + 1) 4 = 4 from rfl] at h1
    omega
  have hk : (w.alloc (.cells #[.int .u32 fl] 116)).heap[w.heap.size]? = some (.cells #[.int .u32 fl] 116 (0, 0)) := blk_new _ _
  have h116 := blk_cell hk 0
  obtain ⟨w1, hw1⟩ : ∃ w1, w1 = w.alloc (.cells #[.int .u32 fl] 116) := ⟨_, rfl⟩
  have HW1 := Aside0.mk hw1
  have HSZ := Aside0.mk (show B ≤ w1.heap.size by rw [hw1]; exact Nat.le_trans hB hal.size)
  rw [← hw1] at hal hd h116
  have HC := Aside0.mk (fun (W : World) (hW : Below w1.heap.size w1 W) => hex_calls W B A 4 c fl (zs.take 4) (hd.below (hW.mono HSZ.out)) hl4 hx4 (Nat.le_trans HSZ.out hW.size))
  obtain ⟨V, hV⟩ : ∃ V, V = hexv (zs.take 4) := ⟨_, rfl⟩
  rw [← hV] at hbd HC ⊢
  obtain ⟨hv0, hv1⟩ := hbd
  have HAL := Aside0.mk hal
  have hlt : ¬ zs.length < 4 := by omega
  have hdl : decide (zs.length < 4) = false := by simpa using h4
  obtain ⟨m, hm⟩ : ∃ m, m = zs.length := ⟨_, rfl⟩
  rw [← hm] at hlt hdl hnc hcut ⊢
  clear h hx hal hw1 hB hS hd hl4 hx4 hV hk hm h4
  go_enter Tryd.func117, Tryd.ntmps117
  go_upto_region 3 with (fail)
  rw [← HW1.out]
  clear HW1
  have h116' : w1.cell? ⟨w.heap.size, 0, none⟩ = some (.int .u32 fl) := h116.trans rfl
  clear h116
  go_region_with (go_at_call 148; (with_reducible refine (HC.out _ ?_).mono ?_); (first | exact below_drew (Below.refl _ _) | exact Below.refl _ _); rintro e w4 ⟨A4, c4, rfl, hb4⟩; have HB4 := Aside0.mk hb4; clear hb4)
  all_goals
    go_wp2_with fail
    go_returns
    refine ⟨rfl, ?_⟩
    first
    | exact HAL.out.trans (HB4.out.mono HAL.out.size)
    | exact (below_drew HAL.out).trans (HB4.out.mono (below_drew HAL.out).size)
    | exact below_drew (HAL.out.trans (HB4.out.mono HAL.out.size))
    | exact below_drew ((below_drew HAL.out).trans (HB4.out.mono (below_drew HAL.out).size))
end Go.Proofs.YtekmminmgjoabaaDoor.Js





namespace Go.Proofs.YtekmminmgjoabaaDoor.Js
open Go.RowKit Go.Proofs.YtekmminmgjoabaaDoorW.PrintWords Go.Proofs.YtekmminmgjoabaaDoorW.PrintLast Go.Proofs.YtekmminmgjoabaaDoorW.PrintMore Go.Proofs.YtekmminmgjoabaaDoor.PFnJSTokens
set_option linter.unusedVariables false
set_option linter.unusedSimpArgs false
/-- Nothing jumps behind it. -/
theorem wp_noGoto {P : Program} {c : Code} {J : Act → World → Prop} {Q : Exit → Act → World → Prop} {l : Nat} {s : Act} {w : World} (h : c.wp P (Exit.noGoto Q) s w) : c.wp P (Exit.jump l J Q) s w :=
  wp_mono h (fun e a w q => by cases e <;> first | exact q | exact False.elim q)
theorem wp_scope_fwd {P : Program} {c b : Code} {Q : Exit → Act → World → Prop} {s : Act} {w : World} (l : Nat) (hf : findLabel c l = some (.seq .skip b)) (h : c.wp P (Exit.jump l (fun a w => Seam P b (Exit.noGoto Q) a w) Q) s w) : (Code.scope c).wp P Q s w :=
  wp_scope_jumps l _ (fun _ _ => 0) hf h (fun a w hs => wp_seq (wp_skip (wp_mono hs.out (fun e a w q => by cases e <;> first | exact q | exact False.elim q))))
/-- v[j:k]. -/
theorem Sl.mid {w : World} {B : Nat} {A : Option Addr} {n c : Nat} {zs : List Int} (h : Sl w B (.slice A n c) zs) (t lo hi : Nat) (jl jh : Int) (kl kh : IntKind) (ht : Tryd.prog.underlying t = some (.slice 5)) (h1 : jl = (lo : Int)) (h2 : jh = (hi : Int)) (h3 : lo ≤ hi) (h4 : hi ≤ n) : ∃ A', (∀ W : World, (Instr.slice t (.slice A n c) (some (.int kl jl)) (some (.int kh jh)) none).run Tryd.prog W = .ok (.slice A' (hi - lo) (c - lo)) W) ∧ Sl w B (.slice A' (hi - lo) (c - lo)) ((zs.take hi).drop lo) := by
  obtain ⟨i, hi', hz⟩ := Option.map_eq_some_iff.1 info5
  simp only [Prod.mk.injEq] at hz
  subst h1 h2
  have h5 := (h.take hi h4).drop lo h3
  have e := cut_mid t 5 kl kh ht hi' 1 hz.2.1 A n c (lo : Int) (hi : Int) (by omega) (by omega) (by omega) h.len.2
  refine ⟨_, fun W => ?_, h5⟩
  have := e W
  simpa using this
theorem has_calls (fl f : Int) (w : World) : Calls Tryd.prog 116 #[.int .u32 fl, .int .u32 f] w fun e w' => e = .returned (.bool (Go.bits .and .u32 fl f != 0)) ∧ w' = w := by
  go_enter Tryd.func116, Tryd.ntmps116
  go_wp2
  go_ret
  exact ⟨rfl, rfl⟩
noncomputable def strCode (n : Nat) : Code := tl n (inScope (Tryd.f80.body.getD .skip))
/-- What parseString answers: the string that ends at place e, of inside l. -/
def StrPost (w : World) (B e : Nat) (l zs : List Int) (en : Ending) (w' : World) : Prop := ∃ v1 v2 k, en = .returned (.tuple #[v1, v2, .int .u64 k, .nilIface]) ∧ ((k = 9 ∧ 92 ∉ l) ∨ (k = 8 ∧ ¬ (92 ∉ l ∧ ∀ c ∈ l, prn c = true))) ∧ Sl w' B v1 (zs.take (e + 1)) ∧ Sl w' B v2 (zs.drop (e + 1)) ∧ Below w.heap.size w w'
/-- The same, and where the flags do not say that all is printable, what is told as such is. -/
def StrPostS (w : World) (B e : Nat) (p : Bool) (l zs : List Int) (en : Ending) (w' : World) : Prop := ∃ v1 v2 k, en = .returned (.tuple #[v1, v2, .int .u64 k, .nilIface]) ∧ ((k = 9 ∧ 92 ∉ l ∧ (p = false → ∀ c ∈ l, prn c = true)) ∨ (k = 8 ∧ ¬ (92 ∉ l ∧ ∀ c ∈ l, prn c = true))) ∧ Sl w' B v1 (zs.take (e + 1)) ∧ Sl w' B v2 (zs.drop (e + 1)) ∧ Below w.heap.size w w'
theorem StrPostS.weak {w : World} {B e : Nat} {p : Bool} {l zs : List Int} {en : Ending} {w' : World} (h : StrPostS w B e p l zs en w') : StrPost w B e l zs en w' := by
  obtain ⟨v1, v2, k, h1, h2, h3⟩ := h
  exact ⟨v1, v2, k, h1, h2.imp (fun h => ⟨h.1, h.2.1⟩) id, h3⟩
set_option maxHeartbeats 4000000 in
set_option maxRecDepth 100000 in
theorem str_t8 (w w1 : World) (B : Nat) (ad : Addr) (m c : Nat) (fl : Int) (zs l : List Int) (e : Nat) (p : Bool) (hmx : m ≤ 9223372036854775807) (HM : Aside0 (m = zs.length)) (HS : Aside0 (Sl w1 B (.slice (some ad) m c) zs)) (HAL : Aside0 (Below w.heap.size w w1)) (HB : Aside0 (B ≤ w1.heap.size)) (HBX : Aside0 (w1.heap[w.heap.size]? = some (.cells #[.int .u32 fl] 116 (0, 0))))
    (HSA : Aside0 (StrAt zs e 1 l)) (HNP : Aside0 (¬ (92 ∉ l ∧ ∀ c ∈ l, prn c = true))) {u3 u4 u5 u6 u7 u8 u9 u10 u11 u12 u13 u14 u15 u16 u17 u18 u19 u20 u21 u22 u23 u24 u25 u26 u27 u28 u29 u30 u31 u32 u33 u34 u35 u36 u37 u38 u39 u40 u41 u42 u43 u44 u45 u46 u47 u48 u49 u50 u51 u52 u53 u54 u55 u56 u57 u58 u59 u60 u61 u62 u63 u64 u65 u66 u67 u68 u69 u70 u71 u72 u73 u74 u75 u76 u77 u78 u79 u80 u81 u82 u83 u84 u85 u86 u87 u88 u89 u90 u91 u92 u93 u94 u95 u96 u97 u98 u99 u100 u101 u102 u103 u104 u105 u106 u107 u108 u109 u110 u111 u112 u113 u114 u115 u116 u117 u118 u119 u120 u121 u122 u123 u124 u125 u126 u127 u128 u129 u130 u131 u132 u133 u134 u135 u136 u137 u138 u139 u140 u141 u142 u143 u144 u145 u146 u147 u148 u149 u150 u151 u152 u153 u154 u155 u156 u157 u158 u159 u160 u161 u162 u163 u164 u165 u166 u167 u168 u169 u170 u171 u172 u173 u174 u175 u176 u177 u178 u179 u180 u181 u182 u183 u184 u185 u186 u187 u188 u189 u190 u191 u192 u193 u194 u195 u196 u197 u198 u199 u200 u201 u202 u203 u204 : Value} :
    Code.wp Tryd.prog (strCode 8) (Exit.noGoto (bodyPost Tryd.prog Tryd.f80 (StrPostS w B e p l zs))) ⟨#[.agg #[.int .u32 fl], .slice (some ad) m c, .pointer (some ⟨w.heap.size, 0, none⟩), u3, u4, u5, u6, u7, u8, u9, u10, u11, u12, u13, u14, u15, u16, u17, u18, u19, u20, u21, u22, u23, u24, u25, u26, u27, u28, u29, u30, u31, u32, u33, u34, u35, u36, u37, u38, u39, u40, u41, u42, u43, u44, u45, u46, u47, u48, u49, u50, u51, u52, u53, u54, u55, u56, u57, u58, u59, u60, u61, u62, u63, u64, u65, u66, u67, u68, u69, u70, u71, u72, u73, u74, u75, u76, u77, u78, u79, u80, u81, u82, u83, u84, u85, u86, u87, u88, u89, u90, u91, u92, u93, u94, u95, u96, u97, u98, u99, u100, u101, u102, u103, u104, u105, u106, u107, u108, u109, u110, u111, u112, u113, u114, u115, u116, u117, u118, u119, u120, u121, u122, u123, u124, u125, u126, u127, u128, u129, u130, u131, u132, u133, u134, u135, u136, u137, u138, u139, u140, u141, u142, u143, u144, u145, u146, u147, u148, u149, u150, u151, u152, u153, u154, u155, u156, u157, u158, u159, u160, u161, u162, u163, u164, u165, u166, u167, u168, u169, u170, u171, u172, u173, u174, u175, u176, u177, u178, u179, u180, u181, u182, u183, u184, u185, u186, u187, u188, u189, u190, u191, u192, u193, u194, u195, u196, u197, u198, u199, u200, u201, u202, u203, u204], []⟩ w1 := by
  conv => arg 2; whnf
  refine wp_seam (fun K hK => ?_)
  have HLT := Aside0.mk (show e < m by rw [HM.out]; exact HSA.out.lt)
  go_upto_region 22 with (fail)
  go_loopg [12] (e - 1) (fun n v12 w' => ∃ (i : Nat) (l' : List Int), v12 = .int .i64 (i : Int) ∧ Aside0 (i + n = e) ∧ Aside0 (StrAt zs e i l') ∧ Aside0 (Below w1.heap.size w1 w'))
  case atStart => exact ⟨1, l, rfl, ⟨by have := HSA.out.fit; omega⟩, HSA, ⟨Below.refl _ _⟩⟩
  case round =>
    obtain ⟨i, l', rfl, HI, HA, HW⟩ := hrel
    have him : i < m := by have := HLT.out; have := HI.out; omega
    have dlt : decide (i < m) = true := by simpa using him
    have HSr := Aside0.mk (HS.out.below (HW.out.mono HB.out))
    obtain ⟨ad2, had, c2, -⟩ := HSr.out.at_ i him
    obtain rfl : ad = ad2 := by injection had
    have hnx := HA.out.next
    obtain ⟨d1, hd1⟩ : ∃ d1, d1 = zs.getD i 0 := ⟨_, rfl⟩
    rw [← hd1] at c2 hnx
    clear hd1 had
    rcases hnx with ⟨hie, rfl⟩ | ⟨l1, hie, n1, n2, n3, hs⟩ | ⟨l1, hie, rfl, hes, hs⟩ | ⟨l1, hie, rfl, h117, hx0, hx1, hx2, hx3, hs⟩
    · -- the mark
      obtain rfl : i = e := hie
      obtain ⟨A', hcutA, hcutB, hdA, hdB⟩ := HSr.out.both 22 (i + 1) ((i : Int) + 1) .i64 Tryd.underlying22 (by omega) (by omega)
      have HDD := Aside0.mk (And.intro hdA hdB)
      clear hdA hdB
      go_upto_region 46 with (fail)
      have hsum : IntKind.i64.wrap ((i : Int) + 1) = (i : Int) + 1 := IntWalk.i64_in _ (by omega)
      clear c2 dlt
      go_quiet (fail)
      clear hsum
      go_wp2_with fail
      (try rw [Exit.noGoto_ret])
      go_returns
      exact ⟨_, _, 8, rfl, .inr ⟨rfl, HNP.out⟩, HDD.out.1.below (pw_below_drewN (Below.refl B wr) _), HDD.out.2.below (pw_below_drewN (Below.refl B wr) _), pw_below_drewN (HAL.out.trans (HW.out.mono HAL.out.size)) _⟩
    · -- as it stands
      have hn1 : (d1 == 92) = false := by rw [beq_eq_false_iff_ne]; exact n2
      have hn2 : (d1 == 34) = false := by rw [beq_eq_false_iff_ne]; exact n1
      have hn3 : ¬ d1 < 32 := by omega
      have HSS := Aside0.mk hs
      have HIE := Aside0.mk hie
      clear n1 n2 n3 hs hie
      go_wp2_with fail
      go_roundg (e - (i + 1))
      case measure => have := HI.out; have := HIE.out; omega
      case rel => exact ⟨i + 1, l1, by go_num, ⟨by have := HI.out; have := HIE.out; omega⟩, HSS, HW⟩
    · -- an escape
      have hie2 : i + 1 < m := by have := HLT.out; omega
      obtain ⟨ad3, had3, c3, -⟩ := HSr.out.at_ (i + 1) hie2
      obtain rfl : ad = ad3 := by injection had3
      obtain ⟨d2, hd2⟩ : ∃ d2, d2 = zs.getD (i + 1) 0 := ⟨_, rfl⟩
      rw [← hd2] at c3 hes
      obtain ⟨i1, hi1⟩ : ∃ i1, i1 = i + 1 := ⟨_, rfl⟩
      have HE := Aside0.mk (show (i : Int) + 1 = (i1 : Int) by omega)
      have HI1 := Aside0.mk hi1
      rw [← hi1] at c3 hie2
      have hs' : StrAt zs e (i1 + 1) l1 := by rw [hi1]; exact hs
      have HSS := Aside0.mk hs'
      have HIE := Aside0.mk hie
      have dlt2 : decide (i1 < m) = true := by simpa using hie2
      clear hd2 had3 hi1 hs hs' hie
      go_upto_region 29 with (fail)
      rw [HE.out]
      clear c2 dlt him
      rcases hes with rfl | rfl | rfl | rfl | rfl | rfl | rfl | rfl
      all_goals
        go_wp2_with fail
        go_roundg (e - (i1 + 1))
        case measure => have := HI.out; have := HIE.out; have := HI1.out; omega
        case rel => exact ⟨i1 + 1, l1, by go_num, ⟨by have := HI.out; have := HIE.out; have := HI1.out; omega⟩, HSS, HW⟩
    · -- a number
      have hie2 : i + 1 < m := by have := HLT.out; omega
      obtain ⟨ad3, had3, c3, -⟩ := HSr.out.at_ (i + 1) hie2
      obtain rfl : ad = ad3 := by injection had3
      rw [h117] at c3
      obtain ⟨i1, hi1⟩ : ∃ i1, i1 = i + 1 := ⟨_, rfl⟩
      have HE := Aside0.mk (show (i : Int) + 1 = (i1 : Int) by omega)
      have HI1 := Aside0.mk hi1
      rw [← hi1] at c3 hie2
      have hs' : StrAt zs e (i1 + 5) l1 := by rw [hi1]; exact hs
      have HSS := Aside0.mk hs'
      have HIE := Aside0.mk hie
      have dlt2 : decide (i1 < m) = true := by simpa using hie2
      obtain ⟨A', -, hcutB, -, hdB⟩ := HSr.out.both 22 (i1 + 1) ((i1 : Int) + 1) .i64 Tryd.underlying22 (by omega) (by omega)
      have hex : ∀ j, j < 4 → Hex ((zs.drop (i1 + 1)).getD j 0) := by
        intro j hj
        rw [List.getD_eq_getElem?_getD, List.getElem?_drop, ← List.getD_eq_getElem?_getD, hi1]
        rcases (by omega : j = 0 ∨ j = 1 ∨ j = 2 ∨ j = 3) with rfl | rfl | rfl | rfl
        · exact hx0
        · exact hx1
        · exact hx2
        · exact hx3
      have hl4 : 4 ≤ (zs.drop (i1 + 1)).length := by
        rw [List.length_drop]
        have := HSA.out.lt
        omega
      have hi5 : (i1 : Int) + 5 ≤ (m : Int) := by have := HLT.out; omega
      have HBr := Aside0.mk (Nat.le_trans HB.out HW.out.size)
      have HU := Aside0.mk (fun (W : World) (hW : Below wr.heap.size wr W) => uni_calls W B A' (m - (i1 + 1)) (c - (i1 + 1)) fl (zs.drop (i1 + 1)) (hdB.below (hW.mono HBr.out)) hl4 hex (Nat.le_trans HBr.out hW.size))
      have hbx := blk_cell (blk_below HBX.out HW.out) 0
      have hbx' : wr.cell? ⟨w.heap.size, 0, none⟩ = some (.int .u32 fl) := hbx.trans rfl
      clear had3 hi1 hs hs' hie hx0 hx1 hx2 hx3 h117 hdB hex hl4 hbx
      go_upto_region 29 with (fail)
      rw [HE.out]
      clear c2 dlt him
      go_upto_region 41 with (fail)
      have hsum : IntKind.i64.wrap ((i1 : Int) + 1) = (i1 : Int) + 1 := IntWalk.i64_in _ (by omega)
      go_region_with (go_at_call 117; (with_reducible refine (HU.out _ ?_).mono ?_); (first | exact below_drew (Below.refl _ _) | exact Below.refl _ _); rintro en w4 ⟨rfl, hb4⟩; have HB4 := Aside0.mk hb4; clear hb4)
      all_goals
        clear hsum
        go_wp2_with fail
        go_roundg (e - (i1 + 5))
        case measure => have := HI.out; have := HIE.out; have := HI1.out; omega
        case rel =>
          refine ⟨i1 + 5, l1, congrArg (Value.int .i64) (by omega), ⟨by have := HI.out; have := HIE.out; have := HI1.out; omega⟩, HSS, ⟨?_⟩⟩
          first
          | exact HW.out.trans (HB4.out.mono HW.out.size)
          | exact (below_drew HW.out).trans (HB4.out.mono (below_drew HW.out).size)
          | exact below_drew (HW.out.trans (HB4.out.mono HW.out.size))
          | exact below_drew ((below_drew HW.out).trans (HB4.out.mono (below_drew HW.out).size))
end Go.Proofs.YtekmminmgjoabaaDoor.Js

