/- Numbers are parsed. -/
import Derived.Test.YtekmminmgjoabaaDoorYRa
namespace Go.Proofs.YtekmminmgjoabaaDoor.Js
open Go.RowKit Go.Proofs.YtekmminmgjoabaaDoorW.PrintWords Go.Proofs.YtekmminmgjoabaaDoorW.PrintLast Go.Proofs.YtekmminmgjoabaaDoorW.PrintMore Go.Proofs.YtekmminmgjoabaaDoor.PFnJSTokens
set_option linter.unusedVariables false
set_option linter.unusedSimpArgs false
noncomputable def numCode (n : Nat) : Code := tl n (Tryd.f84.body.getD .skip)
/-- What parseNumber answers. -/
def PnumPost (w : World) (B p3 : Nat) (zs : List Int) (e : Ending) (w' : World) : Prop := ∃ v1 v2 k, e = .returned (.tuple #[v1, v2, .int .u64 k, .nilIface]) ∧ (k = 5 ∨ k = 6 ∨ k = 7) ∧ Sl w' B v1 (zs.take p3) ∧ Sl w' B v2 (zs.drop p3) ∧ Below w.heap.size w w'
set_option maxHeartbeats 4000000 in
set_option maxRecDepth 100000 in
theorem num_t11 (w w1 : World) (B : Nat) (ad : Addr) (m c : Nat) (fl kk : Int) (zs : List Int) (p3 : Nat) (HS : Aside0 (Sl w1 B (.slice (some ad) m c) zs)) (HAL : Aside0 (Below w.heap.size w w1)) (HK : Aside0 (kk = 5 ∨ kk = 6 ∨ kk = 7)) (HP : Aside0 (p3 ≤ m)) {u2 u3 u4 u5 u9 u10 u11 u12 u13 u14 u15 u16 u17 u18 u19 u20 u21 u22 u23 u24 u25 u26 u27 u28 u29 u30 u31 u32 u33 u34 u35 u36 u37 u38 u39 u40 u41 u42 u43 u44 u45 u46 u47 u48 u49 u50 u51 u52 u53 u54 u55 u56 u57 u58 u59 u60 u61 u62 u63 u64 u65 u66 u67 u68 u69 u70 u71 u72 u73 u74 u75 u76 u77 u78 u79 u80 u81 u82 u83 u84 u85 u86 u87 u88 u89 u90 u91 u92 u93 u94 u95 u96 u97 u98 u99 u100 u101 u102 u103 u104 u105 u106 u107 u108 u109 u110 u111 u112 u113 u114 u115 u116 u117 u118 u119 u120 u121 u122 u123 u124 u125 u126 u127 u128 u129 u130 u131 u132 u133 u134 u135 u136 u137 u138 u139 u140 u141 u142 u143 u144 u145 u146 u147 u148 u149 u150 u151 u152 u153 u154 u155 u156 u157 u158 u159 u160 u161 u162 u163 u164 u165 u166 u167 u168 u169 u170 u171 u172 u173 u174 u175 u176 u177 u178 u179 u180 u181 u182 u183 u184 u185 u186 u187 u188 u189 u190 u191 u192 u193 u194 u195 u196 u197 u198 u199 u200 u201 u202 u203 u204 u205 u206 u207 u208 u209 u210 u211 u212 u213 u214 u215 u216 u217 u218 u219 u220 u221 u222 u223 u224 u225 u226 u227 u228 u229 u230 u231 u232 u233 u234 u235 u236 u237 u238 u239 u240 u241 u242 u243 u244 u245 u246 u247 u248 u249 u250 u251 u252 u253 u254 u255 u256 u257 u258 : Value} :
    Code.wp Tryd.prog (numCode 11) (bodyPost Tryd.prog Tryd.f84 (PnumPost w B p3 zs)) ⟨#[.agg #[.int .u32 fl], .slice (some ad) m c, u2, u3, u4, u5, .int .u64 kk, .nilIface, .int .i64 (p3 : Int), u9, u10, u11, u12, u13, u14, u15, u16, u17, u18, u19, u20, u21, u22, u23, u24, u25, u26, u27, u28, u29, u30, u31, u32, u33, u34, u35, u36, u37, u38, u39, u40, u41, u42, u43, u44, u45, u46, u47, u48, u49, u50, u51, u52, u53, u54, u55, u56, u57, u58, u59, u60, u61, u62, u63, u64, u65, u66, u67, u68, u69, u70, u71, u72, u73, u74, u75, u76, u77, u78, u79, u80, u81, u82, u83, u84, u85, u86, u87, u88, u89, u90, u91, u92, u93, u94, u95, u96, u97, u98, u99, u100, u101, u102, u103, u104, u105, u106, u107, u108, u109, u110, u111, u112, u113, u114, u115, u116, u117, u118, u119, u120, u121, u122, u123, u124, u125, u126, u127, u128, u129, u130, u131, u132, u133, u134, u135, u136, u137, u138, u139, u140, u141, u142, u143, u144, u145, u146, u147, u148, u149, u150, u151, u152, u153, u154, u155, u156, u157, u158, u159, u160, u161, u162, u163, u164, u165, u166, u167, u168, u169, u170, u171, u172, u173, u174, u175, u176, u177, u178, u179, u180, u181, u182, u183, u184, u185, u186, u187, u188, u189, u190, u191, u192, u193, u194, u195, u196, u197, u198, u199, u200, u201, u202, u203, u204, u205, u206, u207, u208, u209, u210, u211, u212, u213, u214, u215, u216, u217, u218, u219, u220, u221, u222, u223, u224, u225, u226, u227, u228, u229, u230, u231, u232, u233, u234, u235, u236, u237, u238, u239, u240, u241, u242, u243, u244, u245, u246, u247, u248, u249, u250, u251, u252, u253, u254, u255, u256, u257, u258], []⟩ w1 := by
  conv => arg 2; whnf
  obtain ⟨A', hcutA, hcutB, hdA, hdB⟩ := HS.out.both 22 p3 (p3 : Int) .i64 Tryd.underlying22 rfl HP.out
  have HDD := Aside0.mk (And.intro hdA hdB)
  clear hdA hdB
  go_upto_region 48 with (fail)
  go_region_with (fail)
  all_goals
    go_wp2_with fail
    go_returns
    exact ⟨_, _, _, rfl, HK.out, HDD.out.1.below (below_drew (Below.refl B w1)), HDD.out.2.below (below_drew (Below.refl B w1)), below_drew HAL.out⟩
noncomputable def expCode : Code := pick [0, 1, 0] (numCode 10)
set_option maxHeartbeats 4000000 in
set_option maxRecDepth 100000 in
theorem num_expL (w w1 : World) (B : Nat) (ad : Addr) (m c : Nat) (fl : Int) (zs : List Int) (q p3 : Nat) (hmx : m ≤ 9223372036854775807) (HM : Aside0 (m = zs.length)) (HS : Aside0 (Sl w1 B (.slice (some ad) m c) zs)) (HAL : Aside0 (Below w.heap.size w w1)) (HP : Aside0 (p3 ≤ m)) (HQ : Aside0 (q < p3 ∧ Run zs q p3)) (HF : Aside0 (p3 < m → ¬ Digit (zs.getD p3 0)))
    (K : Act → World → Prop) (hK : ∀ s w', Seam Tryd.prog (numCode 11) (bodyPost Tryd.prog Tryd.f84 (PnumPost w B p3 zs)) s w' → K s w') {u2 u3 u4 u5 u9 u10 u11 u12 u13 u14 u15 u16 u17 u18 u19 u20 u21 u22 u23 u24 u25 u26 u27 u28 u29 u30 u31 u32 u33 u34 u35 u36 u37 u38 u39 u40 u41 u42 u43 u44 u45 u46 u47 u48 u49 u50 u51 u52 u53 u54 u55 u56 u57 u58 u59 u60 u61 u62 u63 u64 u65 u66 u67 u68 u69 u70 u71 u72 u73 u74 u75 u76 u77 u78 u79 u80 u81 u82 u83 u84 u85 u86 u87 u88 u89 u90 u91 u92 u93 u94 u95 u96 u97 u98 u99 u100 u101 u102 u103 u104 u105 u106 u107 u108 u109 u110 u111 u112 u113 u114 u115 u116 u117 u118 u119 u120 u121 u122 u123 u124 u125 u126 u127 u128 u129 u130 u131 u132 u133 u134 u135 u136 u137 u138 u139 u140 u141 u142 u143 u144 u145 u146 u147 u148 u149 u150 u151 u152 u153 u154 u155 u156 u157 u158 u159 u160 u161 u162 u163 u164 u165 u166 u167 u168 u169 u170 u171 u172 u173 u174 u175 u176 u177 u178 u179 u180 u181 u182 u183 u184 u185 u186 u187 u188 u189 u190 u191 u192 u193 u194 u195 u196 u197 u198 u199 u200 u201 u202 u203 u204 u205 u206 u207 u208 u209 u210 u211 u212 u213 u214 u215 u216 u217 u218 u219 u220 u221 u222 u223 u224 u225 u226 u227 u228 u229 u230 u231 u232 u233 u234 u235 u236 u237 u238 u239 u240 u241 u242 u243 u244 u245 u246 u247 u248 u249 u250 u251 u252 u253 u254 u255 u256 u257 u258 : Value} :
    Code.wp Tryd.prog (pick [1, 1, 1] expCode) (Exit.then K (bodyPost Tryd.prog Tryd.f84 (PnumPost w B p3 zs))) ⟨#[.agg #[.int .u32 fl], .slice (some ad) m c, u2, u3, u4, u5, .int .u64 7, .nilIface, .int .i64 (q : Int), u9, u10, u11, u12, u13, u14, u15, u16, u17, u18, u19, u20, u21, u22, u23, u24, u25, u26, u27, u28, u29, u30, u31, u32, u33, u34, u35, u36, u37, u38, u39, u40, u41, u42, u43, u44, u45, u46, u47, u48, u49, u50, u51, u52, u53, u54, u55, u56, u57, u58, u59, u60, u61, u62, u63, u64, u65, u66, u67, u68, u69, u70, u71, u72, u73, u74, u75, u76, u77, u78, u79, u80, u81, u82, u83, u84, u85, u86, u87, u88, u89, u90, u91, u92, u93, u94, u95, u96, u97, u98, u99, u100, u101, u102, u103, u104, u105, u106, u107, u108, u109, u110, u111, u112, u113, u114, u115, u116, u117, u118, u119, u120, u121, u122, u123, u124, u125, u126, u127, u128, u129, u130, u131, u132, u133, u134, u135, u136, u137, u138, u139, u140, u141, u142, u143, u144, u145, u146, u147, u148, u149, u150, u151, u152, u153, u154, u155, u156, u157, u158, u159, u160, u161, u162, u163, u164, u165, u166, u167, u168, u169, u170, u171, u172, u173, u174, u175, u176, u177, u178, u179, u180, u181, u182, u183, u184, u185, u186, u187, u188, u189, u190, u191, u192, u193, u194, u195, u196, u197, u198, u199, u200, u201, u202, u203, u204, u205, u206, u207, u208, u209, u210, u211, u212, u213, u214, u215, u216, u217, u218, u219, u220, u221, u222, u223, u224, u225, u226, u227, u228, u229, u230, u231, u232, u233, u234, u235, u236, u237, u238, u239, u240, u241, u242, u243, u244, u245, u246, u247, u248, u249, u250, u251, u252, u253, u254, u255, u256, u257, u258], []⟩ w1 := by
  conv => arg 2; whnf
  have hqm : ((q : Int) == (m : Int)) = false := by rw [beq_eq_false_iff_ne]; have := HP.out; have := HQ.out.1; omega
  go_upto_region 42 with (fail)
  go_loopg [7, 8] (p3 - q) (fun n v7 v8 w' => v7 = .nilIface ∧ ∃ i : Nat, v8 = .int .i64 (i : Int) ∧ Aside0 (i + n = p3 ∧ q ≤ i) ∧ w1 = w')
  case atStart => exact ⟨rfl, q, rfl, ⟨by have := HQ.out.1; omega, Nat.le_refl _⟩, rfl⟩
  case round =>
    obtain ⟨rfl, i, rfl, HI, rfl⟩ := hrel
    cases gk with
    | zero =>
      obtain rfl : i = p3 := by have := HI.out; omega
      by_cases hm : i = m
      · have dlt : decide (i < m) = false := by rw [decide_eq_false_iff_not]; omega
        clear hm
        go_wp2_with fail
        exact ⟨num_t11 w w1 B ad m c fl 7 zs i HS HAL ⟨.inr (.inr rfl)⟩ HP⟩
      · have hil : i < m := by have := HP.out; omega
        obtain ⟨ad2, had, c2, -⟩ := HS.out.at_ i hil
        obtain rfl : ad = ad2 := by injection had
        obtain ⟨d1, hd1⟩ : ∃ d1, d1 = zs.getD i 0 := ⟨_, rfl⟩
        rw [← hd1] at c2
        have hnd : ¬ Digit d1 := by rw [hd1]; exact HF.out hil
        have dlt : decide (i < m) = true := by rw [decide_eq_true_iff]; omega
        have hiq : ((i : Int) == (q : Int)) = false := by rw [beq_eq_false_iff_ne]; have := HQ.out.1; omega
        by_cases hlo : d1 < 48
        · clear hnd hd1 had hm
          go_wp2_with fail
          exact ⟨num_t11 w w1 B ad m c fl 7 zs i HS HAL ⟨.inr (.inr rfl)⟩ HP⟩
        · have hhi : 57 < d1 := by
            apply Classical.byContradiction
            intro h
            exact hnd ⟨by omega, by omega⟩
          clear hnd hd1 had hm
          go_wp2_with fail
          exact ⟨num_t11 w w1 B ad m c fl 7 zs i HS HAL ⟨.inr (.inr rfl)⟩ HP⟩
    | succ k1 =>
      have hil : i < m := by have := HP.out; have := HI.out; omega
      obtain ⟨ad2, had, c2, -⟩ := HS.out.at_ i hil
      obtain rfl : ad = ad2 := by injection had
      obtain ⟨d1, hd1⟩ : ∃ d1, d1 = zs.getD i 0 := ⟨_, rfl⟩
      rw [← hd1] at c2
      have hdg : 48 ≤ d1 ∧ d1 ≤ 57 := by rw [hd1]; exact HQ.out.2 i HI.out.2 (by have := HI.out; omega)
      obtain ⟨hg2, hg3⟩ := hdg
      have hlo : ¬ d1 < 48 := by omega
      have hhi : ¬ 57 < d1 := by omega
      have dlt : decide (i < m) = true := by rw [decide_eq_true_iff]; omega
      clear hd1 had
      go_wp2_with fail
      go_roundg k1
      case measure => omega
      case rel => exact ⟨rfl, i + 1, by go_num, ⟨by have := HI.out; omega, by have := HI.out; omega⟩, rfl⟩
set_option maxHeartbeats 4000000 in
set_option maxRecDepth 100000 in
theorem num_exp (w w1 : World) (B : Nat) (ad : Addr) (m c : Nat) (fl : Int) (zs : List Int) (i2 q p3 : Nat) (hmx : m ≤ 9223372036854775807) (HM : Aside0 (m = zs.length)) (HS : Aside0 (Sl w1 B (.slice (some ad) m c) zs)) (HAL : Aside0 (Below w.heap.size w w1)) (HP : Aside0 (p3 ≤ m)) (HQ : Aside0 ((q = i2 ∨ (q = i2 + 1 ∧ (zs.getD i2 0 = 43 ∨ zs.getD i2 0 = 45))) ∧ q < p3 ∧ Run zs q p3)) (HF : Aside0 (p3 < m → ¬ Digit (zs.getD p3 0)))
    (K : Act → World → Prop) (hK : ∀ s w', Seam Tryd.prog (numCode 11) (bodyPost Tryd.prog Tryd.f84 (PnumPost w B p3 zs)) s w' → K s w') {u2 u3 u4 u5 u9 u10 u11 u12 u13 u14 u15 u16 u17 u18 u19 u20 u21 u22 u23 u24 u25 u26 u27 u28 u29 u30 u31 u32 u33 u34 u35 u36 u37 u38 u39 u40 u41 u42 u43 u44 u45 u46 u47 u48 u49 u50 u51 u52 u53 u54 u55 u56 u57 u58 u59 u60 u61 u62 u63 u64 u65 u66 u67 u68 u69 u70 u71 u72 u73 u74 u75 u76 u77 u78 u79 u80 u81 u82 u83 u84 u85 u86 u87 u88 u89 u90 u91 u92 u93 u94 u95 u96 u97 u98 u99 u100 u101 u102 u103 u104 u105 u106 u107 u108 u109 u110 u111 u112 u113 u114 u115 u116 u117 u118 u119 u120 u121 u122 u123 u124 u125 u126 u127 u128 u129 u130 u131 u132 u133 u134 u135 u136 u137 u138 u139 u140 u141 u142 u143 u144 u145 u146 u147 u148 u149 u150 u151 u152 u153 u154 u155 u156 u157 u158 u159 u160 u161 u162 u163 u164 u165 u166 u167 u168 u169 u170 u171 u172 u173 u174 u175 u176 u177 u178 u179 u180 u181 u182 u183 u184 u185 u186 u187 u188 u189 u190 u191 u192 u193 u194 u195 u196 u197 u198 u199 u200 u201 u202 u203 u204 u205 u206 u207 u208 u209 u210 u211 u212 u213 u214 u215 u216 u217 u218 u219 u220 u221 u222 u223 u224 u225 u226 u227 u228 u229 u230 u231 u232 u233 u234 u235 u236 u237 u238 u239 u240 u241 u242 u243 u244 u245 u246 u247 u248 u249 u250 u251 u252 u253 u254 u255 u256 u257 u258 : Value} :
    Code.wp Tryd.prog (pick [1, 1] expCode) (Exit.then K (bodyPost Tryd.prog Tryd.f84 (PnumPost w B p3 zs))) ⟨#[.agg #[.int .u32 fl], .slice (some ad) m c, u2, u3, u4, u5, .int .u64 7, .nilIface, .int .i64 (i2 : Int), u9, u10, u11, u12, u13, u14, u15, u16, u17, u18, u19, u20, u21, u22, u23, u24, u25, u26, u27, u28, u29, u30, u31, u32, u33, u34, u35, u36, u37, u38, u39, u40, u41, u42, u43, u44, u45, u46, u47, u48, u49, u50, u51, u52, u53, u54, u55, u56, u57, u58, u59, u60, u61, u62, u63, u64, u65, u66, u67, u68, u69, u70, u71, u72, u73, u74, u75, u76, u77, u78, u79, u80, u81, u82, u83, u84, u85, u86, u87, u88, u89, u90, u91, u92, u93, u94, u95, u96, u97, u98, u99, u100, u101, u102, u103, u104, u105, u106, u107, u108, u109, u110, u111, u112, u113, u114, u115, u116, u117, u118, u119, u120, u121, u122, u123, u124, u125, u126, u127, u128, u129, u130, u131, u132, u133, u134, u135, u136, u137, u138, u139, u140, u141, u142, u143, u144, u145, u146, u147, u148, u149, u150, u151, u152, u153, u154, u155, u156, u157, u158, u159, u160, u161, u162, u163, u164, u165, u166, u167, u168, u169, u170, u171, u172, u173, u174, u175, u176, u177, u178, u179, u180, u181, u182, u183, u184, u185, u186, u187, u188, u189, u190, u191, u192, u193, u194, u195, u196, u197, u198, u199, u200, u201, u202, u203, u204, u205, u206, u207, u208, u209, u210, u211, u212, u213, u214, u215, u216, u217, u218, u219, u220, u221, u222, u223, u224, u225, u226, u227, u228, u229, u230, u231, u232, u233, u234, u235, u236, u237, u238, u239, u240, u241, u242, u243, u244, u245, u246, u247, u248, u249, u250, u251, u252, u253, u254, u255, u256, u257, u258], []⟩ w1 := by
  conv => arg 2; whnf
  refine wp_seam (fun K1 hK1 => ?_)
  have h2m : i2 < m := by have := HP.out; have := HQ.out.2.1; rcases HQ.out.1 with h | ⟨h, -⟩ <;> omega
  obtain ⟨ad3, had3, c3, -⟩ := HS.out.at_ i2 h2m
  obtain rfl : ad = ad3 := by injection had3
  obtain ⟨d2, hd2⟩ : ∃ d2, d2 = zs.getD i2 0 := ⟨_, rfl⟩
  rw [← hd2] at c3
  have HD2 := Aside0.mk hd2
  have dlt2 : decide (i2 < m) = true := by rw [decide_eq_true_iff]; omega
  clear hd2 had3
  rcases HQ.out.1 with rfl | ⟨rfl, hs⟩
  · have hd := HQ.out.2.2 q (Nat.le_refl _) HQ.out.2.1
    rw [← HD2.out] at hd
    have hn1 : (d2 == 43) = false := by rw [beq_eq_false_iff_ne]; have := hd.1; omega
    have hn2 : (d2 == 45) = false := by rw [beq_eq_false_iff_ne]; have := hd.1; omega
    clear hd
    go_wp2_with fail
    exact ⟨num_expL w w1 B ad m c fl zs q p3 hmx HM HS HAL HP ⟨HQ.out.2⟩ HF K hK⟩
  · rw [← HD2.out] at hs
    rcases hs with rfl | rfl
    all_goals
      go_wp2_with fail
      exact ⟨num_expL w w1 B ad m c fl zs (i2 + 1) p3 hmx HM HS HAL HP ⟨HQ.out.2⟩ HF K hK⟩
set_option maxHeartbeats 4000000 in
set_option maxRecDepth 100000 in
theorem num_t10 (w w1 : World) (B : Nat) (ad : Addr) (m c : Nat) (fl kk : Int) (zs : List Int) (p0 p1 p2 p3 : Nat) (hmx : m ≤ 9223372036854775807) (HN : Aside0 (NumAt zs p0 p1 p2 p3)) (HM : Aside0 (m = zs.length)) (HS : Aside0 (Sl w1 B (.slice (some ad) m c) zs)) (HAL : Aside0 (Below w.heap.size w w1)) (HK : Aside0 (kk = 5 ∨ kk = 6 ∨ kk = 7)) (HP : Aside0 (p0 < p1 ∧ p1 ≤ p2 ∧ p2 ≤ p3 ∧ p3 ≤ m)) {u2 u3 u4 u5 u9 u10 u11 u12 u13 u14 u15 u16 u17 u18 u19 u20 u21 u22 u23 u24 u25 u26 u27 u28 u29 u30 u31 u32 u33 u34 u35 u36 u37 u38 u39 u40 u41 u42 u43 u44 u45 u46 u47 u48 u49 u50 u51 u52 u53 u54 u55 u56 u57 u58 u59 u60 u61 u62 u63 u64 u65 u66 u67 u68 u69 u70 u71 u72 u73 u74 u75 u76 u77 u78 u79 u80 u81 u82 u83 u84 u85 u86 u87 u88 u89 u90 u91 u92 u93 u94 u95 u96 u97 u98 u99 u100 u101 u102 u103 u104 u105 u106 u107 u108 u109 u110 u111 u112 u113 u114 u115 u116 u117 u118 u119 u120 u121 u122 u123 u124 u125 u126 u127 u128 u129 u130 u131 u132 u133 u134 u135 u136 u137 u138 u139 u140 u141 u142 u143 u144 u145 u146 u147 u148 u149 u150 u151 u152 u153 u154 u155 u156 u157 u158 u159 u160 u161 u162 u163 u164 u165 u166 u167 u168 u169 u170 u171 u172 u173 u174 u175 u176 u177 u178 u179 u180 u181 u182 u183 u184 u185 u186 u187 u188 u189 u190 u191 u192 u193 u194 u195 u196 u197 u198 u199 u200 u201 u202 u203 u204 u205 u206 u207 u208 u209 u210 u211 u212 u213 u214 u215 u216 u217 u218 u219 u220 u221 u222 u223 u224 u225 u226 u227 u228 u229 u230 u231 u232 u233 u234 u235 u236 u237 u238 u239 u240 u241 u242 u243 u244 u245 u246 u247 u248 u249 u250 u251 u252 u253 u254 u255 u256 u257 u258 : Value} :
    Code.wp Tryd.prog (numCode 10) (bodyPost Tryd.prog Tryd.f84 (PnumPost w B p3 zs)) ⟨#[.agg #[.int .u32 fl], .slice (some ad) m c, u2, u3, u4, u5, .int .u64 kk, .nilIface, .int .i64 (p2 : Int), u9, u10, u11, u12, u13, u14, u15, u16, u17, u18, u19, u20, u21, u22, u23, u24, u25, u26, u27, u28, u29, u30, u31, u32, u33, u34, u35, u36, u37, u38, u39, u40, u41, u42, u43, u44, u45, u46, u47, u48, u49, u50, u51, u52, u53, u54, u55, u56, u57, u58, u59, u60, u61, u62, u63, u64, u65, u66, u67, u68, u69, u70, u71, u72, u73, u74, u75, u76, u77, u78, u79, u80, u81, u82, u83, u84, u85, u86, u87, u88, u89, u90, u91, u92, u93, u94, u95, u96, u97, u98, u99, u100, u101, u102, u103, u104, u105, u106, u107, u108, u109, u110, u111, u112, u113, u114, u115, u116, u117, u118, u119, u120, u121, u122, u123, u124, u125, u126, u127, u128, u129, u130, u131, u132, u133, u134, u135, u136, u137, u138, u139, u140, u141, u142, u143, u144, u145, u146, u147, u148, u149, u150, u151, u152, u153, u154, u155, u156, u157, u158, u159, u160, u161, u162, u163, u164, u165, u166, u167, u168, u169, u170, u171, u172, u173, u174, u175, u176, u177, u178, u179, u180, u181, u182, u183, u184, u185, u186, u187, u188, u189, u190, u191, u192, u193, u194, u195, u196, u197, u198, u199, u200, u201, u202, u203, u204, u205, u206, u207, u208, u209, u210, u211, u212, u213, u214, u215, u216, u217, u218, u219, u220, u221, u222, u223, u224, u225, u226, u227, u228, u229, u230, u231, u232, u233, u234, u235, u236, u237, u238, u239, u240, u241, u242, u243, u244, u245, u246, u247, u248, u249, u250, u251, u252, u253, u254, u255, u256, u257, u258], []⟩ w1 := by
  conv => arg 2; whnf
  refine wp_seam (fun K hK => ?_)
  by_cases h23 : p3 = p2
  · -- no exponent
    subst h23
    by_cases hm : p3 = m
    · have dlt : decide (p3 < m) = false := by rw [decide_eq_false_iff_not]; omega
      clear hm
      go_wp2_with fail
      exact ⟨num_t11 w w1 B ad m c fl kk zs p3 HS HAL HK ⟨HP.out.2.2.2⟩⟩
    · have hil : p3 < m := by have := HP.out; omega
      obtain ⟨ad2, had, c2, -⟩ := HS.out.at_ p3 hil
      obtain rfl : ad = ad2 := by injection had
      obtain ⟨d1, hd1⟩ : ∃ d1, d1 = zs.getD p3 0 := ⟨_, rfl⟩
      rw [← hd1] at c2
      have hf := HN.out.fin.2 (by rw [← HM.out]; exact hil)
      rw [← hd1] at hf
      have hn2 : (d1 == 101) = false := by rw [beq_eq_false_iff_ne]; omega
      have hn3 : (d1 == 69) = false := by rw [beq_eq_false_iff_ne]; omega
      have dlt : decide (p3 < m) = true := by rw [decide_eq_true_iff]; omega
      clear hf hd1 had hm
      go_wp2_with fail
      exact ⟨num_t11 w w1 B ad m c fl kk zs p3 HS HAL HK ⟨HP.out.2.2.2⟩⟩
  · -- an exponent
    obtain ⟨h2l, he, q, hq, hq3, hrun⟩ := (HN.out.exp.resolve_left h23)
    rw [← HM.out] at h2l
    have HQ := Aside0.mk (show (q = p2 + 1 ∨ (q = p2 + 1 + 1 ∧ (zs.getD (p2 + 1) 0 = 43 ∨ zs.getD (p2 + 1) 0 = 45))) ∧ q < p3 ∧ Run zs q p3 from ⟨hq, hq3, hrun⟩)
    have HF := Aside0.mk (show p3 < m → ¬ Digit (zs.getD p3 0) from fun h => (HN.out.fin.2 (by rw [← HM.out]; exact h)).1)
    obtain ⟨ad2, had, c2, -⟩ := HS.out.at_ p2 h2l
    obtain rfl : ad = ad2 := by injection had
    obtain ⟨d1, hd1⟩ : ∃ d1, d1 = zs.getD p2 0 := ⟨_, rfl⟩
    rw [← hd1] at c2 he
    have dlt : decide (p2 < m) = true := by rw [decide_eq_true_iff]; omega
    clear hd1 had hq hq3 hrun h23
    rcases he with rfl | rfl
    all_goals
      go_upto_if 200 with (fail)
      refine wp_cond (t := true) (by simp [go_sem]; done) ?_
      refine wp_seam (fun K2 hK2 => ?_)
      go_wp2_with fail
      refine ⟨wp_seam (fun K3 hK3 => ?_)⟩
      go_wp2_with fail
      exact ⟨num_exp w w1 B ad m c fl zs (p2 + 1) q p3 hmx HM HS HAL ⟨HP.out.2.2.2⟩ HQ HF K hK⟩
noncomputable def fracCode : Code := pick [0, 1, 0] (numCode 9)
set_option maxHeartbeats 4000000 in
set_option maxRecDepth 100000 in
theorem num_frac (w w1 : World) (B : Nat) (ad : Addr) (m c : Nat) (fl : Int) (zs : List Int) (q p0 p1 p2 p3 : Nat) (hmx : m ≤ 9223372036854775807) (HM : Aside0 (m = zs.length)) (HS : Aside0 (Sl w1 B (.slice (some ad) m c) zs)) (HAL : Aside0 (Below w.heap.size w w1)) (HN : Aside0 (NumAt zs p0 p1 p2 p3)) (HP : Aside0 (p0 < p1 ∧ p1 ≤ p2 ∧ p2 ≤ p3 ∧ p3 ≤ m)) (HQ : Aside0 (q < p2 ∧ Run zs q p2))
    (K : Act → World → Prop) (hK : ∀ s w', Seam Tryd.prog (numCode 10) (bodyPost Tryd.prog Tryd.f84 (PnumPost w B p3 zs)) s w' → K s w') {u2 u3 u4 u5 u9 u10 u11 u12 u13 u14 u15 u16 u17 u18 u19 u20 u21 u22 u23 u24 u25 u26 u27 u28 u29 u30 u31 u32 u33 u34 u35 u36 u37 u38 u39 u40 u41 u42 u43 u44 u45 u46 u47 u48 u49 u50 u51 u52 u53 u54 u55 u56 u57 u58 u59 u60 u61 u62 u63 u64 u65 u66 u67 u68 u69 u70 u71 u72 u73 u74 u75 u76 u77 u78 u79 u80 u81 u82 u83 u84 u85 u86 u87 u88 u89 u90 u91 u92 u93 u94 u95 u96 u97 u98 u99 u100 u101 u102 u103 u104 u105 u106 u107 u108 u109 u110 u111 u112 u113 u114 u115 u116 u117 u118 u119 u120 u121 u122 u123 u124 u125 u126 u127 u128 u129 u130 u131 u132 u133 u134 u135 u136 u137 u138 u139 u140 u141 u142 u143 u144 u145 u146 u147 u148 u149 u150 u151 u152 u153 u154 u155 u156 u157 u158 u159 u160 u161 u162 u163 u164 u165 u166 u167 u168 u169 u170 u171 u172 u173 u174 u175 u176 u177 u178 u179 u180 u181 u182 u183 u184 u185 u186 u187 u188 u189 u190 u191 u192 u193 u194 u195 u196 u197 u198 u199 u200 u201 u202 u203 u204 u205 u206 u207 u208 u209 u210 u211 u212 u213 u214 u215 u216 u217 u218 u219 u220 u221 u222 u223 u224 u225 u226 u227 u228 u229 u230 u231 u232 u233 u234 u235 u236 u237 u238 u239 u240 u241 u242 u243 u244 u245 u246 u247 u248 u249 u250 u251 u252 u253 u254 u255 u256 u257 u258 : Value} :
    Code.wp Tryd.prog (pick [1, 1] fracCode) (Exit.then K (bodyPost Tryd.prog Tryd.f84 (PnumPost w B p3 zs))) ⟨#[.agg #[.int .u32 fl], .slice (some ad) m c, u2, u3, u4, u5, .int .u64 7, .nilIface, .int .i64 (q : Int), u9, u10, u11, u12, u13, u14, u15, u16, u17, u18, u19, u20, u21, u22, u23, u24, u25, u26, u27, u28, u29, u30, u31, u32, u33, u34, u35, u36, u37, u38, u39, u40, u41, u42, u43, u44, u45, u46, u47, u48, u49, u50, u51, u52, u53, u54, u55, u56, u57, u58, u59, u60, u61, u62, u63, u64, u65, u66, u67, u68, u69, u70, u71, u72, u73, u74, u75, u76, u77, u78, u79, u80, u81, u82, u83, u84, u85, u86, u87, u88, u89, u90, u91, u92, u93, u94, u95, u96, u97, u98, u99, u100, u101, u102, u103, u104, u105, u106, u107, u108, u109, u110, u111, u112, u113, u114, u115, u116, u117, u118, u119, u120, u121, u122, u123, u124, u125, u126, u127, u128, u129, u130, u131, u132, u133, u134, u135, u136, u137, u138, u139, u140, u141, u142, u143, u144, u145, u146, u147, u148, u149, u150, u151, u152, u153, u154, u155, u156, u157, u158, u159, u160, u161, u162, u163, u164, u165, u166, u167, u168, u169, u170, u171, u172, u173, u174, u175, u176, u177, u178, u179, u180, u181, u182, u183, u184, u185, u186, u187, u188, u189, u190, u191, u192, u193, u194, u195, u196, u197, u198, u199, u200, u201, u202, u203, u204, u205, u206, u207, u208, u209, u210, u211, u212, u213, u214, u215, u216, u217, u218, u219, u220, u221, u222, u223, u224, u225, u226, u227, u228, u229, u230, u231, u232, u233, u234, u235, u236, u237, u238, u239, u240, u241, u242, u243, u244, u245, u246, u247, u248, u249, u250, u251, u252, u253, u254, u255, u256, u257, u258], []⟩ w1 := by
  conv => arg 2; whnf
  have HF := Aside0.mk (show p2 < m → ¬ Digit (zs.getD p2 0) from fun h => HN.out.stop2.resolve_left (by rw [← HM.out]; omega))
  go_upto_region 24 with (fail)
  go_loopg [7, 8] (p2 - q) (fun n v7 v8 w' => v7 = .nilIface ∧ ∃ i : Nat, v8 = .int .i64 (i : Int) ∧ Aside0 (i + n = p2 ∧ q ≤ i) ∧ w1 = w')
  case atStart => exact ⟨rfl, q, rfl, ⟨by have := HQ.out.1; omega, Nat.le_refl _⟩, rfl⟩
  case round =>
    obtain ⟨rfl, i, rfl, HI, rfl⟩ := hrel
    cases gk with
    | zero =>
      obtain rfl : i = p2 := by have := HI.out; omega
      have hiq : ((i : Int) == (q : Int)) = false := by rw [beq_eq_false_iff_ne]; have := HQ.out.1; omega
      by_cases hm : i = m
      · have dlt : decide (i < m) = false := by rw [decide_eq_false_iff_not]; omega
        clear hm
        go_wp2_with fail
        exact ⟨num_t10 w w1 B ad m c fl 7 zs p0 p1 i p3 hmx HN HM HS HAL ⟨.inr (.inr rfl)⟩ HP⟩
      · have hil : i < m := by have := HP.out; omega
        obtain ⟨ad2, had, c2, -⟩ := HS.out.at_ i hil
        obtain rfl : ad = ad2 := by injection had
        obtain ⟨d1, hd1⟩ : ∃ d1, d1 = zs.getD i 0 := ⟨_, rfl⟩
        rw [← hd1] at c2
        have hnd : ¬ Digit d1 := by rw [hd1]; exact HF.out hil
        have dlt : decide (i < m) = true := by rw [decide_eq_true_iff]; omega
        by_cases hlo : d1 < 48
        · clear hnd hd1 had hm
          go_wp2_with fail
          exact ⟨num_t10 w w1 B ad m c fl 7 zs p0 p1 i p3 hmx HN HM HS HAL ⟨.inr (.inr rfl)⟩ HP⟩
        · have hhi : 57 < d1 := by
            apply Classical.byContradiction
            intro h
            exact hnd ⟨by omega, by omega⟩
          clear hnd hd1 had hm
          go_wp2_with fail
          exact ⟨num_t10 w w1 B ad m c fl 7 zs p0 p1 i p3 hmx HN HM HS HAL ⟨.inr (.inr rfl)⟩ HP⟩
    | succ k1 =>
      have hil : i < m := by have := HP.out; have := HI.out; omega
      obtain ⟨ad2, had, c2, -⟩ := HS.out.at_ i hil
      obtain rfl : ad = ad2 := by injection had
      obtain ⟨d1, hd1⟩ : ∃ d1, d1 = zs.getD i 0 := ⟨_, rfl⟩
      rw [← hd1] at c2
      have hdg : 48 ≤ d1 ∧ d1 ≤ 57 := by rw [hd1]; exact HQ.out.2 i HI.out.2 (by have := HI.out; omega)
      obtain ⟨hg2, hg3⟩ := hdg
      have hlo : ¬ d1 < 48 := by omega
      have hhi : ¬ 57 < d1 := by omega
      have dlt : decide (i < m) = true := by rw [decide_eq_true_iff]; omega
      clear hd1 had
      go_wp2_with fail
      go_roundg k1
      case measure => omega
      case rel => exact ⟨rfl, i + 1, by go_num, ⟨by have := HI.out; omega, by have := HI.out; omega⟩, rfl⟩
set_option maxHeartbeats 4000000 in
set_option maxRecDepth 100000 in
theorem num_t9 (w w1 : World) (B : Nat) (ad : Addr) (m c : Nat) (fl : Int) (zs : List Int) (kk : Int) (p0 p1 p2 p3 : Nat) (hmx : m ≤ 9223372036854775807) (HM : Aside0 (m = zs.length)) (HS : Aside0 (Sl w1 B (.slice (some ad) m c) zs)) (HAL : Aside0 (Below w.heap.size w w1)) (HN : Aside0 (NumAt zs p0 p1 p2 p3)) (HK : Aside0 (kk = 5 ∨ kk = 6 ∨ kk = 7)) (HP : Aside0 (p0 < p1 ∧ p1 ≤ p2 ∧ p2 ≤ p3 ∧ p3 ≤ m)) {u2 u3 u4 u5 u9 u10 u11 u12 u13 u14 u15 u16 u17 u18 u19 u20 u21 u22 u23 u24 u25 u26 u27 u28 u29 u30 u31 u32 u33 u34 u35 u36 u37 u38 u39 u40 u41 u42 u43 u44 u45 u46 u47 u48 u49 u50 u51 u52 u53 u54 u55 u56 u57 u58 u59 u60 u61 u62 u63 u64 u65 u66 u67 u68 u69 u70 u71 u72 u73 u74 u75 u76 u77 u78 u79 u80 u81 u82 u83 u84 u85 u86 u87 u88 u89 u90 u91 u92 u93 u94 u95 u96 u97 u98 u99 u100 u101 u102 u103 u104 u105 u106 u107 u108 u109 u110 u111 u112 u113 u114 u115 u116 u117 u118 u119 u120 u121 u122 u123 u124 u125 u126 u127 u128 u129 u130 u131 u132 u133 u134 u135 u136 u137 u138 u139 u140 u141 u142 u143 u144 u145 u146 u147 u148 u149 u150 u151 u152 u153 u154 u155 u156 u157 u158 u159 u160 u161 u162 u163 u164 u165 u166 u167 u168 u169 u170 u171 u172 u173 u174 u175 u176 u177 u178 u179 u180 u181 u182 u183 u184 u185 u186 u187 u188 u189 u190 u191 u192 u193 u194 u195 u196 u197 u198 u199 u200 u201 u202 u203 u204 u205 u206 u207 u208 u209 u210 u211 u212 u213 u214 u215 u216 u217 u218 u219 u220 u221 u222 u223 u224 u225 u226 u227 u228 u229 u230 u231 u232 u233 u234 u235 u236 u237 u238 u239 u240 u241 u242 u243 u244 u245 u246 u247 u248 u249 u250 u251 u252 u253 u254 u255 u256 u257 u258 : Value} :
    Code.wp Tryd.prog (numCode 9) (bodyPost Tryd.prog Tryd.f84 (PnumPost w B p3 zs)) ⟨#[.agg #[.int .u32 fl], .slice (some ad) m c, u2, u3, u4, u5, .int .u64 kk, .nilIface, .int .i64 (p1 : Int), u9, u10, u11, u12, u13, u14, u15, u16, u17, u18, u19, u20, u21, u22, u23, u24, u25, u26, u27, u28, u29, u30, u31, u32, u33, u34, u35, u36, u37, u38, u39, u40, u41, u42, u43, u44, u45, u46, u47, u48, u49, u50, u51, u52, u53, u54, u55, u56, u57, u58, u59, u60, u61, u62, u63, u64, u65, u66, u67, u68, u69, u70, u71, u72, u73, u74, u75, u76, u77, u78, u79, u80, u81, u82, u83, u84, u85, u86, u87, u88, u89, u90, u91, u92, u93, u94, u95, u96, u97, u98, u99, u100, u101, u102, u103, u104, u105, u106, u107, u108, u109, u110, u111, u112, u113, u114, u115, u116, u117, u118, u119, u120, u121, u122, u123, u124, u125, u126, u127, u128, u129, u130, u131, u132, u133, u134, u135, u136, u137, u138, u139, u140, u141, u142, u143, u144, u145, u146, u147, u148, u149, u150, u151, u152, u153, u154, u155, u156, u157, u158, u159, u160, u161, u162, u163, u164, u165, u166, u167, u168, u169, u170, u171, u172, u173, u174, u175, u176, u177, u178, u179, u180, u181, u182, u183, u184, u185, u186, u187, u188, u189, u190, u191, u192, u193, u194, u195, u196, u197, u198, u199, u200, u201, u202, u203, u204, u205, u206, u207, u208, u209, u210, u211, u212, u213, u214, u215, u216, u217, u218, u219, u220, u221, u222, u223, u224, u225, u226, u227, u228, u229, u230, u231, u232, u233, u234, u235, u236, u237, u238, u239, u240, u241, u242, u243, u244, u245, u246, u247, u248, u249, u250, u251, u252, u253, u254, u255, u256, u257, u258], []⟩ w1 := by
  conv => arg 2; whnf
  refine wp_seam (fun K hK => ?_)
  by_cases h12 : p2 = p1
  · -- no point
    subst h12
    by_cases hm : p2 = m
    · have dlt : decide (p2 < m) = false := by rw [decide_eq_false_iff_not]; omega
      clear hm
      go_wp2_with fail
      exact ⟨num_t10 w w1 B ad m c fl kk zs p0 p2 p2 p3 hmx HN HM HS HAL HK HP⟩
    · have hil : p2 < m := by have := HP.out; omega
      obtain ⟨ad2, had, c2, -⟩ := HS.out.at_ p2 hil
      obtain rfl : ad = ad2 := by injection had
      obtain ⟨d1, hd1⟩ : ∃ d1, d1 = zs.getD p2 0 := ⟨_, rfl⟩
      rw [← hd1] at c2
      have h46 : d1 ≠ 46 := by
        rcases HN.out.exp with e | ⟨-, e, -⟩
        · have := (HN.out.fin.2 (by rw [← HM.out]; omega)).2.1
          rw [e, ← hd1] at this
          exact this
        · rw [← hd1] at e; omega
      have hn2 : (d1 == 46) = false := by rw [beq_eq_false_iff_ne]; exact h46
      have dlt : decide (p2 < m) = true := by rw [decide_eq_true_iff]; omega
      clear h46 hd1 had hm
      go_wp2_with fail
      exact ⟨num_t10 w w1 B ad m c fl kk zs p0 p2 p2 p3 hmx HN HM HS HAL HK HP⟩
  · -- a point
    obtain ⟨h1l, he, hlt, hrun⟩ := (HN.out.frac.resolve_left h12)
    rw [← HM.out] at h1l
    have HQ := Aside0.mk (And.intro hlt hrun)
    obtain ⟨ad2, had, c2, -⟩ := HS.out.at_ p1 h1l
    obtain rfl : ad = ad2 := by injection had
    rw [he] at c2
    have dlt : decide (p1 < m) = true := by rw [decide_eq_true_iff]; omega
    clear had hlt hrun h12 he
    go_upto_if 144 with (fail)
    refine wp_cond (t := true) (by simp [go_sem]; done) ?_
    refine wp_seam (fun K2 hK2 => ?_)
    go_wp2_with fail
    refine ⟨wp_seam (fun K3 hK3 => ?_)⟩
    go_wp2_with fail
    exact ⟨num_frac w w1 B ad m c fl zs (p1 + 1) p0 p1 p2 p3 hmx HM HS HAL HN HP HQ K hK⟩
set_option maxHeartbeats 4000000 in
set_option maxRecDepth 100000 in
theorem num_t8 (w w1 : World) (B : Nat) (ad : Addr) (m c : Nat) (fl : Int) (zs : List Int) (kk : Int) (i0 p0 p1 p2 p3 : Nat) (hmx : m ≤ 9223372036854775807) (HM : Aside0 (m = zs.length)) (HS : Aside0 (Sl w1 B (.slice (some ad) m c) zs)) (HAL : Aside0 (Below w.heap.size w w1)) (HN : Aside0 (NumAt zs p0 p1 p2 p3)) (HK : Aside0 (kk = 5 ∨ kk = 6 ∨ kk = 7)) (HP : Aside0 (p0 < p1 ∧ p1 ≤ p2 ∧ p2 ≤ p3 ∧ p3 ≤ m)) (HI0 : Aside0 (p0 ≤ i0 ∧ i0 ≤ p1)) {u2 u3 u4 u5 u9 u10 u11 u12 u13 u14 u15 u16 u17 u18 u19 u20 u21 u22 u23 u24 u25 u26 u27 u28 u29 u30 u31 u32 u33 u34 u35 u36 u37 u38 u39 u40 u41 u42 u43 u44 u45 u46 u47 u48 u49 u50 u51 u52 u53 u54 u55 u56 u57 u58 u59 u60 u61 u62 u63 u64 u65 u66 u67 u68 u69 u70 u71 u72 u73 u74 u75 u76 u77 u78 u79 u80 u81 u82 u83 u84 u85 u86 u87 u88 u89 u90 u91 u92 u93 u94 u95 u96 u97 u98 u99 u100 u101 u102 u103 u104 u105 u106 u107 u108 u109 u110 u111 u112 u113 u114 u115 u116 u117 u118 u119 u120 u121 u122 u123 u124 u125 u126 u127 u128 u129 u130 u131 u132 u133 u134 u135 u136 u137 u138 u139 u140 u141 u142 u143 u144 u145 u146 u147 u148 u149 u150 u151 u152 u153 u154 u155 u156 u157 u158 u159 u160 u161 u162 u163 u164 u165 u166 u167 u168 u169 u170 u171 u172 u173 u174 u175 u176 u177 u178 u179 u180 u181 u182 u183 u184 u185 u186 u187 u188 u189 u190 u191 u192 u193 u194 u195 u196 u197 u198 u199 u200 u201 u202 u203 u204 u205 u206 u207 u208 u209 u210 u211 u212 u213 u214 u215 u216 u217 u218 u219 u220 u221 u222 u223 u224 u225 u226 u227 u228 u229 u230 u231 u232 u233 u234 u235 u236 u237 u238 u239 u240 u241 u242 u243 u244 u245 u246 u247 u248 u249 u250 u251 u252 u253 u254 u255 u256 u257 u258 : Value} :
    Code.wp Tryd.prog (numCode 8) (bodyPost Tryd.prog Tryd.f84 (PnumPost w B p3 zs)) ⟨#[.agg #[.int .u32 fl], .slice (some ad) m c, u2, u3, u4, u5, .int .u64 kk, .nilIface, .int .i64 (i0 : Int), u9, u10, u11, u12, u13, u14, u15, u16, u17, u18, u19, u20, u21, u22, u23, u24, u25, u26, u27, u28, u29, u30, u31, u32, u33, u34, u35, u36, u37, u38, u39, u40, u41, u42, u43, u44, u45, u46, u47, u48, u49, u50, u51, u52, u53, u54, u55, u56, u57, u58, u59, u60, u61, u62, u63, u64, u65, u66, u67, u68, u69, u70, u71, u72, u73, u74, u75, u76, u77, u78, u79, u80, u81, u82, u83, u84, u85, u86, u87, u88, u89, u90, u91, u92, u93, u94, u95, u96, u97, u98, u99, u100, u101, u102, u103, u104, u105, u106, u107, u108, u109, u110, u111, u112, u113, u114, u115, u116, u117, u118, u119, u120, u121, u122, u123, u124, u125, u126, u127, u128, u129, u130, u131, u132, u133, u134, u135, u136, u137, u138, u139, u140, u141, u142, u143, u144, u145, u146, u147, u148, u149, u150, u151, u152, u153, u154, u155, u156, u157, u158, u159, u160, u161, u162, u163, u164, u165, u166, u167, u168, u169, u170, u171, u172, u173, u174, u175, u176, u177, u178, u179, u180, u181, u182, u183, u184, u185, u186, u187, u188, u189, u190, u191, u192, u193, u194, u195, u196, u197, u198, u199, u200, u201, u202, u203, u204, u205, u206, u207, u208, u209, u210, u211, u212, u213, u214, u215, u216, u217, u218, u219, u220, u221, u222, u223, u224, u225, u226, u227, u228, u229, u230, u231, u232, u233, u234, u235, u236, u237, u238, u239, u240, u241, u242, u243, u244, u245, u246, u247, u248, u249, u250, u251, u252, u253, u254, u255, u256, u257, u258], []⟩ w1 := by
  conv => arg 2; whnf
  refine wp_seam (fun K hK => ?_)
  have HF := Aside0.mk (show p1 < m → ¬ Digit (zs.getD p1 0) from fun h => HN.out.stop1.resolve_left (by rw [← HM.out]; omega))
  go_upto_region 18 with (fail)
  go_loopg [8] (p1 - i0) (fun n v8 w' => ∃ i : Nat, v8 = .int .i64 (i : Int) ∧ Aside0 (i + n = p1 ∧ p0 ≤ i) ∧ w1 = w')
  case atStart => exact ⟨i0, rfl, ⟨by have := HI0.out; omega, HI0.out.1⟩, rfl⟩
  case round =>
    obtain ⟨i, rfl, HI, rfl⟩ := hrel
    cases gk with
    | zero =>
      obtain rfl : i = p1 := by have := HI.out; omega
      by_cases hm : i = m
      · have dlt : decide (i < m) = false := by rw [decide_eq_false_iff_not]; omega
        clear hm
        go_wp2_with fail
        exact ⟨num_t9 w w1 B ad m c fl zs kk p0 i p2 p3 hmx HM HS HAL HN HK HP⟩
      · have hil : i < m := by have := HP.out; omega
        obtain ⟨ad2, had, c2, -⟩ := HS.out.at_ i hil
        obtain rfl : ad = ad2 := by injection had
        obtain ⟨d1, hd1⟩ : ∃ d1, d1 = zs.getD i 0 := ⟨_, rfl⟩
        rw [← hd1] at c2
        have hnd : ¬ Digit d1 := by rw [hd1]; exact HF.out hil
        have dlt : decide (i < m) = true := by rw [decide_eq_true_iff]; omega
        by_cases hlo : 48 ≤ d1
        · have hhi : ¬ d1 ≤ 57 := fun h => hnd ⟨hlo, h⟩
          clear hnd hd1 had hm
          go_wp2_with fail
          exact ⟨num_t9 w w1 B ad m c fl zs kk p0 i p2 p3 hmx HM HS HAL HN HK HP⟩
        · clear hnd hd1 had hm
          go_wp2_with fail
          exact ⟨num_t9 w w1 B ad m c fl zs kk p0 i p2 p3 hmx HM HS HAL HN HK HP⟩
    | succ k1 =>
      have hil : i < m := by have := HP.out; have := HI.out; omega
      obtain ⟨ad2, had, c2, -⟩ := HS.out.at_ i hil
      obtain rfl : ad = ad2 := by injection had
      obtain ⟨d1, hd1⟩ : ∃ d1, d1 = zs.getD i 0 := ⟨_, rfl⟩
      rw [← hd1] at c2
      have hdg : 48 ≤ d1 ∧ d1 ≤ 57 := by rw [hd1]; exact HN.out.int.2.1 i HI.out.2 (by have := HI.out; omega)
      obtain ⟨hg2, hg3⟩ := hdg
      have dlt : decide (i < m) = true := by rw [decide_eq_true_iff]; omega
      clear hd1 had
      go_wp2_with fail
      go_roundg k1
      case measure => omega
      case rel => exact ⟨i + 1, by go_num, ⟨by have := HI.out; omega, by have := HI.out; omega⟩, rfl⟩
set_option maxHeartbeats 4000000 in
set_option maxRecDepth 100000 in
theorem num_t5 (w w1 : World) (B : Nat) (ad : Addr) (m c : Nat) (fl : Int) (zs : List Int) (kk : Int) (p0 p1 p2 p3 : Nat) (hmx : m ≤ 9223372036854775807) (HM : Aside0 (m = zs.length)) (HS : Aside0 (Sl w1 B (.slice (some ad) m c) zs)) (HAL : Aside0 (Below w.heap.size w w1)) (HN : Aside0 (NumAt zs p0 p1 p2 p3)) (HK : Aside0 (kk = 5 ∨ kk = 6 ∨ kk = 7)) (HP : Aside0 (p0 < p1 ∧ p1 ≤ p2 ∧ p2 ≤ p3 ∧ p3 ≤ m)) {u2 u3 u4 u5 u9 u10 u11 u12 u13 u14 u15 u16 u17 u18 u19 u20 u21 u22 u23 u24 u25 u26 u27 u28 u29 u30 u31 u32 u33 u34 u35 u36 u37 u38 u39 u40 u41 u42 u43 u44 u45 u46 u47 u48 u49 u50 u51 u52 u53 u54 u55 u56 u57 u58 u59 u60 u61 u62 u63 u64 u65 u66 u67 u68 u69 u70 u71 u72 u73 u74 u75 u76 u77 u78 u79 u80 u81 u82 u83 u84 u85 u86 u87 u88 u89 u90 u91 u92 u93 u94 u95 u96 u97 u98 u99 u100 u101 u102 u103 u104 u105 u106 u107 u108 u109 u110 u111 u112 u113 u114 u115 u116 u117 u118 u119 u120 u121 u122 u123 u124 u125 u126 u127 u128 u129 u130 u131 u132 u133 u134 u135 u136 u137 u138 u139 u140 u141 u142 u143 u144 u145 u146 u147 u148 u149 u150 u151 u152 u153 u154 u155 u156 u157 u158 u159 u160 u161 u162 u163 u164 u165 u166 u167 u168 u169 u170 u171 u172 u173 u174 u175 u176 u177 u178 u179 u180 u181 u182 u183 u184 u185 u186 u187 u188 u189 u190 u191 u192 u193 u194 u195 u196 u197 u198 u199 u200 u201 u202 u203 u204 u205 u206 u207 u208 u209 u210 u211 u212 u213 u214 u215 u216 u217 u218 u219 u220 u221 u222 u223 u224 u225 u226 u227 u228 u229 u230 u231 u232 u233 u234 u235 u236 u237 u238 u239 u240 u241 u242 u243 u244 u245 u246 u247 u248 u249 u250 u251 u252 u253 u254 u255 u256 u257 u258 : Value} :
    Code.wp Tryd.prog (numCode 5) (bodyPost Tryd.prog Tryd.f84 (PnumPost w B p3 zs)) ⟨#[.agg #[.int .u32 fl], .slice (some ad) m c, u2, u3, u4, u5, .int .u64 kk, .nilIface, .int .i64 (p0 : Int), u9, u10, u11, u12, u13, u14, u15, u16, u17, u18, u19, u20, u21, u22, u23, u24, u25, u26, u27, u28, u29, u30, u31, u32, u33, u34, u35, u36, u37, u38, u39, u40, u41, u42, u43, u44, u45, u46, u47, u48, u49, u50, u51, u52, u53, u54, u55, u56, u57, u58, u59, u60, u61, u62, u63, u64, u65, u66, u67, u68, u69, u70, u71, u72, u73, u74, u75, u76, u77, u78, u79, u80, u81, u82, u83, u84, u85, u86, u87, u88, u89, u90, u91, u92, u93, u94, u95, u96, u97, u98, u99, u100, u101, u102, u103, u104, u105, u106, u107, u108, u109, u110, u111, u112, u113, u114, u115, u116, u117, u118, u119, u120, u121, u122, u123, u124, u125, u126, u127, u128, u129, u130, u131, u132, u133, u134, u135, u136, u137, u138, u139, u140, u141, u142, u143, u144, u145, u146, u147, u148, u149, u150, u151, u152, u153, u154, u155, u156, u157, u158, u159, u160, u161, u162, u163, u164, u165, u166, u167, u168, u169, u170, u171, u172, u173, u174, u175, u176, u177, u178, u179, u180, u181, u182, u183, u184, u185, u186, u187, u188, u189, u190, u191, u192, u193, u194, u195, u196, u197, u198, u199, u200, u201, u202, u203, u204, u205, u206, u207, u208, u209, u210, u211, u212, u213, u214, u215, u216, u217, u218, u219, u220, u221, u222, u223, u224, u225, u226, u227, u228, u229, u230, u231, u232, u233, u234, u235, u236, u237, u238, u239, u240, u241, u242, u243, u244, u245, u246, u247, u248, u249, u250, u251, u252, u253, u254, u255, u256, u257, u258], []⟩ w1 := by
  conv => arg 2; whnf
  have HPP := HP.out
  have hpm : p0 < m := by omega
  obtain ⟨ad', had, c1, -⟩ := HS.out.at_ p0 hpm
  obtain rfl : ad = ad' := by injection had
  obtain ⟨d0, hd0⟩ : ∃ d0, d0 = zs.getD p0 0 := ⟨_, rfl⟩
  rw [← hd0] at c1
  have hdg : 48 ≤ d0 ∧ d0 ≤ 57 := by rw [hd0]; exact HN.out.int.2.1 p0 (Nat.le_refl _) HN.out.int.1
  obtain ⟨hg0, hg1⟩ := hdg
  have HD0 := Aside0.mk hd0
  have hz1 : ((p0 : Int) == (m : Int)) = false := by rw [beq_eq_false_iff_ne]; omega
  clear hd0 HPP had
  refine wp_seam (fun K hK => ?_)
  go_wp2_with fail
  refine ⟨wp_seam (fun K2 hK2 => ?_)⟩
  clear hz1
  have hlo : ¬ d0 < 48 := by omega
  have hhi : ¬ 57 < d0 := by omega
  go_wp2_with fail
  refine ⟨wp_seam (fun K3 hK3 => ?_)⟩
  clear hlo hhi
  by_cases hz0 : d0 = 48
  · subst hz0
    have hp1 : (p0 : Int) + 1 = (p1 : Int) := by have := HN.out.int.2.2 HD0.out.symm; omega
    have HP1 := Aside0.mk hp1
    clear hp1
    go_upto_region 14 with (fail)
    rw [HP1.out]
    clear c1 hg0 hg1
    obtain ⟨A', hcutA, hcutB, hdA, hdB⟩ := HS.out.both 22 p1 (p1 : Int) .i64 Tryd.underlying22 rfl (by have := HP.out; omega)
    have HDD := Aside0.mk (And.intro hdA hdB)
    have HCUT := Aside0.mk (And.intro hcutA hcutB)
    clear hdA hdB hcutA hcutB
    by_cases hm : p1 = m
    · have hmb : ((p1 : Int) == (m : Int)) = true := by rw [beq_iff_eq]; omega
      have h3 : p3 = p1 := by have := HP.out; omega
      have HM3 := Aside0.mk h3
      have HMM := Aside0.mk hm
      clear hm h3
      go_upto_region 15 with (fail)
      have hcutA := HCUT.out.1
      have hcutB := HCUT.out.2
      go_region_with (fail)
      all_goals
        go_wp2_with fail
        go_returns
        unfold PnumPost
        rw [HM3.out]
        exact ⟨_, _, _, rfl, HK.out, HDD.out.1.below (below_drew (Below.refl B w1)), HDD.out.2.below (below_drew (Below.refl B w1)), below_drew HAL.out⟩
    · have hml : p1 < m := by have := HP.out; omega
      have hmb : ((p1 : Int) == (m : Int)) = false := by rw [beq_eq_false_iff_ne]; omega
      obtain ⟨ad2, had, c2, -⟩ := HS.out.at_ p1 hml
      obtain rfl : ad = ad2 := by injection had
      obtain ⟨d1, hd1⟩ : ∃ d1, d1 = zs.getD p1 0 := ⟨_, rfl⟩
      rw [← hd1] at c2
      have HD1 := Aside0.mk hd1
      clear hd1 had hm
      by_cases hs : d1 = 46 ∨ d1 = 101 ∨ d1 = 69
      · rcases hs with rfl | rfl | rfl
        all_goals
          go_wp2_with fail
          exact ⟨num_t8 w w1 B ad m c fl zs kk p1 p0 p1 p2 p3 hmx HM HS HAL HN HK HP ⟨by have := HP.out; omega, Nat.le_refl _⟩⟩
      · have hn1 : (d1 == 46) = false := by rw [beq_eq_false_iff_ne]; omega
        have hn2 : (d1 == 101) = false := by rw [beq_eq_false_iff_ne]; omega
        have hn3 : (d1 == 69) = false := by rw [beq_eq_false_iff_ne]; omega
        have hn4 : (d1 != 46) = true := by rw [bne_iff_ne]; omega
        have hn5 : (d1 != 101) = true := by rw [bne_iff_ne]; omega
        have hn6 : (d1 != 69) = true := by rw [bne_iff_ne]; omega
        have h3 : p3 = p1 := by
          rcases HN.out.frac with e | ⟨-, e, -⟩
          · rcases HN.out.exp with e2 | ⟨-, e2, -⟩
            · omega
            · rw [e, ← HD1.out] at e2; omega
          · rw [← HD1.out] at e; omega
        have HM3 := Aside0.mk h3
        clear hs h3
        go_upto_region 15 with (fail)
        have hcutA := HCUT.out.1
        have hcutB := HCUT.out.2
        go_region_with (fail)
        all_goals
          go_wp2_with fail
          go_returns
          unfold PnumPost
          rw [HM3.out]
          exact ⟨_, _, _, rfl, HK.out, HDD.out.1.below (below_drew (Below.refl B w1)), HDD.out.2.below (below_drew (Below.refl B w1)), below_drew HAL.out⟩
  · have hzz : (d0 == 48) = false := by rw [beq_eq_false_iff_ne]; exact hz0
    clear hz0
    go_wp2_with fail
    exact ⟨num_t8 w w1 B ad m c fl zs kk p0 p0 p1 p2 p3 hmx HM HS HAL HN HK HP ⟨Nat.le_refl _, by have := HP.out; omega⟩⟩
set_option maxHeartbeats 4000000 in
set_option maxRecDepth 100000 in
theorem pnum_calls (w : World) (B : Nat) (A : Option Addr) (n c : Nat) (fl : Int) (zs : List Int) (p0 p1 p2 p3 : Nat) (hN : NumAt zs p0 p1 p2 p3) (h : Sl w B (.slice A n c) zs) (hB : B ≤ w.heap.size) :
    Calls Tryd.prog 84 #[.agg #[.int .u32 fl], .slice A n c] w (PnumPost w B p3 zs) := by
  obtain ⟨rfl, hnc⟩ := h.len
  have hmx : zs.length ≤ 9223372036854775807 := h.cut.2.2.1.2.1
  have hal := below_alloc (Below.refl w.heap.size w) (.cells #[.int .u32 fl] 116)
  have h1 := h.below (hal.mono hB)
  have hz1 : p0 < p1 ∧ p1 ≤ p2 ∧ p2 ≤ p3 ∧ p3 ≤ zs.length := by
    refine ⟨hN.int.1, ?_, ?_, hN.fin.1⟩
    · rcases hN.frac with h2 | h2 <;> omega
    · rcases hN.exp with h3 | ⟨-, -, q, h3, h4, -⟩
      · omega
      · rcases h3 with h3 | ⟨h3, -⟩ <;> omega
  obtain ⟨ad, rfl, c0, -⟩ := h1.at_ 0 (by omega)
  have hz : decide (zs.length = 0) = false := decide_eq_false (by omega)
  have hz' : ((zs.length : Int) == 0) = false := by rw [beq_eq_false_iff_ne]; omega
  have HS := Aside0.mk h1
  have HAL := Aside0.mk hal
  obtain ⟨b0, hb0⟩ : ∃ b0, b0 = zs.getD 0 0 := ⟨_, rfl⟩
  rw [← hb0] at c0
  have e0 : ad.add 0 = ad := by simp [Addr.add]
  rw [e0] at c0
  have hsg := hN.sign
  rw [← hb0] at hsg
  have HN := Aside0.mk hN
  obtain ⟨w1, hw1⟩ : ∃ w1, w1 = w.alloc (.cells #[.int .u32 fl] 116) := ⟨_, rfl⟩
  rw [← hw1] at c0 HS HAL
  have HW1 := Aside0.mk hw1
  obtain ⟨m, hm⟩ : ∃ m, m = zs.length := ⟨_, rfl⟩
  rw [← hm] at HS hz hz' hmx hnc ⊢
  rw [← hm] at hz1
  have HP := Aside0.mk hz1
  have hm0 : 0 < m := by omega
  have HM := Aside0.mk hm
  clear h hB hal h1 hN hb0 e0 hw1 hz1 hm
  go_enter Tryd.func84, Tryd.ntmps84
  refine wp_seam (fun K hK => ?_)
  go_wp2_with fail
  rw [← HW1.out]
  clear HW1
  refine ⟨wp_seam (fun K1 hK1 => ?_)⟩
  go_wp2_with fail
  refine ⟨wp_seam (fun K2 hK2 => ?_)⟩
  go_wp2_with fail
  refine ⟨wp_seam (fun K3 hK3 => ?_)⟩
  go_wp2_with fail
  refine ⟨wp_seam (fun K4 hK4 => ?_)⟩
  rcases hsg with ⟨rfl, hd⟩ | ⟨rfl, rfl⟩
  · have h45 : (b0 == 45) = false := by rw [beq_eq_false_iff_ne]; have := hd.1; omega
    clear hd
    go_wp2_with fail
    exact ⟨num_t5 w w1 B ad m c fl zs 5 0 p1 p2 p3 hmx HM HS HAL HN ⟨.inl rfl⟩ HP⟩
  · go_wp2_with fail
    exact ⟨num_t5 w w1 B ad m c fl zs 6 1 p1 p2 p3 hmx HM HS HAL HN ⟨.inr (.inl rfl)⟩ HP⟩
end Go.Proofs.YtekmminmgjoabaaDoor.Js

