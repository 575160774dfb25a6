/- Written by bad.py: a bracket of the other kind is refused: the step. Written by bad.py: behind a value: a blank, and what is no token. -/
import Derived.Test.YtekmminmgjoabaaDoorJsBad5
import Derived.Test.YtekmminmgjoabaaDoorJsBad3
import Derived.Test.YtekmminmgjoabaaDoorSc
namespace Go.Proofs.YtekmminmgjoabaaDoor.Js
open Go.RowKit Go.Proofs.YtekmminmgjoabaaDoorW.PrintWords Go.Proofs.YtekmminmgjoabaaDoorW.PrintLast Go.Proofs.YtekmminmgjoabaaDoorW.PrintMore Go.Proofs.YtekmminmgjoabaaDoor.PFnJSTokens
set_option linter.unusedVariables false
set_option linter.unusedSimpArgs false
set_option maxHeartbeats 4000000 in
set_option maxRecDepth 100000 in
theorem bad7_delim (w w1 : World) (B T : Nat) (l : List (Bool × Int)) (d0 dp0 ix0 : Int) (ik nk : Bool) (vv0 sp : Value) (ad : Addr) (m c : Nat) (p q : Bool) (K0 : Int) (hK0 : 0 ≤ K0) (hK1 : K0 < 64) (cc : Int) (r : List Int) (HB : Aside0 (B ≤ T)) (HT : Aside0 (w1.heap[T]? = some (.cells (tzr d0 vv0 .nilIface dp0 ix0 ik nk (.slice (some ad) m c) sp (flK p q K0)) 118 (0, 0)))) (HJ : Aside0 (Sl w1 B (.slice (some ad) m c) (cc :: r))) (HS : Aside0 (Stk w1 B sp l)) (HK : Aside0 (TK TokT B w w1)) (HL : Aside0 (StOk l 0)) (hbad : (cc = 125 ∧ (∀ n r, l ≠ (true, n) :: r)) ∨ (cc = 93 ∧ (∀ n r, l ≠ (false, n) :: r)) ∨ (cc = 44 ∧ l = [])) {u1 u2 u3 u4 u5 u7 u8 u9 u10 u11 u12 u13 u14 u15 u16 u17 u18 u19 u20 u21 u22 u23 u24 u25 u26 u27 u28 u29 u30 u31 u32 u33 u34 u35 u36 u37 u38 u39 u40 u41 u42 u43 u44 u45 u46 u47 u48 u49 u50 u51 u52 u53 u54 u55 u56 u57 u58 u59 u60 u61 u62 u63 u64 u65 u66 u67 u68 u69 u70 u71 u72 u73 u74 u75 u76 u77 u78 u79 u80 u81 u82 u83 u84 u85 u86 u87 u88 u89 u90 u91 u92 u93 u94 u95 u96 u97 u98 u99 u100 u101 u102 u103 u104 u105 u106 u107 u108 u109 u110 u111 u112 u113 u114 u115 u116 u117 u118 u119 u120 u121 u122 u123 u124 u125 u126 u127 u128 u129 u130 u131 u132 u133 u134 u135 u136 u137 u138 u139 u140 u141 u142 u143 u144 u145 u146 u147 u148 u149 u150 u151 u152 u153 u154 u155 u156 u157 u158 u159 u160 u161 u162 u163 u164 u165 u166 u167 u168 u169 u170 u171 u172 u173 u174 u175 u176 u177 u178 u179 u180 u181 u182 u183 u184 u185 u186 u187 u188 u189 u190 u191 u192 u193 u194 u195 u196 u197 u198 u199 u200 u201 u202 u203 u204 u205 u206 u207 u208 u209 u210 u211 u212 u213 u214 u215 u216 u217 u218 u219 u220 u221 u222 u223 u224 u225 u226 u227 u228 u229 u230 u231 u232 u233 u234 u235 u236 u237 u238 u239 u240 u241 u242 u243 u244 u245 u246 u247 u248 u249 u250 u251 u252 u253 u254 u255 u256 u257 u258 u259 u260 u261 u262 u263 u264 u265 u266 u267 u268 u269 u270 u271 u272 u273 u274 u275 u276 u277 u278 u279 u280 u281 u282 u283 u284 u285 u286 u287 u288 u289 u290 u291 u292 u293 u294 u295 u296 u297 u298 u299 u300 u301 u302 u303 u304 u305 u306 u307 u308 u309 u310 u311 u312 u313 u314 u315 u316 u317 u318 u319 u320 u321 u322 u323 u324 u325 u326 u327 u328 u329 u330 u331 u332 u333 u334 u335 u336 u337 u338 u339 u340 u341 u342 u343 u344 u345 u346 u347 u348 u349 u350 u351 u352 u353 u354 u355 u356 u357 u358 u359 u360 u361 u362 u363 u364 u365 u366 u367 u368 u369 u370 u371 u372 u373 u374 u375 u376 u377 u378 u379 u380 u381 u382 u383 u384 u385 u386 u387 u388 u389 u390 u391 u392 u393 u394 u395 u396 u397 u398 u399 u400 u401 u402 u403 u404 u405 u406 u407 u408 u409 u410 u411 u412 u413 u414 u415 u416 u417 u418 u419 u420 u421 u422 u423 u424 u425 u426 u427 u428 u429 u430 u431 u432 u433 u434 u435 u436 u437 u438 u439 u440 u441 u442 u443 u444 u445 u446 u447 u448 u449 u450 : Value} :
    Code.wp Tryd.prog (nextCode 7) (Exit.noGoto (bodyPost Tryd.prog Tryd.f54 (BadPost w B T))) ⟨#[.pointer (some ⟨T, 0, none⟩), u1, u2, u3, u4, u5, .int .u64 0, u7, u8, u9, u10, u11, u12, u13, u14, u15, u16, u17, u18, u19, u20, u21, u22, u23, u24, u25, u26, u27, u28, u29, u30, u31, u32, u33, u34, u35, u36, u37, u38, u39, u40, u41, u42, u43, u44, u45, u46, u47, u48, u49, u50, u51, u52, u53, u54, u55, u56, u57, u58, u59, u60, u61, u62, u63, u64, u65, u66, u67, u68, u69, u70, u71, u72, u73, u74, u75, u76, u77, u78, u79, u80, u81, u82, u83, u84, u85, u86, u87, u88, u89, u90, u91, u92, u93, u94, u95, u96, u97, u98, u99, u100, u101, u102, u103, u104, u105, u106, u107, u108, u109, u110, u111, u112, u113, u114, u115, u116, u117, u118, u119, u120, u121, u122, u123, u124, u125, u126, u127, u128, u129, u130, u131, u132, u133, u134, u135, u136, u137, u138, u139, u140, u141, u142, u143, u144, u145, u146, u147, u148, u149, u150, u151, u152, u153, u154, u155, u156, u157, u158, u159, u160, u161, u162, u163, u164, u165, u166, u167, u168, u169, u170, u171, u172, u173, u174, u175, u176, u177, u178, u179, u180, u181, u182, u183, u184, u185, u186, u187, u188, u189, u190, u191, u192, u193, u194, u195, u196, u197, u198, u199, u200, u201, u202, u203, u204, u205, u206, u207, u208, u209, u210, u211, u212, u213, u214, u215, u216, u217, u218, u219, u220, u221, u222, u223, u224, u225, u226, u227, u228, u229, u230, u231, u232, u233, u234, u235, u236, u237, u238, u239, u240, u241, u242, u243, u244, u245, u246, u247, u248, u249, u250, u251, u252, u253, u254, u255, u256, u257, u258, u259, u260, u261, u262, u263, u264, u265, u266, u267, u268, u269, u270, u271, u272, u273, u274, u275, u276, u277, u278, u279, u280, u281, u282, u283, u284, u285, u286, u287, u288, u289, u290, u291, u292, u293, u294, u295, u296, u297, u298, u299, u300, u301, u302, u303, u304, u305, u306, u307, u308, u309, u310, u311, u312, u313, u314, u315, u316, u317, u318, u319, u320, u321, u322, u323, u324, u325, u326, u327, u328, u329, u330, u331, u332, u333, u334, u335, u336, u337, u338, u339, u340, u341, u342, u343, u344, u345, u346, u347, u348, u349, u350, u351, u352, u353, u354, u355, u356, u357, u358, u359, u360, u361, u362, u363, u364, u365, u366, u367, u368, u369, u370, u371, u372, u373, u374, u375, u376, u377, u378, u379, u380, u381, u382, u383, u384, u385, u386, u387, u388, u389, u390, u391, u392, u393, u394, u395, u396, u397, u398, u399, u400, u401, u402, u403, u404, u405, u406, u407, u408, u409, u410, u411, u412, u413, u414, u415, u416, u417, u418, u419, u420, u421, u422, u423, u424, u425, u426, u427, u428, u429, u430, u431, u432, u433, u434, u435, u436, u437, u438, u439, u440, u441, u442, u443, u444, u445, u446, u447, u448, u449, u450], []⟩ w1 := by
  conv => arg 2; whnf
  have k7 : w1.cell? ⟨T, 7, none⟩ = some (.slice (some ad) m c) := (tzr_cell HT.out 7).trans rfl
  have hm : 0 < m := by have := HJ.out.len.1; rw [this]; simp
  obtain ⟨ad2, had, c0, -⟩ := HJ.out.at_ 0 hm
  obtain rfl : ad = ad2 := by injection had
  have e0 : ad.add 0 = ad := by simp [Addr.add]
  rw [e0] at c0
  have c0 : w1.cell? ad = some (.int .u8 cc) := c0.trans rfl
  have HKB := Aside0.mk (And.intro hK0 hK1)
  have HBC := Aside0.mk hbad
  have hcc : cc = 125 ∨ cc = 93 ∨ cc = 44 := by rcases hbad with h | h | h <;> omega
  clear had e0 hK0 hK1 hbad
  refine wp_seam (fun K1 hK1 => ?_)
  rcases hcc with rfl | rfl | rfl
  all_goals
    refine wp_seam (fun K2 hK2 => ?_)
    go_wp2_with fail
    refine ⟨wp_block ?_⟩
    refine wp_seam (fun L0 hL0 => ?_)
    go_wp2_with fail
    refine ⟨wp_no (by simp [go_sem]; done) ?_⟩
    refine wp_seam (fun L1 hL1 => ?_)
    go_wp2_with fail
    refine ⟨wp_no (by simp [go_sem]; done) ?_⟩
    refine wp_seam (fun L2 hL2 => ?_)
    go_wp2_with fail
    refine ⟨wp_no (by simp [go_sem]; done) ?_⟩
    refine wp_seam (fun L3 hL3 => ?_)
    go_wp2_with fail
    refine ⟨wp_no (by simp [go_sem]; done) ?_⟩
    refine wp_seam (fun L4 hL4 => ?_)
    go_wp2_with fail
    refine ⟨wp_no (by simp [go_sem]; done) ?_⟩
    refine wp_seam (fun L9 hL9 => ?_)
    go_wp2_with fail
    refine ⟨wp_yes (by simp [go_sem]; done) ?_⟩
    exact bad7b_delim w w1 B T l d0 dp0 ix0 ik nk vv0 sp ad m c p q K0 HKB.out.1 HKB.out.2 _ r HB HT HJ HS HK HL (by simpa using HBC.out) K1 hK1
/-- A bracket of the other kind, or a comma outside of brackets, with blanks ahead of it: the step fails. -/
theorem next_shut (w : World) (B T : Nat) (st : St) (zs bs r : List Int) (cc : Int) (p q : Bool) (hz : zs = bs ++ (cc :: r)) (hbs : ∀ c ∈ bs, isSp c = true) (hbad : (cc = 125 ∧ (∀ n r, st.stack ≠ (true, n) :: r)) ∨ (cc = 93 ∧ (∀ n r, st.stack ≠ (false, n) :: r)) ∨ (cc = 44 ∧ st.stack = []))
    (hB : B ≤ T) (hs : TokSt w B T st zs p q) (hL : StOk st.stack zs.length) : Calls Tryd.prog 54 #[.pointer (some ⟨T, 0, none⟩)] w (BadPost w B T) := by
  obtain ⟨d, vv, dp, ix, ik, js, sp, K, ⟨k0, k1⟩, hT, hJ, hS⟩ := hs.out
  have hlen : zs.length = bs.length + (r.length + 1) := by rw [hz]; simp
  refine nx_front w B T d dp ix ik st.isKey vv sp (flK p q K) zs bs.length st.stack _ js (by omega) (fun i hi => ?_) ?_ hB hT hJ hS ⟨fun W ad m c => ?_⟩
  · refine hbs _ ?_
    rw [hz, getD_left _ _ _ hi, List.getD_eq_getElem?_getD, List.getElem?_eq_getElem hi]
    exact List.getElem_mem hi
  · rw [hz, show bs.length = bs.length + 0 from rfl, getD_right]
    rcases hbad with ⟨rfl, -⟩ | ⟨rfl, -⟩ | ⟨rfl, -⟩ <;> rfl
  intros
  rename_i hTW hJW hSW hKW
  rw [hz, drop_front] at hJW
  exact bad7_delim w W B T st.stack d dp ix ik st.isKey vv sp ad m c p q K k0 k1 cc r ⟨hB⟩ ⟨hTW⟩ ⟨hJW⟩ ⟨hSW⟩ ⟨hKW⟩ ⟨hL.mono (by omega)⟩ hbad
end Go.Proofs.YtekmminmgjoabaaDoor.Js

namespace Go.Proofs.YtekmminmgjoabaaDoor.Js
open Go.RowKit Go.Proofs.YtekmminmgjoabaaDoorW.PrintWords Go.Proofs.YtekmminmgjoabaaDoorW.PrintLast Go.Proofs.YtekmminmgjoabaaDoorW.PrintMore Go.Proofs.YtekmminmgjoabaaDoor.PFnJSTokens
set_option linter.unusedVariables false
set_option linter.unusedSimpArgs false
/-- What the law puts behind a value. -/
def wrongs : List (List Int) := [[93], [125], [44], [110, 117, 108], [43, 49], [116, 114, 117], [39, 97, 39], [102, 97, 108, 115], [35]]
theorem next_wrong (w : World) (B T : Nat) (st : St) (more : List Int) (p q : Bool) (hst : st.stack = []) (hm : more ∈ wrongs) (hB : B ≤ T) (hs : TokSt w B T st (32 :: more) p q) : Calls Tryd.prog 54 #[.pointer (some ⟨T, 0, none⟩)] w (BadPost w B T) := by
  have hL : ∀ n : Nat, n ≤ 10 → StOk st.stack n := fun n hn => by rw [hst]; exact ⟨by simp; omega, fun x hx => by simp at hx⟩
  have hshut : ∀ cc : Int, (cc = 125 ∨ cc = 93 ∨ cc = 44) → more = [cc] → Calls Tryd.prog 54 #[.pointer (some ⟨T, 0, none⟩)] w (BadPost w B T) := by
    intro cc hcc e
    subst e
    refine next_shut w B T st _ [32] [] cc p q rfl (fun c hc => by simp at hc; subst hc; rfl) ?_ hB hs (hL 2 (by decide))
    rw [hst]
    rcases hcc with rfl | rfl | rfl
    · exact .inl ⟨rfl, fun n r h => by cases h⟩
    · exact .inr (.inl ⟨rfl, fun n r h => by cases h⟩)
    · exact .inr (.inr ⟨rfl, rfl⟩)
  obtain ⟨d, vv, dp, ix, ik, js, sp, K, ⟨k0, k1⟩, hT, hJ, hS⟩ := hs.out
  have hfront : ∀ (b0 : Int) (r : List Int), more = b0 :: r → isSp b0 = false → (∀ (W : World) (ad : Addr) (m c : Nat) {u1 u2 u3 u4 u5 u7 u8 u9 u10 u11 u12 u13 u14 u15 u16 u17 u18 u19 u20 u21 u22 u23 u24 u25 u26 u27 u28 u29 u30 u31 u32 u33 u34 u35 u36 u37 u38 u39 u40 u41 u42 u43 u44 u45 u46 u47 u48 u49 u50 u51 u52 u53 u54 u55 u56 u57 u58 u59 u60 u61 u62 u63 u64 u65 u66 u67 u68 u69 u70 u71 u72 u73 u74 u75 u76 u77 u78 u79 u80 u81 u82 u83 u84 u85 u86 u87 u88 u89 u90 u91 u92 u93 u94 u95 u96 u97 u98 u99 u100 u101 u102 u103 u104 u105 u106 u107 u108 u109 u110 u111 u112 u113 u114 u115 u116 u117 u118 u119 u120 u121 u122 u123 u124 u125 u126 u127 u128 u129 u130 u131 u132 u133 u134 u135 u136 u137 u138 u139 u140 u141 u142 u143 u144 u145 u146 u147 u148 u149 u150 u151 u152 u153 u154 u155 u156 u157 u158 u159 u160 u161 u162 u163 u164 u165 u166 u167 u168 u169 u170 u171 u172 u173 u174 u175 u176 u177 u178 u179 u180 u181 u182 u183 u184 u185 u186 u187 u188 u189 u190 u191 u192 u193 u194 u195 u196 u197 u198 u199 u200 u201 u202 u203 u204 u205 u206 u207 u208 u209 u210 u211 u212 u213 u214 u215 u216 u217 u218 u219 u220 u221 u222 u223 u224 u225 u226 u227 u228 u229 u230 u231 u232 u233 u234 u235 u236 u237 u238 u239 u240 u241 u242 u243 u244 u245 u246 u247 u248 u249 u250 u251 u252 u253 u254 u255 u256 u257 u258 u259 u260 u261 u262 u263 u264 u265 u266 u267 u268 u269 u270 u271 u272 u273 u274 u275 u276 u277 u278 u279 u280 u281 u282 u283 u284 u285 u286 u287 u288 u289 u290 u291 u292 u293 u294 u295 u296 u297 u298 u299 u300 u301 u302 u303 u304 u305 u306 u307 u308 u309 u310 u311 u312 u313 u314 u315 u316 u317 u318 u319 u320 u321 u322 u323 u324 u325 u326 u327 u328 u329 u330 u331 u332 u333 u334 u335 u336 u337 u338 u339 u340 u341 u342 u343 u344 u345 u346 u347 u348 u349 u350 u351 u352 u353 u354 u355 u356 u357 u358 u359 u360 u361 u362 u363 u364 u365 u366 u367 u368 u369 u370 u371 u372 u373 u374 u375 u376 u377 u378 u379 u380 u381 u382 u383 u384 u385 u386 u387 u388 u389 u390 u391 u392 u393 u394 u395 u396 u397 u398 u399 u400 u401 u402 u403 u404 u405 u406 u407 u408 u409 u410 u411 u412 u413 u414 u415 u416 u417 u418 u419 u420 u421 u422 u423 u424 u425 u426 u427 u428 u429 u430 u431 u432 u433 u434 u435 u436 u437 u438 u439 u440 u441 u442 u443 u444 u445 u446 u447 u448 u449 u450 : Value}, W.heap[T]? = some (.cells (tzr d vv .nilIface dp ix ik st.isKey (.slice (some ad) m c) sp (flK p q K)) 118 (0, 0)) → Sl W B (.slice (some ad) m c) more → Stk W B sp st.stack → TK TokT B w W → Code.wp Tryd.prog (nextCode 7) (Exit.noGoto (bodyPost Tryd.prog Tryd.f54 (BadPost w B T))) ⟨#[.pointer (some ⟨T, 0, none⟩), u1, u2, u3, u4, u5, .int .u64 0, u7, u8, u9, u10, u11, u12, u13, u14, u15, u16, u17, u18, u19, u20, u21, u22, u23, u24, u25, u26, u27, u28, u29, u30, u31, u32, u33, u34, u35, u36, u37, u38, u39, u40, u41, u42, u43, u44, u45, u46, u47, u48, u49, u50, u51, u52, u53, u54, u55, u56, u57, u58, u59, u60, u61, u62, u63, u64, u65, u66, u67, u68, u69, u70, u71, u72, u73, u74, u75, u76, u77, u78, u79, u80, u81, u82, u83, u84, u85, u86, u87, u88, u89, u90, u91, u92, u93, u94, u95, u96, u97, u98, u99, u100, u101, u102, u103, u104, u105, u106, u107, u108, u109, u110, u111, u112, u113, u114, u115, u116, u117, u118, u119, u120, u121, u122, u123, u124, u125, u126, u127, u128, u129, u130, u131, u132, u133, u134, u135, u136, u137, u138, u139, u140, u141, u142, u143, u144, u145, u146, u147, u148, u149, u150, u151, u152, u153, u154, u155, u156, u157, u158, u159, u160, u161, u162, u163, u164, u165, u166, u167, u168, u169, u170, u171, u172, u173, u174, u175, u176, u177, u178, u179, u180, u181, u182, u183, u184, u185, u186, u187, u188, u189, u190, u191, u192, u193, u194, u195, u196, u197, u198, u199, u200, u201, u202, u203, u204, u205, u206, u207, u208, u209, u210, u211, u212, u213, u214, u215, u216, u217, u218, u219, u220, u221, u222, u223, u224, u225, u226, u227, u228, u229, u230, u231, u232, u233, u234, u235, u236, u237, u238, u239, u240, u241, u242, u243, u244, u245, u246, u247, u248, u249, u250, u251, u252, u253, u254, u255, u256, u257, u258, u259, u260, u261, u262, u263, u264, u265, u266, u267, u268, u269, u270, u271, u272, u273, u274, u275, u276, u277, u278, u279, u280, u281, u282, u283, u284, u285, u286, u287, u288, u289, u290, u291, u292, u293, u294, u295, u296, u297, u298, u299, u300, u301, u302, u303, u304, u305, u306, u307, u308, u309, u310, u311, u312, u313, u314, u315, u316, u317, u318, u319, u320, u321, u322, u323, u324, u325, u326, u327, u328, u329, u330, u331, u332, u333, u334, u335, u336, u337, u338, u339, u340, u341, u342, u343, u344, u345, u346, u347, u348, u349, u350, u351, u352, u353, u354, u355, u356, u357, u358, u359, u360, u361, u362, u363, u364, u365, u366, u367, u368, u369, u370, u371, u372, u373, u374, u375, u376, u377, u378, u379, u380, u381, u382, u383, u384, u385, u386, u387, u388, u389, u390, u391, u392, u393, u394, u395, u396, u397, u398, u399, u400, u401, u402, u403, u404, u405, u406, u407, u408, u409, u410, u411, u412, u413, u414, u415, u416, u417, u418, u419, u420, u421, u422, u423, u424, u425, u426, u427, u428, u429, u430, u431, u432, u433, u434, u435, u436, u437, u438, u439, u440, u441, u442, u443, u444, u445, u446, u447, u448, u449, u450], []⟩ W) → Calls Tryd.prog 54 #[.pointer (some ⟨T, 0, none⟩)] w (BadPost w B T) := by
    intro b0 r e hns hgo
    refine nx_front w B T d dp ix ik st.isKey vv sp (flK p q K) (32 :: more) 1 st.stack _ js (by rw [e]; simp) (fun i hi => ?_) ?_ hB hT hJ hS ⟨fun W ad m c => ?_⟩
    · obtain rfl : i = 0 := by omega
      rfl
    · rw [e]; exact hns
    · intros
      rename_i hTW hJW hSW hKW
      exact hgo W ad m c hTW hJW hSW hKW
  simp only [wrongs, List.mem_cons, List.not_mem_nil, or_false] at hm
  rcases hm with rfl | rfl | rfl | rfl | rfl | rfl | rfl | rfl | rfl
  · exact hshut 93 (.inr (.inl rfl)) rfl
  · exact hshut 125 (.inl rfl) rfl
  · exact hshut 44 (.inr (.inr rfl)) rfl
  · refine hfront 110 [117, 108] rfl rfl (fun W ad m c => ?_)
    intros
    rename_i hTW hJW hSW hKW
    obtain rfl : m = 3 := hJW.len.1
    exact bad7_null w W B T st.stack d dp ix ik st.isKey vv sp ad 3 c p q K k0 k1 ⟨hB⟩ ⟨hTW⟩ ⟨hSW⟩ ⟨hKW⟩ ⟨hL 0 (by decide)⟩ ⟨fun W' h1 h2 => short_null W' B _ c _ (hJW.below h1)⟩ _ (by decide) ⟨hJW⟩ rfl
  · refine hfront 43 [49] rfl rfl (fun W ad m c => ?_)
    intros
    rename_i hTW hJW hSW hKW
    exact bad7_other w W B T st.stack d dp ix ik st.isKey vv sp ad m c p q K k0 k1 43 (.inl rfl) [49] ⟨hB⟩ ⟨hTW⟩ ⟨hJW⟩ ⟨hSW⟩ ⟨hKW⟩ ⟨hL 0 (by decide)⟩
  · refine hfront 116 [114, 117] rfl rfl (fun W ad m c => ?_)
    intros
    rename_i hTW hJW hSW hKW
    obtain rfl : m = 3 := hJW.len.1
    exact bad7_yes w W B T st.stack d dp ix ik st.isKey vv sp ad 3 c p q K k0 k1 ⟨hB⟩ ⟨hTW⟩ ⟨hSW⟩ ⟨hKW⟩ ⟨hL 0 (by decide)⟩ ⟨fun W' h1 h2 => short_yes W' B _ c _ (hJW.below h1)⟩ _ (by decide) ⟨hJW⟩ rfl
  · refine hfront 39 [97, 39] rfl rfl (fun W ad m c => ?_)
    intros
    rename_i hTW hJW hSW hKW
    exact bad7_other w W B T st.stack d dp ix ik st.isKey vv sp ad m c p q K k0 k1 39 (.inr (.inl rfl)) [97, 39] ⟨hB⟩ ⟨hTW⟩ ⟨hJW⟩ ⟨hSW⟩ ⟨hKW⟩ ⟨hL 0 (by decide)⟩
  · refine hfront 102 [97, 108, 115] rfl rfl (fun W ad m c => ?_)
    intros
    rename_i hTW hJW hSW hKW
    obtain rfl : m = 4 := hJW.len.1
    exact bad7_no w W B T st.stack d dp ix ik st.isKey vv sp ad 4 c p q K k0 k1 ⟨hB⟩ ⟨hTW⟩ ⟨hSW⟩ ⟨hKW⟩ ⟨hL 0 (by decide)⟩ ⟨fun W' h1 h2 => short_no W' B _ c _ (hJW.below h1)⟩ _ (by decide) ⟨hJW⟩ rfl
  · refine hfront 35 [] rfl rfl (fun W ad m c => ?_)
    intros
    rename_i hTW hJW hSW hKW
    exact bad7_other w W B T st.stack d dp ix ik st.isKey vv sp ad m c p q K k0 k1 35 (.inr (.inr rfl)) [] ⟨hB⟩ ⟨hTW⟩ ⟨hJW⟩ ⟨hSW⟩ ⟨hKW⟩ ⟨hL 0 (by decide)⟩
end Go.Proofs.YtekmminmgjoabaaDoor.Js
