/- Written by nx6.py: a delimiter's kind. Written by nx5.py: a delimiter is taken. -/
import Derived.Test.YtekmminmgjoabaaDoorYRi
namespace Go.Proofs.YtekmminmgjoabaaDoor.Js
open Go.RowKit Go.Proofs.YtekmminmgjoabaaDoorW.PrintWords Go.Proofs.YtekmminmgjoabaaDoorW.PrintLast Go.Proofs.YtekmminmgjoabaaDoorW.PrintMore Go.Proofs.YtekmminmgjoabaaDoor.PFnJSTokens
set_option linter.unusedVariables false
set_option linter.unusedSimpArgs false
def IsDelim (c : Int) : Prop := c = 123 ∨ c = 125 ∨ c = 91 ∨ c = 93 ∨ c = 58 ∨ c = 44
/-- The kind of a delimiter. -/
def delK (c : Int) : Int := if c = 123 then 32 else if c = 91 then 16 else 0
theorem delK_bd (c : Int) : 0 ≤ delK c ∧ delK c < 64 := by unfold delK; split; decide; split <;> decide
set_option maxHeartbeats 4000000 in
set_option maxRecDepth 100000 in
theorem nx7c_delim (w w1 : World) (B T : Nat) (st st1 : St) (dp0 ix0 : Int) (ik : Bool) (vv js sp : Value) (p q : Bool) (K0 : Int) (hK0 : 0 ≤ K0) (hK1 : K0 < 64) (cc : Int) (hcc : IsDelim cc) (r : List Int) (ha : st.after cc = some st1) (HB : Aside0 (B ≤ T)) (HT : Aside0 (w1.heap[T]? = some (.cells (tzr cc vv .nilIface dp0 ix0 ik st.isKey js sp (flK p q K0)) 118 (0, 0)))) (HV : Aside0 (Sl w1 B vv [cc])) (HJ : Aside0 (Sl w1 B js r)) (HS : Aside0 (Stk w1 B sp st.stack)) (HK : Aside0 (TK TokT B w w1)) (HL : Aside0 (StOk st.stack r.length))
    (K : Act → World → Prop) (hK : ∀ s w', Seam Tryd.prog (nextCode 8) (Exit.noGoto (bodyPost Tryd.prog Tryd.f54 (NextPost w B T st st1 cc [cc] r p q (delK cc)))) s w' → K s w') {u1 u2 u3 u4 u5 u7 u8 u9 u10 u11 u12 u13 u14 u15 u16 u17 u18 u19 u20 u21 u22 u23 u24 u25 u26 u27 u28 u29 u30 u31 u32 u33 u34 u35 u36 u37 u38 u39 u40 u41 u42 u43 u44 u45 u46 u47 u48 u49 u50 u51 u52 u53 u54 u55 u56 u57 u58 u59 u60 u61 u62 u63 u64 u65 u66 u67 u68 u69 u70 u71 u72 u73 u74 u75 u76 u77 u78 u79 u80 u81 u82 u83 u84 u85 u86 u87 u88 u89 u90 u91 u92 u93 u94 u95 u96 u97 u98 u99 u100 u101 u102 u103 u104 u105 u106 u107 u108 u109 u110 u111 u112 u113 u114 u115 u116 u117 u118 u119 u120 u121 u122 u123 u124 u125 u126 u127 u128 u129 u130 u131 u132 u133 u134 u135 u136 u137 u138 u139 u140 u141 u142 u143 u144 u145 u146 u147 u148 u149 u150 u151 u152 u153 u154 u155 u156 u157 u158 u159 u160 u161 u162 u163 u164 u165 u166 u167 u168 u169 u170 u171 u172 u173 u174 u175 u176 u177 u178 u179 u180 u181 u182 u183 u184 u185 u186 u187 u188 u189 u190 u191 u192 u193 u194 u195 u196 u197 u198 u199 u200 u201 u202 u203 u204 u205 u206 u207 u208 u209 u210 u211 u212 u213 u214 u215 u216 u217 u218 u219 u220 u221 u222 u223 u224 u225 u226 u227 u228 u229 u230 u231 u232 u233 u234 u235 u236 u237 u238 u239 u240 u241 u242 u243 u244 u245 u246 u247 u248 u249 u250 u251 u252 u253 u254 u255 u256 u257 u258 u259 u260 u261 u262 u263 u264 u265 u266 u267 u268 u269 u270 u271 u272 u273 u274 u275 u276 u277 u278 u279 u280 u281 u282 u283 u284 u285 u286 u287 u288 u289 u290 u291 u292 u293 u294 u295 u296 u297 u298 u299 u300 u301 u302 u303 u304 u305 u306 u307 u308 u309 u310 u311 u312 u313 u314 u315 u316 u317 u318 u319 u320 u321 u322 u323 u324 u325 u326 u327 u328 u329 u330 u331 u332 u333 u334 u335 u336 u337 u338 u339 u340 u341 u342 u343 u344 u345 u346 u347 u348 u349 u350 u351 u352 u353 u354 u355 u356 u357 u358 u359 u360 u361 u362 u363 u364 u365 u366 u367 u368 u369 u370 u371 u372 u373 u374 u375 u376 u377 u378 u379 u380 u381 u382 u383 u384 u385 u386 u387 u388 u389 u390 u391 u392 u393 u394 u395 u396 u397 u398 u399 u400 u401 u402 u403 u404 u405 u406 u407 u408 u409 u410 u411 u412 u413 u414 u415 u416 u417 u418 u419 u420 u421 u422 u423 u424 u425 u426 u427 u428 u429 u430 u431 u432 u433 u434 u435 u436 u437 u438 u439 u440 u441 u442 u443 u444 u445 u446 u447 u448 u449 u450 : Value} :
    Code.wp Tryd.prog (pick [0, 1, 0, 1, 1, 1, 1, 1, 1, 1, 1, 1, 1, 1, 0, 1] (nextCode 7)) (Exit.inBlock 3 (Exit.then K (Exit.noGoto (bodyPost Tryd.prog Tryd.f54 (NextPost w B T st st1 cc [cc] r p q (delK cc)))))) ⟨#[.pointer (some ⟨T, 0, none⟩), u1, u2, u3, u4, u5, .int .u64 0, u7, u8, u9, u10, u11, u12, u13, u14, u15, u16, u17, u18, u19, u20, u21, u22, u23, u24, u25, u26, u27, u28, u29, u30, u31, u32, u33, u34, u35, u36, u37, u38, u39, u40, u41, u42, u43, u44, u45, u46, u47, u48, u49, u50, u51, u52, u53, u54, u55, u56, u57, u58, u59, u60, u61, u62, u63, u64, u65, u66, u67, u68, u69, u70, u71, u72, u73, u74, u75, u76, u77, u78, u79, u80, u81, u82, u83, u84, u85, u86, u87, u88, u89, u90, u91, u92, u93, u94, u95, u96, u97, u98, u99, u100, u101, u102, u103, u104, u105, u106, u107, u108, u109, u110, u111, u112, u113, u114, u115, u116, u117, u118, u119, u120, u121, u122, u123, u124, u125, u126, u127, u128, u129, u130, u131, u132, u133, u134, u135, u136, u137, u138, u139, u140, u141, u142, u143, u144, u145, u146, u147, u148, u149, u150, u151, u152, u153, u154, u155, u156, u157, u158, u159, u160, u161, u162, u163, u164, u165, u166, u167, u168, u169, u170, u171, u172, u173, u174, u175, u176, u177, u178, u179, u180, u181, u182, u183, u184, u185, u186, u187, u188, u189, u190, u191, u192, u193, u194, u195, u196, u197, u198, u199, u200, u201, u202, u203, u204, u205, u206, u207, u208, u209, u210, u211, u212, u213, u214, u215, u216, u217, u218, u219, u220, u221, u222, u223, u224, u225, u226, u227, u228, u229, u230, u231, u232, u233, u234, u235, u236, u237, u238, u239, u240, u241, u242, u243, u244, u245, u246, u247, u248, u249, u250, u251, u252, u253, u254, u255, u256, u257, u258, u259, u260, u261, u262, u263, u264, u265, u266, u267, u268, u269, u270, u271, u272, u273, u274, u275, u276, u277, u278, u279, u280, u281, u282, u283, u284, u285, u286, u287, u288, u289, u290, u291, u292, u293, u294, u295, u296, u297, u298, u299, u300, u301, u302, u303, u304, u305, u306, u307, u308, u309, u310, u311, u312, u313, u314, u315, u316, u317, u318, u319, u320, u321, u322, u323, u324, u325, u326, u327, u328, u329, u330, u331, u332, u333, u334, u335, u336, u337, u338, u339, u340, u341, u342, u343, u344, u345, u346, u347, u348, u349, u350, u351, u352, u353, u354, u355, u356, u357, u358, u359, u360, u361, u362, u363, u364, u365, u366, u367, u368, u369, u370, u371, u372, u373, u374, u375, u376, u377, u378, u379, u380, u381, u382, u383, u384, u385, u386, u387, u388, u389, u390, u391, u392, u393, u394, u395, u396, u397, u398, u399, u400, u401, u402, u403, u404, u405, u406, u407, u408, u409, u410, u411, u412, u413, u414, u415, u416, u417, u418, u419, u420, u421, u422, u423, u424, u425, u426, u427, u428, u429, u430, u431, u432, u433, u434, u435, u436, u437, u438, u439, u440, u441, u442, u443, u444, u445, u446, u447, u448, u449, u450], []⟩ w1 := by
  conv => arg 2; whnf
  have k0 := (tzr_cell HT.out 0).trans (show _ = some (Value.int .i32 cc) from rfl)
  have HA := Aside0.mk ha
  have HKB := Aside0.mk (And.intro hK0 hK1)
  clear ha hK0 hK1
  rcases hcc with rfl | rfl | rfl | rfl | rfl | rfl
  · go_wp2_with fail
    exact ⟨nx8 w w1 B T st st1 123 dp0 ix0 ik vv js sp p q K0 32 HKB.out.1 HKB.out.2 (by decide) (by decide) [123] r HA.out (fun h => by cases h) HB HT HV HJ HS HK HL⟩
  · go_wp2_with fail
    exact ⟨nx8 w w1 B T st st1 125 dp0 ix0 ik vv js sp p q K0 0 HKB.out.1 HKB.out.2 (by decide) (by decide) [125] r HA.out (fun h => by cases h) HB HT HV HJ HS HK HL⟩
  · go_wp2_with fail
    exact ⟨nx8 w w1 B T st st1 91 dp0 ix0 ik vv js sp p q K0 16 HKB.out.1 HKB.out.2 (by decide) (by decide) [91] r HA.out (fun h => by cases h) HB HT HV HJ HS HK HL⟩
  · go_wp2_with fail
    exact ⟨nx8 w w1 B T st st1 93 dp0 ix0 ik vv js sp p q K0 0 HKB.out.1 HKB.out.2 (by decide) (by decide) [93] r HA.out (fun h => by cases h) HB HT HV HJ HS HK HL⟩
  · go_wp2_with fail
    exact ⟨nx8 w w1 B T st st1 58 dp0 ix0 ik vv js sp p q K0 0 HKB.out.1 HKB.out.2 (by decide) (by decide) [58] r HA.out (fun h => by cases h) HB HT HV HJ HS HK HL⟩
  · go_wp2_with fail
    exact ⟨nx8 w w1 B T st st1 44 dp0 ix0 ik vv js sp p q K0 0 HKB.out.1 HKB.out.2 (by decide) (by decide) [44] r HA.out (fun h => by cases h) HB HT HV HJ HS HK HL⟩
end Go.Proofs.YtekmminmgjoabaaDoor.Js

namespace Go.Proofs.YtekmminmgjoabaaDoor.Js
open Go.RowKit Go.Proofs.YtekmminmgjoabaaDoorW.PrintWords Go.Proofs.YtekmminmgjoabaaDoorW.PrintLast Go.Proofs.YtekmminmgjoabaaDoorW.PrintMore Go.Proofs.YtekmminmgjoabaaDoor.PFnJSTokens
set_option linter.unusedVariables false
set_option linter.unusedSimpArgs false
set_option maxHeartbeats 4000000 in
set_option maxRecDepth 100000 in
theorem nx7b_delim (w w1 : World) (B T : Nat) (st st1 : St) (d0 dp0 ix0 : Int) (ik : Bool) (vv0 sp : Value) (ad : Addr) (m c : Nat) (p q : Bool) (K0 : Int) (hK0 : 0 ≤ K0) (hK1 : K0 < 64) (cc : Int) (hcc : IsDelim cc) (r : List Int) (ha : st.after cc = some st1) (HB : Aside0 (B ≤ T)) (HT : Aside0 (w1.heap[T]? = some (.cells (tzr d0 vv0 .nilIface dp0 ix0 ik st.isKey (.slice (some ad) m c) sp (flK p q K0)) 118 (0, 0)))) (HJ : Aside0 (Sl w1 B (.slice (some ad) m c) (cc :: r))) (HS : Aside0 (Stk w1 B sp st.stack)) (HK : Aside0 (TK TokT B w w1)) (HL : Aside0 (StOk st.stack r.length))
    (K : Act → World → Prop) (hK : ∀ s w', Seam Tryd.prog (nextCode 8) (Exit.noGoto (bodyPost Tryd.prog Tryd.f54 (NextPost w B T st st1 cc [cc] r p q (delK cc)))) s w' → K s w') {u1 u2 u3 u4 u5 u7 u8 u9 u10 u11 u12 u13 u14 u15 u16 u17 u18 u19 u20 u21 u22 u23 u24 u25 u26 u27 u28 u29 u30 u31 u32 u33 u34 u35 u36 u37 u38 u39 u40 u41 u42 u43 u44 u45 u46 u47 u48 u49 u50 u51 u52 u53 u54 u55 u56 u57 u58 u59 u60 u61 u62 u63 u64 u65 u66 u67 u68 u69 u70 u71 u72 u73 u74 u75 u76 u77 u78 u79 u80 u81 u82 u83 u84 u85 u86 u87 u88 u89 u90 u91 u92 u93 u94 u95 u96 u97 u98 u99 u100 u101 u102 u103 u104 u105 u106 u107 u108 u109 u110 u111 u112 u113 u114 u115 u116 u117 u118 u119 u120 u121 u122 u123 u124 u125 u126 u127 u128 u129 u130 u131 u132 u133 u134 u135 u136 u137 u138 u139 u140 u141 u142 u143 u144 u145 u146 u147 u148 u149 u150 u151 u152 u153 u154 u155 u156 u157 u158 u159 u160 u161 u162 u163 u164 u165 u166 u167 u168 u169 u170 u171 u172 u173 u174 u175 u176 u177 u178 u179 u180 u181 u182 u183 u184 u185 u186 u187 u188 u189 u190 u191 u192 u193 u194 u195 u196 u197 u198 u199 u200 u201 u202 u203 u204 u205 u206 u207 u208 u209 u210 u211 u212 u213 u214 u215 u216 u217 u218 u219 u220 u221 u222 u223 u224 u225 u226 u227 u228 u229 u230 u231 u232 u233 u234 u235 u236 u237 u238 u239 u240 u241 u242 u243 u244 u245 u246 u247 u248 u249 u250 u251 u252 u253 u254 u255 u256 u257 u258 u259 u260 u261 u262 u263 u264 u265 u266 u267 u268 u269 u270 u271 u272 u273 u274 u275 u276 u277 u278 u279 u280 u281 u282 u283 u284 u285 u286 u287 u288 u289 u290 u291 u292 u293 u294 u295 u296 u297 u298 u299 u300 u301 u302 u303 u304 u305 u306 u307 u308 u309 u310 u311 u312 u313 u314 u315 u316 u317 u318 u319 u320 u321 u322 u323 u324 u325 u326 u327 u328 u329 u330 u331 u332 u333 u334 u335 u336 u337 u338 u339 u340 u341 u342 u343 u344 u345 u346 u347 u348 u349 u350 u351 u352 u353 u354 u355 u356 u357 u358 u359 u360 u361 u362 u363 u364 u365 u366 u367 u368 u369 u370 u371 u372 u373 u374 u375 u376 u377 u378 u379 u380 u381 u382 u383 u384 u385 u386 u387 u388 u389 u390 u391 u392 u393 u394 u395 u396 u397 u398 u399 u400 u401 u402 u403 u404 u405 u406 u407 u408 u409 u410 u411 u412 u413 u414 u415 u416 u417 u418 u419 u420 u421 u422 u423 u424 u425 u426 u427 u428 u429 u430 u431 u432 u433 u434 u435 u436 u437 u438 u439 u440 u441 u442 u443 u444 u445 u446 u447 u448 u449 u450 : Value} :
    Code.wp Tryd.prog (pick [0, 1, 0, 1, 1, 1, 1, 1, 1, 1, 1, 1, 1, 1, 0] (nextCode 7)) (Exit.inBlock 3 (Exit.then K (Exit.noGoto (bodyPost Tryd.prog Tryd.f54 (NextPost w B T st st1 cc [cc] r p q (delK cc)))))) ⟨#[.pointer (some ⟨T, 0, none⟩), u1, u2, u3, u4, u5, .int .u64 0, u7, u8, u9, u10, u11, u12, u13, u14, u15, u16, u17, u18, u19, u20, u21, u22, u23, u24, u25, u26, u27, u28, u29, u30, u31, u32, u33, u34, u35, u36, u37, u38, u39, u40, u41, u42, u43, u44, u45, u46, u47, u48, u49, u50, u51, u52, u53, u54, u55, u56, u57, u58, u59, u60, u61, u62, u63, u64, u65, u66, u67, u68, u69, u70, u71, u72, u73, u74, u75, u76, u77, u78, u79, u80, u81, u82, u83, u84, u85, u86, u87, u88, u89, u90, u91, u92, u93, u94, u95, u96, u97, u98, u99, u100, u101, u102, u103, u104, u105, u106, u107, u108, u109, u110, u111, u112, u113, u114, u115, u116, u117, u118, u119, u120, u121, u122, u123, u124, u125, u126, u127, u128, u129, u130, u131, u132, u133, u134, u135, u136, u137, u138, u139, u140, u141, u142, u143, u144, u145, u146, u147, u148, u149, u150, u151, u152, u153, u154, u155, u156, u157, u158, u159, u160, u161, u162, u163, u164, u165, u166, u167, u168, u169, u170, u171, u172, u173, u174, u175, u176, u177, u178, u179, u180, u181, u182, u183, u184, u185, u186, u187, u188, u189, u190, u191, u192, u193, u194, u195, u196, u197, u198, u199, u200, u201, u202, u203, u204, u205, u206, u207, u208, u209, u210, u211, u212, u213, u214, u215, u216, u217, u218, u219, u220, u221, u222, u223, u224, u225, u226, u227, u228, u229, u230, u231, u232, u233, u234, u235, u236, u237, u238, u239, u240, u241, u242, u243, u244, u245, u246, u247, u248, u249, u250, u251, u252, u253, u254, u255, u256, u257, u258, u259, u260, u261, u262, u263, u264, u265, u266, u267, u268, u269, u270, u271, u272, u273, u274, u275, u276, u277, u278, u279, u280, u281, u282, u283, u284, u285, u286, u287, u288, u289, u290, u291, u292, u293, u294, u295, u296, u297, u298, u299, u300, u301, u302, u303, u304, u305, u306, u307, u308, u309, u310, u311, u312, u313, u314, u315, u316, u317, u318, u319, u320, u321, u322, u323, u324, u325, u326, u327, u328, u329, u330, u331, u332, u333, u334, u335, u336, u337, u338, u339, u340, u341, u342, u343, u344, u345, u346, u347, u348, u349, u350, u351, u352, u353, u354, u355, u356, u357, u358, u359, u360, u361, u362, u363, u364, u365, u366, u367, u368, u369, u370, u371, u372, u373, u374, u375, u376, u377, u378, u379, u380, u381, u382, u383, u384, u385, u386, u387, u388, u389, u390, u391, u392, u393, u394, u395, u396, u397, u398, u399, u400, u401, u402, u403, u404, u405, u406, u407, u408, u409, u410, u411, u412, u413, u414, u415, u416, u417, u418, u419, u420, u421, u422, u423, u424, u425, u426, u427, u428, u429, u430, u431, u432, u433, u434, u435, u436, u437, u438, u439, u440, u441, u442, u443, u444, u445, u446, u447, u448, u449, u450], []⟩ w1 := by
  conv => arg 2; whnf
  refine wp_seam (fun K2 hK2 => ?_)
  obtain ⟨fl0, hfl0⟩ : ∃ fl0, fl0 = flK p q K0 := ⟨_, rfl⟩
  have HFL := Aside0.mk hfl0
  rw [← hfl0] at HT
  have HKB := Aside0.mk (And.intro hK0 hK1)
  have hml := HJ.out.len.1
  have hm1 : 1 ≤ m := by rw [hml]; simp
  obtain ⟨A', hcutA, hcutB, hdA, hdB⟩ := HJ.out.both 22 1 1 .i64 Tryd.underlying22 rfl hm1
  obtain ⟨ad2, had, c0, -⟩ := HJ.out.at_ 0 (by omega)
  obtain rfl : ad = ad2 := by injection had
  have e0 : ad.add 0 = ad := by simp [Addr.add]
  rw [e0] at c0
  have c0 : w1.cell? ad = some (.int .u8 cc) := c0.trans rfl
  have HDA := Aside0.mk (show Sl w1 B (.slice (some ad) 1 c) [cc] from hdA)
  have HDB := Aside0.mk (show Sl w1 B (.slice A' (m - 1) (c - 1)) r from hdB)
  have hw : IntKind.i32.wrap cc = cc := by rcases hcc with rfl | rfl | rfl | rfl | rfl | rfl <;> rfl
  have k7 := (tzr_cell HT.out 7).trans (show _ = some (Value.slice (some ad) m c) from rfl)
  have g0 := blk_frozen HT.out 0
  have g1 := blk_frozen HT.out 1
  have g7 := blk_frozen HT.out 7
  have j0 := (tzr_cell HT.out 0).trans (show _ = some (Value.int .i32 d0) from rfl)
  have j1 := (tzr_cell HT.out 1).trans (show _ = some vv0 from rfl)
  have HCC := Aside0.mk (And.intro hcc ha)
  have hm0 : 0 < m := by omega
  clear hfl0 hK0 hK1 hml hdA hdB had e0 hcc ha
  have hTa := tzr_put HT.out 0 (.int .i32 cc)
  have hSa := stk_put HS.out HT.out 0 (.int .i32 cc)
  have hKa := tk_put HK.out HT.out HB.out 0 (.int .i32 cc)
  have hTb := blk_set hTa 1 (.slice (some ad) 1 c)
  have hSb := stk_put hSa hTa 1 (.slice (some ad) 1 c)
  have hKb := tk_put hKa hTa HB.out 1 (.slice (some ad) 1 c)
  have hTc := blk_set hTb 7 (.slice A' (m - 1) (c - 1))
  have hSc := (stk_put hSb hTb 7 (.slice A' (m - 1) (c - 1))).same (below_drew (Below.refl _ _))
  have hKc := (tk_put hKb hTb HB.out 7 (.slice A' (m - 1) (c - 1))).drew
  have hVc := (sl_put (sl_put (sl_put HDA.out HB.out 0 (.int .i32 cc)) HB.out 1 (.slice (some ad) 1 c)) HB.out 7 (.slice A' (m - 1) (c - 1))).below (below_drew (Below.refl _ _))
  have hJc := (sl_put (sl_put (sl_put HDB.out HB.out 0 (.int .i32 cc)) HB.out 1 (.slice (some ad) 1 c)) HB.out 7 (.slice A' (m - 1) (c - 1))).below (below_drew (Below.refl _ _))
  have HALL := Aside0.mk (And.intro (blk_drew hTc) (And.intro hSc (And.intro hKc (And.intro hVc hJc))))
  clear hTa hSa hKa hTb hSb hKb hTc hSc hKc hVc hJc
  go_region
  all_goals
    clear hw k7 g0 g1 g7 j0 j1
    go_wp2_with fail
    obtain rfl := HFL.out
    exact ⟨nx7c_delim w _ B T st st1 dp0 ix0 ik (.slice (some ad) 1 c) (.slice A' (m - 1) (c - 1)) sp p q K0 HKB.out.1 HKB.out.2 cc HCC.out.1 r HCC.out.2 HB ⟨HALL.out.1⟩ ⟨HALL.out.2.2.2.1⟩ ⟨HALL.out.2.2.2.2⟩ ⟨HALL.out.2.1⟩ ⟨HALL.out.2.2.1⟩ HL K hK⟩
end Go.Proofs.YtekmminmgjoabaaDoor.Js

