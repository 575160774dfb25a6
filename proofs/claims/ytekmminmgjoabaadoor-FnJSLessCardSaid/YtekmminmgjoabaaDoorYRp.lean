/- Written by nx7.py: blanks ahead of a token. -/
import Derived.Test.YtekmminmgjoabaaDoorYRi
import Derived.WalkMore
namespace Go.Proofs.YtekmminmgjoabaaDoor.Js
open Go.RowKit Go.Proofs.YtekmminmgjoabaaDoorW.PrintWords Go.Proofs.YtekmminmgjoabaaDoorW.PrintLast Go.Proofs.YtekmminmgjoabaaDoorW.PrintMore Go.Proofs.YtekmminmgjoabaaDoor.PFnJSTokens
set_option linter.unusedVariables false
set_option linter.unusedSimpArgs false
set_option maxHeartbeats 4000000 in
set_option maxRecDepth 100000 in
theorem nx4 (w w1 : World) (B T : Nat) (d0 dp0 ix0 : Int) (ik nk : Bool) (vv0 sp : Value) (fl : Int) (zs : List Int) (nb : Nat) (l : List (Bool × Int)) (Post : Ending → World → Prop) (A : Option Addr) (m c : Nat) (hnb : nb < zs.length) (HB : Aside0 (B ≤ T)) (HT : Aside0 (w1.heap[T]? = some (.cells (tzr d0 vv0 .nilIface dp0 ix0 ik nk (.slice A m c) sp fl) 118 (0, 0)))) (HJ : Aside0 (Sl w1 B (.slice A m c) zs)) (HS : Aside0 (Stk w1 B sp l)) (HK : Aside0 (TK TokT B w w1)) (hgo : Aside0 (∀ (W : World) (ad : Addr) (m c : Nat) {u1 u2 u3 u4 u5 u7 u8 u9 u10 u11 u12 u13 u14 u15 u16 u17 u18 u19 u20 u21 u22 u23 u24 u25 u26 u27 u28 u29 u30 u31 u32 u33 u34 u35 u36 u37 u38 u39 u40 u41 u42 u43 u44 u45 u46 u47 u48 u49 u50 u51 u52 u53 u54 u55 u56 u57 u58 u59 u60 u61 u62 u63 u64 u65 u66 u67 u68 u69 u70 u71 u72 u73 u74 u75 u76 u77 u78 u79 u80 u81 u82 u83 u84 u85 u86 u87 u88 u89 u90 u91 u92 u93 u94 u95 u96 u97 u98 u99 u100 u101 u102 u103 u104 u105 u106 u107 u108 u109 u110 u111 u112 u113 u114 u115 u116 u117 u118 u119 u120 u121 u122 u123 u124 u125 u126 u127 u128 u129 u130 u131 u132 u133 u134 u135 u136 u137 u138 u139 u140 u141 u142 u143 u144 u145 u146 u147 u148 u149 u150 u151 u152 u153 u154 u155 u156 u157 u158 u159 u160 u161 u162 u163 u164 u165 u166 u167 u168 u169 u170 u171 u172 u173 u174 u175 u176 u177 u178 u179 u180 u181 u182 u183 u184 u185 u186 u187 u188 u189 u190 u191 u192 u193 u194 u195 u196 u197 u198 u199 u200 u201 u202 u203 u204 u205 u206 u207 u208 u209 u210 u211 u212 u213 u214 u215 u216 u217 u218 u219 u220 u221 u222 u223 u224 u225 u226 u227 u228 u229 u230 u231 u232 u233 u234 u235 u236 u237 u238 u239 u240 u241 u242 u243 u244 u245 u246 u247 u248 u249 u250 u251 u252 u253 u254 u255 u256 u257 u258 u259 u260 u261 u262 u263 u264 u265 u266 u267 u268 u269 u270 u271 u272 u273 u274 u275 u276 u277 u278 u279 u280 u281 u282 u283 u284 u285 u286 u287 u288 u289 u290 u291 u292 u293 u294 u295 u296 u297 u298 u299 u300 u301 u302 u303 u304 u305 u306 u307 u308 u309 u310 u311 u312 u313 u314 u315 u316 u317 u318 u319 u320 u321 u322 u323 u324 u325 u326 u327 u328 u329 u330 u331 u332 u333 u334 u335 u336 u337 u338 u339 u340 u341 u342 u343 u344 u345 u346 u347 u348 u349 u350 u351 u352 u353 u354 u355 u356 u357 u358 u359 u360 u361 u362 u363 u364 u365 u366 u367 u368 u369 u370 u371 u372 u373 u374 u375 u376 u377 u378 u379 u380 u381 u382 u383 u384 u385 u386 u387 u388 u389 u390 u391 u392 u393 u394 u395 u396 u397 u398 u399 u400 u401 u402 u403 u404 u405 u406 u407 u408 u409 u410 u411 u412 u413 u414 u415 u416 u417 u418 u419 u420 u421 u422 u423 u424 u425 u426 u427 u428 u429 u430 u431 u432 u433 u434 u435 u436 u437 u438 u439 u440 u441 u442 u443 u444 u445 u446 u447 u448 u449 u450 : Value}, W.heap[T]? = some (.cells (tzr d0 vv0 .nilIface dp0 ix0 ik nk (.slice (some ad) m c) sp fl) 118 (0, 0)) → Sl W B (.slice (some ad) m c) (zs.drop nb) → Stk W B sp l → TK TokT B w W → Code.wp Tryd.prog (nextCode 7) (Exit.noGoto (bodyPost Tryd.prog Tryd.f54 Post)) ⟨#[.pointer (some ⟨T, 0, none⟩), u1, u2, u3, u4, u5, .int .u64 0, u7, u8, u9, u10, u11, u12, u13, u14, u15, u16, u17, u18, u19, u20, u21, u22, u23, u24, u25, u26, u27, u28, u29, u30, u31, u32, u33, u34, u35, u36, u37, u38, u39, u40, u41, u42, u43, u44, u45, u46, u47, u48, u49, u50, u51, u52, u53, u54, u55, u56, u57, u58, u59, u60, u61, u62, u63, u64, u65, u66, u67, u68, u69, u70, u71, u72, u73, u74, u75, u76, u77, u78, u79, u80, u81, u82, u83, u84, u85, u86, u87, u88, u89, u90, u91, u92, u93, u94, u95, u96, u97, u98, u99, u100, u101, u102, u103, u104, u105, u106, u107, u108, u109, u110, u111, u112, u113, u114, u115, u116, u117, u118, u119, u120, u121, u122, u123, u124, u125, u126, u127, u128, u129, u130, u131, u132, u133, u134, u135, u136, u137, u138, u139, u140, u141, u142, u143, u144, u145, u146, u147, u148, u149, u150, u151, u152, u153, u154, u155, u156, u157, u158, u159, u160, u161, u162, u163, u164, u165, u166, u167, u168, u169, u170, u171, u172, u173, u174, u175, u176, u177, u178, u179, u180, u181, u182, u183, u184, u185, u186, u187, u188, u189, u190, u191, u192, u193, u194, u195, u196, u197, u198, u199, u200, u201, u202, u203, u204, u205, u206, u207, u208, u209, u210, u211, u212, u213, u214, u215, u216, u217, u218, u219, u220, u221, u222, u223, u224, u225, u226, u227, u228, u229, u230, u231, u232, u233, u234, u235, u236, u237, u238, u239, u240, u241, u242, u243, u244, u245, u246, u247, u248, u249, u250, u251, u252, u253, u254, u255, u256, u257, u258, u259, u260, u261, u262, u263, u264, u265, u266, u267, u268, u269, u270, u271, u272, u273, u274, u275, u276, u277, u278, u279, u280, u281, u282, u283, u284, u285, u286, u287, u288, u289, u290, u291, u292, u293, u294, u295, u296, u297, u298, u299, u300, u301, u302, u303, u304, u305, u306, u307, u308, u309, u310, u311, u312, u313, u314, u315, u316, u317, u318, u319, u320, u321, u322, u323, u324, u325, u326, u327, u328, u329, u330, u331, u332, u333, u334, u335, u336, u337, u338, u339, u340, u341, u342, u343, u344, u345, u346, u347, u348, u349, u350, u351, u352, u353, u354, u355, u356, u357, u358, u359, u360, u361, u362, u363, u364, u365, u366, u367, u368, u369, u370, u371, u372, u373, u374, u375, u376, u377, u378, u379, u380, u381, u382, u383, u384, u385, u386, u387, u388, u389, u390, u391, u392, u393, u394, u395, u396, u397, u398, u399, u400, u401, u402, u403, u404, u405, u406, u407, u408, u409, u410, u411, u412, u413, u414, u415, u416, u417, u418, u419, u420, u421, u422, u423, u424, u425, u426, u427, u428, u429, u430, u431, u432, u433, u434, u435, u436, u437, u438, u439, u440, u441, u442, u443, u444, u445, u446, u447, u448, u449, u450], []⟩ W)) {u1 u2 u4 u5 u6 u7 u8 u9 u10 u11 u12 u13 u14 u15 u16 u17 u18 u19 u20 u21 u22 u23 u24 u25 u26 u27 u28 u29 u30 u31 u32 u33 u34 u35 u36 u37 u38 u39 u40 u41 u42 u43 u44 u45 u46 u47 u48 u49 u50 u51 u52 u53 u54 u55 u56 u57 u58 u59 u60 u61 u62 u63 u64 u65 u66 u67 u68 u69 u70 u71 u72 u73 u74 u75 u76 u77 u78 u79 u80 u81 u82 u83 u84 u85 u86 u87 u88 u89 u90 u91 u92 u93 u94 u95 u96 u97 u98 u99 u100 u101 u102 u103 u104 u105 u106 u107 u108 u109 u110 u111 u112 u113 u114 u115 u116 u117 u118 u119 u120 u121 u122 u123 u124 u125 u126 u127 u128 u129 u130 u131 u132 u133 u134 u135 u136 u137 u138 u139 u140 u141 u142 u143 u144 u145 u146 u147 u148 u149 u150 u151 u152 u153 u154 u155 u156 u157 u158 u159 u160 u161 u162 u163 u164 u165 u166 u167 u168 u169 u170 u171 u172 u173 u174 u175 u176 u177 u178 u179 u180 u181 u182 u183 u184 u185 u186 u187 u188 u189 u190 u191 u192 u193 u194 u195 u196 u197 u198 u199 u200 u201 u202 u203 u204 u205 u206 u207 u208 u209 u210 u211 u212 u213 u214 u215 u216 u217 u218 u219 u220 u221 u222 u223 u224 u225 u226 u227 u228 u229 u230 u231 u232 u233 u234 u235 u236 u237 u238 u239 u240 u241 u242 u243 u244 u245 u246 u247 u248 u249 u250 u251 u252 u253 u254 u255 u256 u257 u258 u259 u260 u261 u262 u263 u264 u265 u266 u267 u268 u269 u270 u271 u272 u273 u274 u275 u276 u277 u278 u279 u280 u281 u282 u283 u284 u285 u286 u287 u288 u289 u290 u291 u292 u293 u294 u295 u296 u297 u298 u299 u300 u301 u302 u303 u304 u305 u306 u307 u308 u309 u310 u311 u312 u313 u314 u315 u316 u317 u318 u319 u320 u321 u322 u323 u324 u325 u326 u327 u328 u329 u330 u331 u332 u333 u334 u335 u336 u337 u338 u339 u340 u341 u342 u343 u344 u345 u346 u347 u348 u349 u350 u351 u352 u353 u354 u355 u356 u357 u358 u359 u360 u361 u362 u363 u364 u365 u366 u367 u368 u369 u370 u371 u372 u373 u374 u375 u376 u377 u378 u379 u380 u381 u382 u383 u384 u385 u386 u387 u388 u389 u390 u391 u392 u393 u394 u395 u396 u397 u398 u399 u400 u401 u402 u403 u404 u405 u406 u407 u408 u409 u410 u411 u412 u413 u414 u415 u416 u417 u418 u419 u420 u421 u422 u423 u424 u425 u426 u427 u428 u429 u430 u431 u432 u433 u434 u435 u436 u437 u438 u439 u440 u441 u442 u443 u444 u445 u446 u447 u448 u449 u450 : Value} :
    Code.wp Tryd.prog (nextCode 4) (Exit.noGoto (bodyPost Tryd.prog Tryd.f54 Post)) ⟨#[.pointer (some ⟨T, 0, none⟩), u1, u2, .int .i64 (nb : Int), u4, u5, u6, u7, u8, u9, u10, u11, u12, u13, u14, u15, u16, u17, u18, u19, u20, u21, u22, u23, u24, u25, u26, u27, u28, u29, u30, u31, u32, u33, u34, u35, u36, u37, u38, u39, u40, u41, u42, u43, u44, u45, u46, u47, u48, u49, u50, u51, u52, u53, u54, u55, u56, u57, u58, u59, u60, u61, u62, u63, u64, u65, u66, u67, u68, u69, u70, u71, u72, u73, u74, u75, u76, u77, u78, u79, u80, u81, u82, u83, u84, u85, u86, u87, u88, u89, u90, u91, u92, u93, u94, u95, u96, u97, u98, u99, u100, u101, u102, u103, u104, u105, u106, u107, u108, u109, u110, u111, u112, u113, u114, u115, u116, u117, u118, u119, u120, u121, u122, u123, u124, u125, u126, u127, u128, u129, u130, u131, u132, u133, u134, u135, u136, u137, u138, u139, u140, u141, u142, u143, u144, u145, u146, u147, u148, u149, u150, u151, u152, u153, u154, u155, u156, u157, u158, u159, u160, u161, u162, u163, u164, u165, u166, u167, u168, u169, u170, u171, u172, u173, u174, u175, u176, u177, u178, u179, u180, u181, u182, u183, u184, u185, u186, u187, u188, u189, u190, u191, u192, u193, u194, u195, u196, u197, u198, u199, u200, u201, u202, u203, u204, u205, u206, u207, u208, u209, u210, u211, u212, u213, u214, u215, u216, u217, u218, u219, u220, u221, u222, u223, u224, u225, u226, u227, u228, u229, u230, u231, u232, u233, u234, u235, u236, u237, u238, u239, u240, u241, u242, u243, u244, u245, u246, u247, u248, u249, u250, u251, u252, u253, u254, u255, u256, u257, u258, u259, u260, u261, u262, u263, u264, u265, u266, u267, u268, u269, u270, u271, u272, u273, u274, u275, u276, u277, u278, u279, u280, u281, u282, u283, u284, u285, u286, u287, u288, u289, u290, u291, u292, u293, u294, u295, u296, u297, u298, u299, u300, u301, u302, u303, u304, u305, u306, u307, u308, u309, u310, u311, u312, u313, u314, u315, u316, u317, u318, u319, u320, u321, u322, u323, u324, u325, u326, u327, u328, u329, u330, u331, u332, u333, u334, u335, u336, u337, u338, u339, u340, u341, u342, u343, u344, u345, u346, u347, u348, u349, u350, u351, u352, u353, u354, u355, u356, u357, u358, u359, u360, u361, u362, u363, u364, u365, u366, u367, u368, u369, u370, u371, u372, u373, u374, u375, u376, u377, u378, u379, u380, u381, u382, u383, u384, u385, u386, u387, u388, u389, u390, u391, u392, u393, u394, u395, u396, u397, u398, u399, u400, u401, u402, u403, u404, u405, u406, u407, u408, u409, u410, u411, u412, u413, u414, u415, u416, u417, u418, u419, u420, u421, u422, u423, u424, u425, u426, u427, u428, u429, u430, u431, u432, u433, u434, u435, u436, u437, u438, u439, u440, u441, u442, u443, u444, u445, u446, u447, u448, u449, u450], []⟩ w1 := by
  conv => arg 2; whnf
  have hml := HJ.out.len.1
  have hmx : m ≤ 9223372036854775807 := by rw [hml]; exact HJ.out.cut.2.2.1.2.1
  have hnm : nb < m := by omega
  refine wp_seam (fun K1 hK1 => ?_)
  by_cases h0 : nb = 0
  · subst h0
    have HJ0 := Aside0.mk (show Sl w1 B (.slice A m c) (zs.drop 0) from HJ.out)
    obtain ⟨ad, rfl, -, -⟩ := HJ.out.at_ 0 hnm
    have k7 := (tzr_cell HT.out 7).trans (show _ = some (Value.slice (some ad) m c) from rfl)
    have hz : ((m : Int) == 0) = false := by rw [beq_eq_false_iff_ne]; omega
    clear hml hnb
    go_wp2_with fail
    refine ⟨wp_seam (fun K2 hK2 => ?_)⟩
    go_wp2_with fail
    refine ⟨wp_seam (fun K3 hK3 => ?_)⟩
    go_wp2_with fail
    exact ⟨hgo.out w1 ad m c HT.out HJ0.out HS.out HK.out⟩
  · have hpos : (0 : Int) < (nb : Int) := by omega
    obtain ⟨A', hcut, hd⟩ := HJ.out.next 22 nb .i64 Tryd.underlying22 (by omega)
    obtain ⟨ad', rfl, -, -⟩ := hd.at_ 0 (by omega)
    have HD := Aside0.mk hd
    have k7 := (tzr_cell HT.out 7).trans (show _ = some (Value.slice A m c) from rfl)
    have hd0 : decide (0 < nb) = true := by simpa using Nat.pos_of_ne_zero h0
    clear hml hnb h0 hd
    go_wp2_with ((with_reducible refine gate_st rfl ?_); refine store_any _ _ _ rfl rfl rfl HT.out rfl (by simp [tzr]) rfl rfl rfl (by kernel_rfl) ?_; intro W1 hb1 hk1 hg1; have HS1 := Aside0.mk (HS.out.put HT.out hk1); have HD1 := Aside0.mk (HD.out.below (hg1.mono HB.out)); have HK1 := Aside0.mk (HK.out.trans (TK.put HT.out (.inl rfl) HB.out hk1 hg1)); have HT1 := Aside0.mk (show W1.heap[T]? = some (.cells (tzr d0 vv0 .nilIface dp0 ix0 ik nk (.slice (some ad') (m - nb) (c - nb)) sp fl) 118 (0, 0)) from hb1); clear hb1 hk1 hg1)
    refine ⟨wp_seam (fun K2 hK2 => ?_)⟩
    clear k7
    have k7 := (tzr_cell HT1.out 7).trans (show _ = some (Value.slice (some ad') (m - nb) (c - nb)) from rfl)
    obtain ⟨m2, hm2⟩ : ∃ m2, m2 = m - nb := ⟨_, rfl⟩
    have HM2 := Aside0.mk hm2
    have hz : ((m2 : Int) == 0) = false := by rw [beq_eq_false_iff_ne]; omega
    rw [← hm2] at k7
    clear hm2
    go_wp2_with fail
    refine ⟨wp_seam (fun K3 hK3 => ?_)⟩
    go_wp2_with fail
    exact ⟨hgo.out W1 ad' (m - nb) (c - nb) HT1.out HD1.out HS1.out HK1.out⟩
set_option maxHeartbeats 4000000 in
set_option maxRecDepth 100000 in
theorem nx_front (w : World) (B T : Nat) (d0 dp0 ix0 : Int) (ik nk : Bool) (vv0 sp : Value) (fl : Int) (zs : List Int) (nb : Nat) (l : List (Bool × Int)) (Post : Ending → World → Prop) (js : Value) (hnb : nb < zs.length) (hsp : ∀ i, i < nb → isSp (zs.getD i 0) = true) (hns : isSp (zs.getD nb 0) = false) (hB : B ≤ T) (hT : w.heap[T]? = some (.cells (tzr d0 vv0 .nilIface dp0 ix0 ik nk js sp fl) 118 (0, 0))) (hJ : Sl w B js zs) (hS : Stk w B sp l) (hgo : Aside0 (∀ (W : World) (ad : Addr) (m c : Nat) {u1 u2 u3 u4 u5 u7 u8 u9 u10 u11 u12 u13 u14 u15 u16 u17 u18 u19 u20 u21 u22 u23 u24 u25 u26 u27 u28 u29 u30 u31 u32 u33 u34 u35 u36 u37 u38 u39 u40 u41 u42 u43 u44 u45 u46 u47 u48 u49 u50 u51 u52 u53 u54 u55 u56 u57 u58 u59 u60 u61 u62 u63 u64 u65 u66 u67 u68 u69 u70 u71 u72 u73 u74 u75 u76 u77 u78 u79 u80 u81 u82 u83 u84 u85 u86 u87 u88 u89 u90 u91 u92 u93 u94 u95 u96 u97 u98 u99 u100 u101 u102 u103 u104 u105 u106 u107 u108 u109 u110 u111 u112 u113 u114 u115 u116 u117 u118 u119 u120 u121 u122 u123 u124 u125 u126 u127 u128 u129 u130 u131 u132 u133 u134 u135 u136 u137 u138 u139 u140 u141 u142 u143 u144 u145 u146 u147 u148 u149 u150 u151 u152 u153 u154 u155 u156 u157 u158 u159 u160 u161 u162 u163 u164 u165 u166 u167 u168 u169 u170 u171 u172 u173 u174 u175 u176 u177 u178 u179 u180 u181 u182 u183 u184 u185 u186 u187 u188 u189 u190 u191 u192 u193 u194 u195 u196 u197 u198 u199 u200 u201 u202 u203 u204 u205 u206 u207 u208 u209 u210 u211 u212 u213 u214 u215 u216 u217 u218 u219 u220 u221 u222 u223 u224 u225 u226 u227 u228 u229 u230 u231 u232 u233 u234 u235 u236 u237 u238 u239 u240 u241 u242 u243 u244 u245 u246 u247 u248 u249 u250 u251 u252 u253 u254 u255 u256 u257 u258 u259 u260 u261 u262 u263 u264 u265 u266 u267 u268 u269 u270 u271 u272 u273 u274 u275 u276 u277 u278 u279 u280 u281 u282 u283 u284 u285 u286 u287 u288 u289 u290 u291 u292 u293 u294 u295 u296 u297 u298 u299 u300 u301 u302 u303 u304 u305 u306 u307 u308 u309 u310 u311 u312 u313 u314 u315 u316 u317 u318 u319 u320 u321 u322 u323 u324 u325 u326 u327 u328 u329 u330 u331 u332 u333 u334 u335 u336 u337 u338 u339 u340 u341 u342 u343 u344 u345 u346 u347 u348 u349 u350 u351 u352 u353 u354 u355 u356 u357 u358 u359 u360 u361 u362 u363 u364 u365 u366 u367 u368 u369 u370 u371 u372 u373 u374 u375 u376 u377 u378 u379 u380 u381 u382 u383 u384 u385 u386 u387 u388 u389 u390 u391 u392 u393 u394 u395 u396 u397 u398 u399 u400 u401 u402 u403 u404 u405 u406 u407 u408 u409 u410 u411 u412 u413 u414 u415 u416 u417 u418 u419 u420 u421 u422 u423 u424 u425 u426 u427 u428 u429 u430 u431 u432 u433 u434 u435 u436 u437 u438 u439 u440 u441 u442 u443 u444 u445 u446 u447 u448 u449 u450 : Value}, W.heap[T]? = some (.cells (tzr d0 vv0 .nilIface dp0 ix0 ik nk (.slice (some ad) m c) sp fl) 118 (0, 0)) → Sl W B (.slice (some ad) m c) (zs.drop nb) → Stk W B sp l → TK TokT B w W → Code.wp Tryd.prog (nextCode 7) (Exit.noGoto (bodyPost Tryd.prog Tryd.f54 Post)) ⟨#[.pointer (some ⟨T, 0, none⟩), u1, u2, u3, u4, u5, .int .u64 0, u7, u8, u9, u10, u11, u12, u13, u14, u15, u16, u17, u18, u19, u20, u21, u22, u23, u24, u25, u26, u27, u28, u29, u30, u31, u32, u33, u34, u35, u36, u37, u38, u39, u40, u41, u42, u43, u44, u45, u46, u47, u48, u49, u50, u51, u52, u53, u54, u55, u56, u57, u58, u59, u60, u61, u62, u63, u64, u65, u66, u67, u68, u69, u70, u71, u72, u73, u74, u75, u76, u77, u78, u79, u80, u81, u82, u83, u84, u85, u86, u87, u88, u89, u90, u91, u92, u93, u94, u95, u96, u97, u98, u99, u100, u101, u102, u103, u104, u105, u106, u107, u108, u109, u110, u111, u112, u113, u114, u115, u116, u117, u118, u119, u120, u121, u122, u123, u124, u125, u126, u127, u128, u129, u130, u131, u132, u133, u134, u135, u136, u137, u138, u139, u140, u141, u142, u143, u144, u145, u146, u147, u148, u149, u150, u151, u152, u153, u154, u155, u156, u157, u158, u159, u160, u161, u162, u163, u164, u165, u166, u167, u168, u169, u170, u171, u172, u173, u174, u175, u176, u177, u178, u179, u180, u181, u182, u183, u184, u185, u186, u187, u188, u189, u190, u191, u192, u193, u194, u195, u196, u197, u198, u199, u200, u201, u202, u203, u204, u205, u206, u207, u208, u209, u210, u211, u212, u213, u214, u215, u216, u217, u218, u219, u220, u221, u222, u223, u224, u225, u226, u227, u228, u229, u230, u231, u232, u233, u234, u235, u236, u237, u238, u239, u240, u241, u242, u243, u244, u245, u246, u247, u248, u249, u250, u251, u252, u253, u254, u255, u256, u257, u258, u259, u260, u261, u262, u263, u264, u265, u266, u267, u268, u269, u270, u271, u272, u273, u274, u275, u276, u277, u278, u279, u280, u281, u282, u283, u284, u285, u286, u287, u288, u289, u290, u291, u292, u293, u294, u295, u296, u297, u298, u299, u300, u301, u302, u303, u304, u305, u306, u307, u308, u309, u310, u311, u312, u313, u314, u315, u316, u317, u318, u319, u320, u321, u322, u323, u324, u325, u326, u327, u328, u329, u330, u331, u332, u333, u334, u335, u336, u337, u338, u339, u340, u341, u342, u343, u344, u345, u346, u347, u348, u349, u350, u351, u352, u353, u354, u355, u356, u357, u358, u359, u360, u361, u362, u363, u364, u365, u366, u367, u368, u369, u370, u371, u372, u373, u374, u375, u376, u377, u378, u379, u380, u381, u382, u383, u384, u385, u386, u387, u388, u389, u390, u391, u392, u393, u394, u395, u396, u397, u398, u399, u400, u401, u402, u403, u404, u405, u406, u407, u408, u409, u410, u411, u412, u413, u414, u415, u416, u417, u418, u419, u420, u421, u422, u423, u424, u425, u426, u427, u428, u429, u430, u431, u432, u433, u434, u435, u436, u437, u438, u439, u440, u441, u442, u443, u444, u445, u446, u447, u448, u449, u450], []⟩ W)) :
    Calls Tryd.prog 54 #[.pointer (some ⟨T, 0, none⟩)] w Post := by
  obtain ⟨A, c, rfl, hlc⟩ := hJ.form
  have k2 := (tzr_cell hT 2).trans (show _ = some Value.nilIface from rfl)
  have k7 := (tzr_cell hT 7).trans (show _ = some (Value.slice A zs.length c) from rfl)
  have hmx : zs.length ≤ 9223372036854775807 := hJ.cut.2.2.1.2.1
  have HB := Aside0.mk hB
  have HT := Aside0.mk hT
  have HJ := Aside0.mk hJ
  have HS := Aside0.mk hS
  have HSP := Aside0.mk (And.intro hsp hns)
  obtain ⟨m, hm⟩ : ∃ m, m = zs.length := ⟨_, rfl⟩
  rw [← hm] at k7 hmx hlc HT HJ
  have HM := Aside0.mk hm
  have HNB := Aside0.mk (show nb < m by omega)
  clear hB hT hJ hS hsp hns hm hnb hlc
  go_enter Tryd.func54, Tryd.ntmps54
  refine wp_seam (fun K0 hK0 => ?_)
  go_wp2_with fail
  refine ⟨wp_scope_straight ?_⟩
  refine wp_seam (fun K1 hK1 => ?_)
  go_wp2_with fail
  refine ⟨wp_seam (fun K2 hK2 => ?_)⟩
  go_wp2_with fail
  refine ⟨wp_seam (fun K3 hK3 => ?_)⟩
  refine wp_label ?_
  refine hK3 _ _ ⟨wp_seam (fun K4 hK4 => ?_)⟩
  go_upto_region 5 with (fail)
  go_loopg [3, 17] nb (fun g v3 v17 w' => ∃ j : Nat, v3 = .int .i64 (j : Int) ∧ v17 = .int .i64 (j : Int) ∧ Aside0 (j + g = nb) ∧ w = w')
  case atStart => exact ⟨0, rfl, rfl, ⟨by omega⟩, rfl⟩
  case round =>
    obtain ⟨j, rfl, rfl, HJJ, rfl⟩ := hrel
    have hjm : j < m := by have := HNB.out; have := HJJ.out; omega
    have dlt : decide (j < m) = true := by simpa using hjm
    obtain ⟨ad, rfl, c2, -⟩ := HJ.out.at_ j hjm
    cases gk with
    | zero =>
      obtain rfl : j = nb := by have := HJJ.out; omega
      obtain ⟨ch, hch⟩ : ∃ ch, ch = zs.getD j 0 := ⟨_, rfl⟩
      rw [← hch] at c2
      have hs := HSP.out.2
      rw [← hch] at hs
      have hnot : ¬ ch = 32 ∧ ¬ ch = 9 ∧ ¬ ch = 10 ∧ ¬ ch = 13 := by simpa [isSp, and_assoc] using hs
      obtain ⟨n1, n2, n3, n4⟩ := hnot
      clear hch hs k2 k7
      go_wp2_with fail
      exact ⟨nx4 _ _ B T d0 dp0 ix0 ik nk vv0 sp fl zs j l Post _ m c (by rw [← HM.out]; exact HNB.out) HB HT HJ HS ⟨TK.refl _ _ _⟩ hgo⟩
    | succ k1 =>
      have hs := HSP.out.1 j (by have := HJJ.out; omega)
      have hor : zs.getD j 0 = 32 ∨ zs.getD j 0 = 9 ∨ zs.getD j 0 = 10 ∨ zs.getD j 0 = 13 := by simpa [isSp, or_assoc] using hs
      obtain ⟨ch, hch⟩ : ∃ ch, ch = zs.getD j 0 := ⟨_, rfl⟩
      rw [← hch] at c2 hor
      clear hch hs k2 k7
      rcases hor with rfl | rfl | rfl | rfl
      all_goals
        go_wp2_with fail
        go_roundg k1
        case measure => omega
        case rel => exact ⟨j + 1, by go_num, by go_num, ⟨by have := HJJ.out; omega⟩, rfl⟩
end Go.Proofs.YtekmminmgjoabaaDoor.Js

