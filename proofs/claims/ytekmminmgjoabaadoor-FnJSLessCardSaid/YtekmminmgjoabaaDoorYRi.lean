/- Written by nx2.py: the end of a tokenizer's step, at a comma. Written by nx3.py: a tokenizer's step from its depth on. Written by nx4.py: a plain token is parsed. -/
import Derived.Test.YtekmminmgjoabaaDoorYRh
namespace Go.Proofs.YtekmminmgjoabaaDoor.Js
open Go.RowKit Go.Proofs.YtekmminmgjoabaaDoorW.PrintWords Go.Proofs.YtekmminmgjoabaaDoorW.PrintLast Go.Proofs.YtekmminmgjoabaaDoorW.PrintMore Go.Proofs.YtekmminmgjoabaaDoor.PFnJSTokens
set_option linter.unusedVariables false
set_option linter.unusedSimpArgs false
theorem flat_set (o : Bool) (n n' : Int) (r : List (Bool × Int)) : (flat ((o, n) :: r)).set (r.length * 2 + 1) (.int .i64 n') = flat ((o, n') :: r) := by
  rw [flat, flat, List.set_append_right _ _ (by rw [flat_len]; omega), flat_len, show r.length * 2 + 1 - r.length * 2 = 1 by omega]
  rfl
set_option maxHeartbeats 4000000 in
set_option maxRecDepth 100000 in
theorem nx11_comma_false (w w1 : World) (B T : Nat) (dp ix : Int) (ik nk : Bool) (vv js sp : Value) (p q : Bool) (K : Int) (v r : List Int) (n : Int) (l : List (Bool × Int)) (HB : Aside0 (B ≤ T)) (HT : Aside0 (w1.heap[T]? = some (.cells (tzr 44 vv .nilIface dp ix ik nk js sp (flK p q K)) 118 (0, 0)))) (HV : Aside0 (Sl w1 B vv v)) (HJ : Aside0 (Sl w1 B js r)) (HS : Aside0 (Stk w1 B sp ((false, n) :: l))) (HK : Aside0 (TK TokT B w w1)) (HL : Aside0 (StOk ((false, n) :: l) r.length)) {u1 u2 u3 u4 u5 u6 u7 u8 u9 u10 u11 u12 u13 u14 u15 u16 u17 u18 u19 u20 u21 u22 u23 u24 u25 u26 u27 u28 u29 u30 u31 u32 u33 u34 u35 u36 u37 u38 u39 u40 u41 u42 u43 u44 u45 u46 u47 u48 u49 u50 u51 u52 u53 u54 u55 u56 u57 u58 u59 u60 u61 u62 u63 u64 u65 u66 u67 u68 u69 u70 u71 u72 u73 u74 u75 u76 u77 u78 u79 u80 u81 u82 u83 u84 u85 u86 u87 u88 u89 u90 u91 u92 u93 u94 u95 u96 u97 u98 u99 u100 u101 u102 u103 u104 u105 u106 u107 u108 u109 u110 u111 u112 u113 u114 u115 u116 u117 u118 u119 u120 u121 u122 u123 u124 u125 u126 u127 u128 u129 u130 u131 u132 u133 u134 u135 u136 u137 u138 u139 u140 u141 u142 u143 u144 u145 u146 u147 u148 u149 u150 u151 u152 u153 u154 u155 u156 u157 u158 u159 u160 u161 u162 u163 u164 u165 u166 u167 u168 u169 u170 u171 u172 u173 u174 u175 u176 u177 u178 u179 u180 u181 u182 u183 u184 u185 u186 u187 u188 u189 u190 u191 u192 u193 u194 u195 u196 u197 u198 u199 u200 u201 u202 u203 u204 u205 u206 u207 u208 u209 u210 u211 u212 u213 u214 u215 u216 u217 u218 u219 u220 u221 u222 u223 u224 u225 u226 u227 u228 u229 u230 u231 u232 u233 u234 u235 u236 u237 u238 u239 u240 u241 u242 u243 u244 u245 u246 u247 u248 u249 u250 u251 u252 u253 u254 u255 u256 u257 u258 u259 u260 u261 u262 u263 u264 u265 u266 u267 u268 u269 u270 u271 u272 u273 u274 u275 u276 u277 u278 u279 u280 u281 u282 u283 u284 u285 u286 u287 u288 u289 u290 u291 u292 u293 u294 u295 u296 u297 u298 u299 u300 u301 u302 u303 u304 u305 u306 u307 u308 u309 u310 u311 u312 u313 u314 u315 u316 u317 u318 u319 u320 u321 u322 u323 u324 u325 u326 u327 u328 u329 u330 u331 u332 u333 u334 u335 u336 u337 u338 u339 u340 u341 u342 u343 u344 u345 u346 u347 u348 u349 u350 u351 u352 u353 u354 u355 u356 u357 u358 u359 u360 u361 u362 u363 u364 u365 u366 u367 u368 u369 u370 u371 u372 u373 u374 u375 u376 u377 u378 u379 u380 u381 u382 u383 u384 u385 u386 u387 u388 u389 u390 u391 u392 u393 u394 u395 u396 u397 u398 u399 u400 u401 u402 u403 u404 u405 u406 u407 u408 u409 u410 u411 u412 u413 u414 u415 u416 u417 u418 u419 u420 u421 u422 u423 u424 u425 u426 u427 u428 u429 u430 u431 u432 u433 u434 u435 u436 u437 u438 u439 u440 u441 u442 u443 u444 u445 u446 u447 u448 u449 u450 : Value} :
    Code.wp Tryd.prog (nextCode 11) (Exit.noGoto (bodyPost Tryd.prog Tryd.f54 (StepPost w B T 44 dp ix false nk v r ((false, n + 1) :: l) p q K))) ⟨#[.pointer (some ⟨T, 0, none⟩), u1, u2, u3, u4, u5, u6, u7, u8, u9, u10, u11, u12, u13, u14, u15, u16, u17, u18, u19, u20, u21, u22, u23, u24, u25, u26, u27, u28, u29, u30, u31, u32, u33, u34, u35, u36, u37, u38, u39, u40, u41, u42, u43, u44, u45, u46, u47, u48, u49, u50, u51, u52, u53, u54, u55, u56, u57, u58, u59, u60, u61, u62, u63, u64, u65, u66, u67, u68, u69, u70, u71, u72, u73, u74, u75, u76, u77, u78, u79, u80, u81, u82, u83, u84, u85, u86, u87, u88, u89, u90, u91, u92, u93, u94, u95, u96, u97, u98, u99, u100, u101, u102, u103, u104, u105, u106, u107, u108, u109, u110, u111, u112, u113, u114, u115, u116, u117, u118, u119, u120, u121, u122, u123, u124, u125, u126, u127, u128, u129, u130, u131, u132, u133, u134, u135, u136, u137, u138, u139, u140, u141, u142, u143, u144, u145, u146, u147, u148, u149, u150, u151, u152, u153, u154, u155, u156, u157, u158, u159, u160, u161, u162, u163, u164, u165, u166, u167, u168, u169, u170, u171, u172, u173, u174, u175, u176, u177, u178, u179, u180, u181, u182, u183, u184, u185, u186, u187, u188, u189, u190, u191, u192, u193, u194, u195, u196, u197, u198, u199, u200, u201, u202, u203, u204, u205, u206, u207, u208, u209, u210, u211, u212, u213, u214, u215, u216, u217, u218, u219, u220, u221, u222, u223, u224, u225, u226, u227, u228, u229, u230, u231, u232, u233, u234, u235, u236, u237, u238, u239, u240, u241, u242, u243, u244, u245, u246, u247, u248, u249, u250, u251, u252, u253, u254, u255, u256, u257, u258, u259, u260, u261, u262, u263, u264, u265, u266, u267, u268, u269, u270, u271, u272, u273, u274, u275, u276, u277, u278, u279, u280, u281, u282, u283, u284, u285, u286, u287, u288, u289, u290, u291, u292, u293, u294, u295, u296, u297, u298, u299, u300, u301, u302, u303, u304, u305, u306, u307, u308, u309, u310, u311, u312, u313, u314, u315, u316, u317, u318, u319, u320, u321, u322, u323, u324, u325, u326, u327, u328, u329, u330, u331, u332, u333, u334, u335, u336, u337, u338, u339, u340, u341, u342, u343, u344, u345, u346, u347, u348, u349, u350, u351, u352, u353, u354, u355, u356, u357, u358, u359, u360, u361, u362, u363, u364, u365, u366, u367, u368, u369, u370, u371, u372, u373, u374, u375, u376, u377, u378, u379, u380, u381, u382, u383, u384, u385, u386, u387, u388, u389, u390, u391, u392, u393, u394, u395, u396, u397, u398, u399, u400, u401, u402, u403, u404, u405, u406, u407, u408, u409, u410, u411, u412, u413, u414, u415, u416, u417, u418, u419, u420, u421, u422, u423, u424, u425, u426, u427, u428, u429, u430, u431, u432, u433, u434, u435, u436, u437, u438, u439, u440, u441, u442, u443, u444, u445, u446, u447, u448, u449, u450], []⟩ w1 := by
  conv => arg 2; whnf
  have HTt := HT
  have HSt := HS
  have HVt := HV
  have HJt := HJ
  have HKt := HK
  have k0 : w1.cell? ⟨T, 0, none⟩ = some (.int .i32 44) := (tzr_cell HT.out 0).trans rfl
  have hz : ((44 : Int) == 0) = false := rfl
  refine wp_seam (fun K1 hK1 => ?_)
  go_upto_region 66 with ((with_reducible refine gate_st rfl ?_); refine store_any _ _ _ rfl rfl rfl HTt.out rfl (by simp [tzr]) rfl rfl rfl (by kernel_rfl) ?_; intro W1 hb1 hk1 hg1; have HSt := Aside0.mk (HSt.out.put HTt.out hk1); have HVt := Aside0.mk (HVt.out.below (hg1.mono HB.out)); have HJt := Aside0.mk (HJt.out.below (hg1.mono HB.out)); have HKt := Aside0.mk (HKt.out.trans (TK.put HTt.out (.inl rfl) HB.out hk1 hg1)); have HTt := Aside0.mk (show W1.heap[T]? = some (.cells (tzr 44 vv .nilIface dp ix false nk js sp (flK p q K)) 118 (0, 0)) from hb1); clear hb1 hk1 hg1)
  have k0 := (tzr_cell HTt.out 0).trans (show _ = some (Value.int .i32 44) from rfl)
  rcases HSt.out with ⟨-, hn⟩ | ⟨S, g, cap, rfl, h2, h3, h4, h5⟩
  · cases hn
  obtain ⟨m, hm⟩ : ∃ m, m = l.length := ⟨_, rfl⟩
  have HSB := Aside0.mk (And.intro h2 h3)
  have h4' := h4
  rw [List.length_cons, ← hm] at h4'
  have k8 := (tzr_cell HTt.out 8).trans (show _ = some (Value.pointer (some ⟨S, 0, none⟩)) from rfl)
  have kS : W1.cell? ⟨S, 0, none⟩ = some (.slice (some ⟨g, 0, none⟩) (m + 1) cap) := (blk_cell h4' 0).trans rfl
  have hz1 : ((m : Int) + 1 == 0) = false := by rw [beq_eq_false_iff_ne]; omega
  have hl2 : l.length ≤ 2200000000 := by have := HL.out.1; simp only [List.length_cons] at this; omega
  have hnb := HL.out.2 (false, n) List.mem_cons_self
  have hn1 : 1 ≤ n := hnb.1
  have hn2 : n ≤ 2200000001 := by have := hnb.2; omega
  have HI := Aside0.mk (sis W1 B S g cap false n l h4 h5 hl2)
  have H4 := Aside0.mk h4
  have H5 := Aside0.mk h5
  have HM := Aside0.mk hm
  have HCT := Aside0.mk (top_cells h5)
  rw [← hm] at hl2 HCT
  clear h2 h3 h4 h4' h5 hm hnb
  go_upto_region 86 with (fail)
  go_upto_region 88 with (first
    | (go_at_call 91; (with_reducible refine HI.out.mono ?_); rintro e W5 ⟨rfl, ⟨⟨n5, rfl⟩⟩⟩)
    | ((with_reducible refine gate_st rfl ?_); refine store_any _ _ _ rfl rfl rfl (blk_drewN HTt.out _) rfl (by simp [tzr]) rfl rfl rfl (by kernel_rfl) ?_; intro W6 hb1 hk1 hg1; have HT6 := Aside0.mk hb1; have HK6 := Aside0.mk hk1; have HG6 := Aside0.mk hg1; clear hb1 hk1 hg1))
  obtain ⟨W6, hW6⟩ : ∃ W6, W6 = W1.drewN n5 := ⟨_, rfl⟩
  have HT6 := Aside0.mk (show W6.heap[T]? = some (.cells (tzr 44 vv .nilIface dp ix false nk js (.pointer (some ⟨S, 0, none⟩)) (flK p q K)) 118 (0, 0)) by rw [hW6]; exact blk_drewN HTt.out n5)
  have hTK : TK TokT B w W6 := by rw [hW6]; exact HKt.out.drewN n5
  have H46 := Aside0.mk (show W6.heap[S]? = some (.cells #[.slice (some ⟨g, 0, none⟩) ((false, n) :: l).length cap] 130 (0, 0)) by rw [hW6]; exact blk_drewN H4.out n5)
  have H56 := Aside0.mk (show W6.ownsRow B 133 2 (.slice (some ⟨g, 0, none⟩) ((false, n) :: l).length cap) ((false, n) :: l).length (flat ((false, n) :: l)) by rw [hW6]; exact Row_block H5.out rfl)
  have HV6 := Aside0.mk (show Sl W6 B vv v by rw [hW6]; exact HVt.out.below (pw_below_drewN (Below.refl _ _) n5))
  have HJ6 := Aside0.mk (show Sl W6 B js r by rw [hW6]; exact HJt.out.below (pw_below_drewN (Below.refl _ _) n5))
  rw [← hW6]
  clear hW6
  have HTK6 := Aside0.mk hTK
  have ht6 := (top_cells H56.out).2
  have k8' := (tzr_cell HT6.out 8).trans (show _ = some (Value.pointer (some ⟨S, 0, none⟩)) from rfl)
  have kS' : W6.cell? ⟨S, 0, none⟩ = some (.slice (some ⟨g, 0, none⟩) (m + 1) cap) := by rw [HM.out]; exact (blk_cell H46.out 0).trans rfl
  have kf : W6.frozen? ⟨g, m * 2 + 1, none⟩ = false := H56.out.frozenAt _
  rw [← HM.out] at ht6
  clear hTK k0 k8 kS hz hz1 
  have hsum : IntKind.i64.wrap ((m : Int) + 1 - 1) = (m : Int) := by rw [IntKind.wrap_i64]; omega
  have hsum2 : IntKind.i64.wrap ((m : Int)) = (m : Int) := by rw [IntKind.wrap_i64]; omega
  have hsum3 : IntKind.i64.wrap (n + 1) = n + 1 := by rw [IntKind.wrap_i64]; omega
  have hi1 : (0 : Int) ≤ (m : Int) := by omega
  have hi2 : (m : Int) < (m : Int) + 1 := by omega
  go_region
  all_goals
    clear hsum hsum2 hsum3
    go_wp2_with fail
    obtain ⟨cu6, hcu6, -⟩ := Row_blk H56.out
    have hTg : T ≠ g := blk_ne HT6.out hcu6 (by decide)
    have hSg : S ≠ g := blk_ne H46.out hcu6 (by decide)
    have hst := (show W6.drew.ownsRow B 133 2 (.slice (some ⟨g, 0, none⟩) ((false, n) :: l).length cap) ((false, n) :: l).length (flat ((false, n) :: l)) from Row_block H56.out rfl).stored (m * 2 + 1) (.int .i64 (n + 1))
    have hTKz : TK TokT B W6.drew (W6.drew.setCell ⟨g, m * 2 + 1, none⟩ (.int .i64 (n + 1))) := TK.grown (blk_drew hcu6) (.inr (.inr rfl)) HSB.out.2 (Nat.le_trans HSB.out.1 (Nat.le_of_lt (blk_lt H46.out))) hst.2
    have hr := hst.1
    rw [HM.out, flat_set] at hr
    rw [HM.out] at hTKz ⊢
    exact ⟨nx12 w _ B T 44 dp ix false nk vv _ _ p q K v r ((false, n + 1) :: l) HB ⟨blk_far (blk_drew HT6.out) hTg _⟩ ⟨(HV6.out.below (below_drew (Below.refl _ _))).below hTKz.below⟩ ⟨(HJ6.out.below (below_drew (Below.refl _ _))).below hTKz.below⟩ ⟨.inr ⟨S, g, cap, rfl, HSB.out.1, HSB.out.2, blk_far (blk_drew H46.out) hSg _, hr⟩⟩ ⟨HTK6.out.drew.trans hTKz⟩ (.inl (by decide))⟩
set_option maxHeartbeats 4000000 in
set_option maxRecDepth 100000 in
theorem nx11_comma_true (w w1 : World) (B T : Nat) (dp ix : Int) (ik nk : Bool) (vv js sp : Value) (p q : Bool) (K : Int) (v r : List Int) (n : Int) (l : List (Bool × Int)) (HB : Aside0 (B ≤ T)) (HT : Aside0 (w1.heap[T]? = some (.cells (tzr 44 vv .nilIface dp ix ik nk js sp (flK p q K)) 118 (0, 0)))) (HV : Aside0 (Sl w1 B vv v)) (HJ : Aside0 (Sl w1 B js r)) (HS : Aside0 (Stk w1 B sp ((true, n) :: l))) (HK : Aside0 (TK TokT B w w1)) (HL : Aside0 (StOk ((true, n) :: l) r.length)) {u1 u2 u3 u4 u5 u6 u7 u8 u9 u10 u11 u12 u13 u14 u15 u16 u17 u18 u19 u20 u21 u22 u23 u24 u25 u26 u27 u28 u29 u30 u31 u32 u33 u34 u35 u36 u37 u38 u39 u40 u41 u42 u43 u44 u45 u46 u47 u48 u49 u50 u51 u52 u53 u54 u55 u56 u57 u58 u59 u60 u61 u62 u63 u64 u65 u66 u67 u68 u69 u70 u71 u72 u73 u74 u75 u76 u77 u78 u79 u80 u81 u82 u83 u84 u85 u86 u87 u88 u89 u90 u91 u92 u93 u94 u95 u96 u97 u98 u99 u100 u101 u102 u103 u104 u105 u106 u107 u108 u109 u110 u111 u112 u113 u114 u115 u116 u117 u118 u119 u120 u121 u122 u123 u124 u125 u126 u127 u128 u129 u130 u131 u132 u133 u134 u135 u136 u137 u138 u139 u140 u141 u142 u143 u144 u145 u146 u147 u148 u149 u150 u151 u152 u153 u154 u155 u156 u157 u158 u159 u160 u161 u162 u163 u164 u165 u166 u167 u168 u169 u170 u171 u172 u173 u174 u175 u176 u177 u178 u179 u180 u181 u182 u183 u184 u185 u186 u187 u188 u189 u190 u191 u192 u193 u194 u195 u196 u197 u198 u199 u200 u201 u202 u203 u204 u205 u206 u207 u208 u209 u210 u211 u212 u213 u214 u215 u216 u217 u218 u219 u220 u221 u222 u223 u224 u225 u226 u227 u228 u229 u230 u231 u232 u233 u234 u235 u236 u237 u238 u239 u240 u241 u242 u243 u244 u245 u246 u247 u248 u249 u250 u251 u252 u253 u254 u255 u256 u257 u258 u259 u260 u261 u262 u263 u264 u265 u266 u267 u268 u269 u270 u271 u272 u273 u274 u275 u276 u277 u278 u279 u280 u281 u282 u283 u284 u285 u286 u287 u288 u289 u290 u291 u292 u293 u294 u295 u296 u297 u298 u299 u300 u301 u302 u303 u304 u305 u306 u307 u308 u309 u310 u311 u312 u313 u314 u315 u316 u317 u318 u319 u320 u321 u322 u323 u324 u325 u326 u327 u328 u329 u330 u331 u332 u333 u334 u335 u336 u337 u338 u339 u340 u341 u342 u343 u344 u345 u346 u347 u348 u349 u350 u351 u352 u353 u354 u355 u356 u357 u358 u359 u360 u361 u362 u363 u364 u365 u366 u367 u368 u369 u370 u371 u372 u373 u374 u375 u376 u377 u378 u379 u380 u381 u382 u383 u384 u385 u386 u387 u388 u389 u390 u391 u392 u393 u394 u395 u396 u397 u398 u399 u400 u401 u402 u403 u404 u405 u406 u407 u408 u409 u410 u411 u412 u413 u414 u415 u416 u417 u418 u419 u420 u421 u422 u423 u424 u425 u426 u427 u428 u429 u430 u431 u432 u433 u434 u435 u436 u437 u438 u439 u440 u441 u442 u443 u444 u445 u446 u447 u448 u449 u450 : Value} :
    Code.wp Tryd.prog (nextCode 11) (Exit.noGoto (bodyPost Tryd.prog Tryd.f54 (StepPost w B T 44 dp ix false true v r ((true, n + 1) :: l) p q K))) ⟨#[.pointer (some ⟨T, 0, none⟩), u1, u2, u3, u4, u5, u6, u7, u8, u9, u10, u11, u12, u13, u14, u15, u16, u17, u18, u19, u20, u21, u22, u23, u24, u25, u26, u27, u28, u29, u30, u31, u32, u33, u34, u35, u36, u37, u38, u39, u40, u41, u42, u43, u44, u45, u46, u47, u48, u49, u50, u51, u52, u53, u54, u55, u56, u57, u58, u59, u60, u61, u62, u63, u64, u65, u66, u67, u68, u69, u70, u71, u72, u73, u74, u75, u76, u77, u78, u79, u80, u81, u82, u83, u84, u85, u86, u87, u88, u89, u90, u91, u92, u93, u94, u95, u96, u97, u98, u99, u100, u101, u102, u103, u104, u105, u106, u107, u108, u109, u110, u111, u112, u113, u114, u115, u116, u117, u118, u119, u120, u121, u122, u123, u124, u125, u126, u127, u128, u129, u130, u131, u132, u133, u134, u135, u136, u137, u138, u139, u140, u141, u142, u143, u144, u145, u146, u147, u148, u149, u150, u151, u152, u153, u154, u155, u156, u157, u158, u159, u160, u161, u162, u163, u164, u165, u166, u167, u168, u169, u170, u171, u172, u173, u174, u175, u176, u177, u178, u179, u180, u181, u182, u183, u184, u185, u186, u187, u188, u189, u190, u191, u192, u193, u194, u195, u196, u197, u198, u199, u200, u201, u202, u203, u204, u205, u206, u207, u208, u209, u210, u211, u212, u213, u214, u215, u216, u217, u218, u219, u220, u221, u222, u223, u224, u225, u226, u227, u228, u229, u230, u231, u232, u233, u234, u235, u236, u237, u238, u239, u240, u241, u242, u243, u244, u245, u246, u247, u248, u249, u250, u251, u252, u253, u254, u255, u256, u257, u258, u259, u260, u261, u262, u263, u264, u265, u266, u267, u268, u269, u270, u271, u272, u273, u274, u275, u276, u277, u278, u279, u280, u281, u282, u283, u284, u285, u286, u287, u288, u289, u290, u291, u292, u293, u294, u295, u296, u297, u298, u299, u300, u301, u302, u303, u304, u305, u306, u307, u308, u309, u310, u311, u312, u313, u314, u315, u316, u317, u318, u319, u320, u321, u322, u323, u324, u325, u326, u327, u328, u329, u330, u331, u332, u333, u334, u335, u336, u337, u338, u339, u340, u341, u342, u343, u344, u345, u346, u347, u348, u349, u350, u351, u352, u353, u354, u355, u356, u357, u358, u359, u360, u361, u362, u363, u364, u365, u366, u367, u368, u369, u370, u371, u372, u373, u374, u375, u376, u377, u378, u379, u380, u381, u382, u383, u384, u385, u386, u387, u388, u389, u390, u391, u392, u393, u394, u395, u396, u397, u398, u399, u400, u401, u402, u403, u404, u405, u406, u407, u408, u409, u410, u411, u412, u413, u414, u415, u416, u417, u418, u419, u420, u421, u422, u423, u424, u425, u426, u427, u428, u429, u430, u431, u432, u433, u434, u435, u436, u437, u438, u439, u440, u441, u442, u443, u444, u445, u446, u447, u448, u449, u450], []⟩ w1 := by
  conv => arg 2; whnf
  have HTt := HT
  have HSt := HS
  have HVt := HV
  have HJt := HJ
  have HKt := HK
  have k0 : w1.cell? ⟨T, 0, none⟩ = some (.int .i32 44) := (tzr_cell HT.out 0).trans rfl
  have hz : ((44 : Int) == 0) = false := rfl
  refine wp_seam (fun K1 hK1 => ?_)
  go_upto_region 66 with ((with_reducible refine gate_st rfl ?_); refine store_any _ _ _ rfl rfl rfl HTt.out rfl (by simp [tzr]) rfl rfl rfl (by kernel_rfl) ?_; intro W1 hb1 hk1 hg1; have HSt := Aside0.mk (HSt.out.put HTt.out hk1); have HVt := Aside0.mk (HVt.out.below (hg1.mono HB.out)); have HJt := Aside0.mk (HJt.out.below (hg1.mono HB.out)); have HKt := Aside0.mk (HKt.out.trans (TK.put HTt.out (.inl rfl) HB.out hk1 hg1)); have HTt := Aside0.mk (show W1.heap[T]? = some (.cells (tzr 44 vv .nilIface dp ix false nk js sp (flK p q K)) 118 (0, 0)) from hb1); clear hb1 hk1 hg1)
  have k0 := (tzr_cell HTt.out 0).trans (show _ = some (Value.int .i32 44) from rfl)
  rcases HSt.out with ⟨-, hn⟩ | ⟨S, g, cap, rfl, h2, h3, h4, h5⟩
  · cases hn
  obtain ⟨m, hm⟩ : ∃ m, m = l.length := ⟨_, rfl⟩
  have HSB := Aside0.mk (And.intro h2 h3)
  have h4' := h4
  rw [List.length_cons, ← hm] at h4'
  have k8 := (tzr_cell HTt.out 8).trans (show _ = some (Value.pointer (some ⟨S, 0, none⟩)) from rfl)
  have kS : W1.cell? ⟨S, 0, none⟩ = some (.slice (some ⟨g, 0, none⟩) (m + 1) cap) := (blk_cell h4' 0).trans rfl
  have hz1 : ((m : Int) + 1 == 0) = false := by rw [beq_eq_false_iff_ne]; omega
  have hl2 : l.length ≤ 2200000000 := by have := HL.out.1; simp only [List.length_cons] at this; omega
  have hnb := HL.out.2 (true, n) List.mem_cons_self
  have hn1 : 1 ≤ n := hnb.1
  have hn2 : n ≤ 2200000001 := by have := hnb.2; omega
  have HI := Aside0.mk (sis W1 B S g cap true n l h4 h5 hl2)
  have H4 := Aside0.mk h4
  have H5 := Aside0.mk h5
  have HM := Aside0.mk hm
  have HCT := Aside0.mk (top_cells h5)
  rw [← hm] at hl2 HCT
  clear h2 h3 h4 h4' h5 hm hnb
  go_upto_region 86 with (fail)
  go_upto_region 88 with (first
    | (go_at_call 91; (with_reducible refine HI.out.mono ?_); rintro e W5 ⟨rfl, ⟨⟨n5, rfl⟩⟩⟩)
    | ((with_reducible refine gate_st rfl ?_); refine store_any _ _ _ rfl rfl rfl (blk_drewN HTt.out _) rfl (by simp [tzr]) rfl rfl rfl (by kernel_rfl) ?_; intro W6 hb1 hk1 hg1; have HT6 := Aside0.mk hb1; have HK6 := Aside0.mk hk1; have HG6 := Aside0.mk hg1; clear hb1 hk1 hg1))
  have HT6 := Aside0.mk (show W6.heap[T]? = some (.cells (tzr 44 vv .nilIface dp ix false true js (.pointer (some ⟨S, 0, none⟩)) (flK p q K)) 118 (0, 0)) from HT6.out)
  have hTK : TK TokT B w W6 := (HKt.out.drewN n5).trans (TK.put (blk_drewN HTt.out n5) (.inl rfl) HB.out HK6.out HG6.out)
  have hSne := blk_ne H4.out HTt.out (by decide)
  obtain ⟨cur, hcur, -⟩ := Row_blk H5.out
  have hgne := blk_ne hcur HTt.out (by decide)
  have H46 := Aside0.mk ((HK6.out.2 S (blk_lt H4.out) hSne (by simp)).trans H4.out)
  have H56 := Aside0.mk (show W6.ownsRow B 133 2 (.slice (some ⟨g, 0, none⟩) ((true, n) :: l).length cap) ((true, n) :: l).length (flat ((true, n) :: l)) from Row_block H5.out (HK6.out.2 g (blk_lt hcur) hgne (by simp)))
  have HV6 := Aside0.mk ((HVt.out.below (pw_below_drewN (Below.refl _ _) n5)).below (HG6.out.mono HB.out))
  have HJ6 := Aside0.mk ((HJt.out.below (pw_below_drewN (Below.refl _ _) n5)).below (HG6.out.mono HB.out))
  have HTK6 := Aside0.mk hTK
  have ht6 := (top_cells H56.out).2
  have k8' := (tzr_cell HT6.out 8).trans (show _ = some (Value.pointer (some ⟨S, 0, none⟩)) from rfl)
  have kS' : W6.cell? ⟨S, 0, none⟩ = some (.slice (some ⟨g, 0, none⟩) (m + 1) cap) := by rw [HM.out]; exact (blk_cell H46.out 0).trans rfl
  have kf : W6.frozen? ⟨g, m * 2 + 1, none⟩ = false := H56.out.frozenAt _
  rw [← HM.out] at ht6
  clear hTK k0 k8 kS hz hz1 hSne hcur hgne
  have hsum : IntKind.i64.wrap ((m : Int) + 1 - 1) = (m : Int) := by rw [IntKind.wrap_i64]; omega
  have hsum2 : IntKind.i64.wrap ((m : Int)) = (m : Int) := by rw [IntKind.wrap_i64]; omega
  have hsum3 : IntKind.i64.wrap (n + 1) = n + 1 := by rw [IntKind.wrap_i64]; omega
  have hi1 : (0 : Int) ≤ (m : Int) := by omega
  have hi2 : (m : Int) < (m : Int) + 1 := by omega
  go_region
  all_goals
    clear hsum hsum2 hsum3
    go_wp2_with fail
    obtain ⟨cu6, hcu6, -⟩ := Row_blk H56.out
    have hTg : T ≠ g := blk_ne HT6.out hcu6 (by decide)
    have hSg : S ≠ g := blk_ne H46.out hcu6 (by decide)
    have hst := (show W6.drew.ownsRow B 133 2 (.slice (some ⟨g, 0, none⟩) ((true, n) :: l).length cap) ((true, n) :: l).length (flat ((true, n) :: l)) from Row_block H56.out rfl).stored (m * 2 + 1) (.int .i64 (n + 1))
    have hTKz : TK TokT B W6.drew (W6.drew.setCell ⟨g, m * 2 + 1, none⟩ (.int .i64 (n + 1))) := TK.grown (blk_drew hcu6) (.inr (.inr rfl)) HSB.out.2 (Nat.le_trans HSB.out.1 (Nat.le_of_lt (blk_lt H46.out))) hst.2
    have hr := hst.1
    rw [HM.out, flat_set] at hr
    rw [HM.out] at hTKz ⊢
    exact ⟨nx12 w _ B T 44 dp ix false true vv _ _ p q K v r ((true, n + 1) :: l) HB ⟨blk_far (blk_drew HT6.out) hTg _⟩ ⟨(HV6.out.below (below_drew (Below.refl _ _))).below hTKz.below⟩ ⟨(HJ6.out.below (below_drew (Below.refl _ _))).below hTKz.below⟩ ⟨.inr ⟨S, g, cap, rfl, HSB.out.1, HSB.out.2, blk_far (blk_drew H46.out) hSg _, hr⟩⟩ ⟨HTK6.out.drew.trans hTKz⟩ (.inl (by decide))⟩
end Go.Proofs.YtekmminmgjoabaaDoor.Js

namespace Go.Proofs.YtekmminmgjoabaaDoor.Js
open Go.RowKit Go.Proofs.YtekmminmgjoabaaDoorW.PrintWords Go.Proofs.YtekmminmgjoabaaDoorW.PrintLast Go.Proofs.YtekmminmgjoabaaDoorW.PrintMore Go.Proofs.YtekmminmgjoabaaDoor.PFnJSTokens
set_option linter.unusedVariables false
set_option linter.unusedSimpArgs false
/-- What a step answers, by the pure state. -/
def NextPost (w : World) (B T : Nat) (st st1 : St) (c : Int) (v r : List Int) (p q : Bool) (K : Int) : Ending → World → Prop :=
  StepPost w B T c (st.tok st1 c v 0).depth (st.tok st1 c v 0).index (st.tok st1 c v 0).key st1.isKey v r st1.stack p q K
theorem nx11 (w w1 : World) (B T : Nat) (st st1 : St) (c : Int) (ik : Bool) (vv js sp : Value) (p q : Bool) (K : Int) (v r : List Int) (ha : st.after c = some st1) (hv : c = 0 → v ≠ []) (HB : Aside0 (B ≤ T)) (HT : Aside0 (w1.heap[T]? = some (.cells (tzr c vv .nilIface (st.stack.length : Int) (topIdx st.stack) ik st.isKey js sp (flK p q K)) 118 (0, 0)))) (HV : Aside0 (Sl w1 B vv v)) (HJ : Aside0 (Sl w1 B js r)) (HS : Aside0 (Stk w1 B sp st.stack)) (HK : Aside0 (TK TokT B w w1)) (HL : Aside0 (StOk st.stack r.length)) {u1 u2 u3 u4 u5 u6 u7 u8 u9 u10 u11 u12 u13 u14 u15 u16 u17 u18 u19 u20 u21 u22 u23 u24 u25 u26 u27 u28 u29 u30 u31 u32 u33 u34 u35 u36 u37 u38 u39 u40 u41 u42 u43 u44 u45 u46 u47 u48 u49 u50 u51 u52 u53 u54 u55 u56 u57 u58 u59 u60 u61 u62 u63 u64 u65 u66 u67 u68 u69 u70 u71 u72 u73 u74 u75 u76 u77 u78 u79 u80 u81 u82 u83 u84 u85 u86 u87 u88 u89 u90 u91 u92 u93 u94 u95 u96 u97 u98 u99 u100 u101 u102 u103 u104 u105 u106 u107 u108 u109 u110 u111 u112 u113 u114 u115 u116 u117 u118 u119 u120 u121 u122 u123 u124 u125 u126 u127 u128 u129 u130 u131 u132 u133 u134 u135 u136 u137 u138 u139 u140 u141 u142 u143 u144 u145 u146 u147 u148 u149 u150 u151 u152 u153 u154 u155 u156 u157 u158 u159 u160 u161 u162 u163 u164 u165 u166 u167 u168 u169 u170 u171 u172 u173 u174 u175 u176 u177 u178 u179 u180 u181 u182 u183 u184 u185 u186 u187 u188 u189 u190 u191 u192 u193 u194 u195 u196 u197 u198 u199 u200 u201 u202 u203 u204 u205 u206 u207 u208 u209 u210 u211 u212 u213 u214 u215 u216 u217 u218 u219 u220 u221 u222 u223 u224 u225 u226 u227 u228 u229 u230 u231 u232 u233 u234 u235 u236 u237 u238 u239 u240 u241 u242 u243 u244 u245 u246 u247 u248 u249 u250 u251 u252 u253 u254 u255 u256 u257 u258 u259 u260 u261 u262 u263 u264 u265 u266 u267 u268 u269 u270 u271 u272 u273 u274 u275 u276 u277 u278 u279 u280 u281 u282 u283 u284 u285 u286 u287 u288 u289 u290 u291 u292 u293 u294 u295 u296 u297 u298 u299 u300 u301 u302 u303 u304 u305 u306 u307 u308 u309 u310 u311 u312 u313 u314 u315 u316 u317 u318 u319 u320 u321 u322 u323 u324 u325 u326 u327 u328 u329 u330 u331 u332 u333 u334 u335 u336 u337 u338 u339 u340 u341 u342 u343 u344 u345 u346 u347 u348 u349 u350 u351 u352 u353 u354 u355 u356 u357 u358 u359 u360 u361 u362 u363 u364 u365 u366 u367 u368 u369 u370 u371 u372 u373 u374 u375 u376 u377 u378 u379 u380 u381 u382 u383 u384 u385 u386 u387 u388 u389 u390 u391 u392 u393 u394 u395 u396 u397 u398 u399 u400 u401 u402 u403 u404 u405 u406 u407 u408 u409 u410 u411 u412 u413 u414 u415 u416 u417 u418 u419 u420 u421 u422 u423 u424 u425 u426 u427 u428 u429 u430 u431 u432 u433 u434 u435 u436 u437 u438 u439 u440 u441 u442 u443 u444 u445 u446 u447 u448 u449 u450 : Value} :
    Code.wp Tryd.prog (nextCode 11) (Exit.noGoto (bodyPost Tryd.prog Tryd.f54 (NextPost w B T st st1 c v r p q K))) ⟨#[.pointer (some ⟨T, 0, none⟩), u1, u2, u3, u4, u5, u6, u7, u8, u9, u10, u11, u12, u13, u14, u15, u16, u17, u18, u19, u20, u21, u22, u23, u24, u25, u26, u27, u28, u29, u30, u31, u32, u33, u34, u35, u36, u37, u38, u39, u40, u41, u42, u43, u44, u45, u46, u47, u48, u49, u50, u51, u52, u53, u54, u55, u56, u57, u58, u59, u60, u61, u62, u63, u64, u65, u66, u67, u68, u69, u70, u71, u72, u73, u74, u75, u76, u77, u78, u79, u80, u81, u82, u83, u84, u85, u86, u87, u88, u89, u90, u91, u92, u93, u94, u95, u96, u97, u98, u99, u100, u101, u102, u103, u104, u105, u106, u107, u108, u109, u110, u111, u112, u113, u114, u115, u116, u117, u118, u119, u120, u121, u122, u123, u124, u125, u126, u127, u128, u129, u130, u131, u132, u133, u134, u135, u136, u137, u138, u139, u140, u141, u142, u143, u144, u145, u146, u147, u148, u149, u150, u151, u152, u153, u154, u155, u156, u157, u158, u159, u160, u161, u162, u163, u164, u165, u166, u167, u168, u169, u170, u171, u172, u173, u174, u175, u176, u177, u178, u179, u180, u181, u182, u183, u184, u185, u186, u187, u188, u189, u190, u191, u192, u193, u194, u195, u196, u197, u198, u199, u200, u201, u202, u203, u204, u205, u206, u207, u208, u209, u210, u211, u212, u213, u214, u215, u216, u217, u218, u219, u220, u221, u222, u223, u224, u225, u226, u227, u228, u229, u230, u231, u232, u233, u234, u235, u236, u237, u238, u239, u240, u241, u242, u243, u244, u245, u246, u247, u248, u249, u250, u251, u252, u253, u254, u255, u256, u257, u258, u259, u260, u261, u262, u263, u264, u265, u266, u267, u268, u269, u270, u271, u272, u273, u274, u275, u276, u277, u278, u279, u280, u281, u282, u283, u284, u285, u286, u287, u288, u289, u290, u291, u292, u293, u294, u295, u296, u297, u298, u299, u300, u301, u302, u303, u304, u305, u306, u307, u308, u309, u310, u311, u312, u313, u314, u315, u316, u317, u318, u319, u320, u321, u322, u323, u324, u325, u326, u327, u328, u329, u330, u331, u332, u333, u334, u335, u336, u337, u338, u339, u340, u341, u342, u343, u344, u345, u346, u347, u348, u349, u350, u351, u352, u353, u354, u355, u356, u357, u358, u359, u360, u361, u362, u363, u364, u365, u366, u367, u368, u369, u370, u371, u372, u373, u374, u375, u376, u377, u378, u379, u380, u381, u382, u383, u384, u385, u386, u387, u388, u389, u390, u391, u392, u393, u394, u395, u396, u397, u398, u399, u400, u401, u402, u403, u404, u405, u406, u407, u408, u409, u410, u411, u412, u413, u414, u415, u416, u417, u418, u419, u420, u421, u422, u423, u424, u425, u426, u427, u428, u429, u430, u431, u432, u433, u434, u435, u436, u437, u438, u439, u440, u441, u442, u443, u444, u445, u446, u447, u448, u449, u450], []⟩ w1 := by
  obtain ⟨l, nk⟩ := st
  unfold St.after at ha
  by_cases h0 : c = 0
  · subst h0
    obtain rfl : (⟨l, nk⟩ : St) = st1 := by simpa using ha
    exact nx11_plain w w1 B T _ _ ik nk vv js sp p q K v r l HB HT HV HJ HS HK (hv rfl)
  rw [if_neg h0] at ha
  by_cases h1 : c = 123
  · subst h1
    obtain rfl : (⟨(true, 1) :: l, true⟩ : St) = st1 := by simpa using ha
    exact nx11_obj w w1 B T _ _ ik nk vv js sp p q K v r l HB HT HV HJ HS HK HL
  rw [if_neg h1] at ha
  by_cases h2 : c = 91
  · subst h2
    obtain rfl : (⟨(false, 1) :: l, nk⟩ : St) = st1 := by simpa using ha
    exact nx11_arr w w1 B T _ _ ik nk vv js sp p q K v r l HB HT HV HJ HS HK HL
  rw [if_neg h2] at ha
  by_cases h3 : c = 125
  · subst h3
    rw [if_pos rfl] at ha
    cases l with
    | nil => cases ha
    | cons x l =>
      obtain ⟨o, n⟩ := x
      cases o with
      | false => cases ha
      | true =>
        obtain rfl : (⟨l, nk⟩ : St) = st1 := by simpa using ha
        have e : NextPost w B T ⟨(true, n) :: l, nk⟩ ⟨l, nk⟩ 125 v r p q K = StepPost w B T 125 ((((true, n) :: l).length : Int) - 1) (topIdx l) false nk v r l p q K := by
          rw [show ((((true, n) :: l).length : Int) - 1) = (l.length : Int) by simp]
          rfl
        rw [e]
        exact nx11_eobj w w1 B T _ _ ik nk vv js sp p q K v r n l (by simp) HB HT HV HJ HS HK HL
  rw [if_neg h3] at ha
  by_cases h4 : c = 93
  · subst h4
    rw [if_pos rfl] at ha
    cases l with
    | nil => cases ha
    | cons x l =>
      obtain ⟨o, n⟩ := x
      cases o with
      | true => cases ha
      | false =>
        obtain rfl : (⟨l, nk⟩ : St) = st1 := by simpa using ha
        have e : NextPost w B T ⟨(false, n) :: l, nk⟩ ⟨l, nk⟩ 93 v r p q K = StepPost w B T 93 ((((false, n) :: l).length : Int) - 1) (topIdx l) false nk v r l p q K := by
          rw [show ((((false, n) :: l).length : Int) - 1) = (l.length : Int) by simp]
          rfl
        rw [e]
        exact nx11_earr w w1 B T _ _ ik nk vv js sp p q K v r n l (by simp) HB HT HV HJ HS HK HL
  rw [if_neg h4] at ha
  by_cases h5 : c = 58
  · subst h5
    obtain rfl : (⟨l, false⟩ : St) = st1 := by simpa using ha
    exact nx11_colon w w1 B T _ _ ik nk vv js sp p q K v r l HB HT HV HJ HS HK HL
  rw [if_neg h5] at ha
  by_cases h6 : c = 44
  · subst h6
    rw [if_pos rfl] at ha
    cases l with
    | nil => cases ha
    | cons x l =>
      obtain ⟨o, n⟩ := x
      cases o with
      | true =>
        obtain rfl : (⟨(true, n + 1) :: l, true⟩ : St) = st1 := by simpa using ha
        exact nx11_comma_true w w1 B T _ _ ik nk vv js sp p q K v r n l HB HT HV HJ HS HK HL
      | false =>
        obtain rfl : (⟨(false, n + 1) :: l, nk⟩ : St) = st1 := by simpa using ha
        exact nx11_comma_false w w1 B T _ _ ik nk vv js sp p q K v r n l HB HT HV HJ HS HK HL
  rw [if_neg h6] at ha
  cases ha
set_option maxHeartbeats 4000000 in
set_option maxRecDepth 100000 in
theorem nx8 (w w1 : World) (B T : Nat) (st st1 : St) (c dp0 ix0 : Int) (ik : Bool) (vv js sp : Value) (p q : Bool) (K0 K : Int) (hK0 : 0 ≤ K0) (hK1 : K0 < 64) (hk0 : 0 ≤ K) (hk1 : K < 64) (v r : List Int) (ha : st.after c = some st1) (hv : c = 0 → v ≠ []) (HB : Aside0 (B ≤ T)) (HT : Aside0 (w1.heap[T]? = some (.cells (tzr c vv .nilIface dp0 ix0 ik st.isKey js sp (flK p q K0)) 118 (0, 0)))) (HV : Aside0 (Sl w1 B vv v)) (HJ : Aside0 (Sl w1 B js r)) (HS : Aside0 (Stk w1 B sp st.stack)) (HK : Aside0 (TK TokT B w w1)) (HL : Aside0 (StOk st.stack r.length)) {u1 u2 u3 u4 u5 u7 u8 u9 u10 u11 u12 u13 u14 u15 u16 u17 u18 u19 u20 u21 u22 u23 u24 u25 u26 u27 u28 u29 u30 u31 u32 u33 u34 u35 u36 u37 u38 u39 u40 u41 u42 u43 u44 u45 u46 u47 u48 u49 u50 u51 u52 u53 u54 u55 u56 u57 u58 u59 u60 u61 u62 u63 u64 u65 u66 u67 u68 u69 u70 u71 u72 u73 u74 u75 u76 u77 u78 u79 u80 u81 u82 u83 u84 u85 u86 u87 u88 u89 u90 u91 u92 u93 u94 u95 u96 u97 u98 u99 u100 u101 u102 u103 u104 u105 u106 u107 u108 u109 u110 u111 u112 u113 u114 u115 u116 u117 u118 u119 u120 u121 u122 u123 u124 u125 u126 u127 u128 u129 u130 u131 u132 u133 u134 u135 u136 u137 u138 u139 u140 u141 u142 u143 u144 u145 u146 u147 u148 u149 u150 u151 u152 u153 u154 u155 u156 u157 u158 u159 u160 u161 u162 u163 u164 u165 u166 u167 u168 u169 u170 u171 u172 u173 u174 u175 u176 u177 u178 u179 u180 u181 u182 u183 u184 u185 u186 u187 u188 u189 u190 u191 u192 u193 u194 u195 u196 u197 u198 u199 u200 u201 u202 u203 u204 u205 u206 u207 u208 u209 u210 u211 u212 u213 u214 u215 u216 u217 u218 u219 u220 u221 u222 u223 u224 u225 u226 u227 u228 u229 u230 u231 u232 u233 u234 u235 u236 u237 u238 u239 u240 u241 u242 u243 u244 u245 u246 u247 u248 u249 u250 u251 u252 u253 u254 u255 u256 u257 u258 u259 u260 u261 u262 u263 u264 u265 u266 u267 u268 u269 u270 u271 u272 u273 u274 u275 u276 u277 u278 u279 u280 u281 u282 u283 u284 u285 u286 u287 u288 u289 u290 u291 u292 u293 u294 u295 u296 u297 u298 u299 u300 u301 u302 u303 u304 u305 u306 u307 u308 u309 u310 u311 u312 u313 u314 u315 u316 u317 u318 u319 u320 u321 u322 u323 u324 u325 u326 u327 u328 u329 u330 u331 u332 u333 u334 u335 u336 u337 u338 u339 u340 u341 u342 u343 u344 u345 u346 u347 u348 u349 u350 u351 u352 u353 u354 u355 u356 u357 u358 u359 u360 u361 u362 u363 u364 u365 u366 u367 u368 u369 u370 u371 u372 u373 u374 u375 u376 u377 u378 u379 u380 u381 u382 u383 u384 u385 u386 u387 u388 u389 u390 u391 u392 u393 u394 u395 u396 u397 u398 u399 u400 u401 u402 u403 u404 u405 u406 u407 u408 u409 u410 u411 u412 u413 u414 u415 u416 u417 u418 u419 u420 u421 u422 u423 u424 u425 u426 u427 u428 u429 u430 u431 u432 u433 u434 u435 u436 u437 u438 u439 u440 u441 u442 u443 u444 u445 u446 u447 u448 u449 u450 : Value} :
    Code.wp Tryd.prog (nextCode 8) (Exit.noGoto (bodyPost Tryd.prog Tryd.f54 (NextPost w B T st st1 c v r p q K))) ⟨#[.pointer (some ⟨T, 0, none⟩), u1, u2, u3, u4, u5, .int .u64 K, u7, u8, u9, u10, u11, u12, u13, u14, u15, u16, u17, u18, u19, u20, u21, u22, u23, u24, u25, u26, u27, u28, u29, u30, u31, u32, u33, u34, u35, u36, u37, u38, u39, u40, u41, u42, u43, u44, u45, u46, u47, u48, u49, u50, u51, u52, u53, u54, u55, u56, u57, u58, u59, u60, u61, u62, u63, u64, u65, u66, u67, u68, u69, u70, u71, u72, u73, u74, u75, u76, u77, u78, u79, u80, u81, u82, u83, u84, u85, u86, u87, u88, u89, u90, u91, u92, u93, u94, u95, u96, u97, u98, u99, u100, u101, u102, u103, u104, u105, u106, u107, u108, u109, u110, u111, u112, u113, u114, u115, u116, u117, u118, u119, u120, u121, u122, u123, u124, u125, u126, u127, u128, u129, u130, u131, u132, u133, u134, u135, u136, u137, u138, u139, u140, u141, u142, u143, u144, u145, u146, u147, u148, u149, u150, u151, u152, u153, u154, u155, u156, u157, u158, u159, u160, u161, u162, u163, u164, u165, u166, u167, u168, u169, u170, u171, u172, u173, u174, u175, u176, u177, u178, u179, u180, u181, u182, u183, u184, u185, u186, u187, u188, u189, u190, u191, u192, u193, u194, u195, u196, u197, u198, u199, u200, u201, u202, u203, u204, u205, u206, u207, u208, u209, u210, u211, u212, u213, u214, u215, u216, u217, u218, u219, u220, u221, u222, u223, u224, u225, u226, u227, u228, u229, u230, u231, u232, u233, u234, u235, u236, u237, u238, u239, u240, u241, u242, u243, u244, u245, u246, u247, u248, u249, u250, u251, u252, u253, u254, u255, u256, u257, u258, u259, u260, u261, u262, u263, u264, u265, u266, u267, u268, u269, u270, u271, u272, u273, u274, u275, u276, u277, u278, u279, u280, u281, u282, u283, u284, u285, u286, u287, u288, u289, u290, u291, u292, u293, u294, u295, u296, u297, u298, u299, u300, u301, u302, u303, u304, u305, u306, u307, u308, u309, u310, u311, u312, u313, u314, u315, u316, u317, u318, u319, u320, u321, u322, u323, u324, u325, u326, u327, u328, u329, u330, u331, u332, u333, u334, u335, u336, u337, u338, u339, u340, u341, u342, u343, u344, u345, u346, u347, u348, u349, u350, u351, u352, u353, u354, u355, u356, u357, u358, u359, u360, u361, u362, u363, u364, u365, u366, u367, u368, u369, u370, u371, u372, u373, u374, u375, u376, u377, u378, u379, u380, u381, u382, u383, u384, u385, u386, u387, u388, u389, u390, u391, u392, u393, u394, u395, u396, u397, u398, u399, u400, u401, u402, u403, u404, u405, u406, u407, u408, u409, u410, u411, u412, u413, u414, u415, u416, u417, u418, u419, u420, u421, u422, u423, u424, u425, u426, u427, u428, u429, u430, u431, u432, u433, u434, u435, u436, u437, u438, u439, u440, u441, u442, u443, u444, u445, u446, u447, u448, u449, u450], []⟩ w1 := by
  conv => arg 2; whnf
  have HTt := HT
  have HSt := HS
  have HVt := HV
  have HJt := HJ
  have HKt := HK
  have HAF := Aside0.mk (And.intro ha hv)
  have HKB := Aside0.mk (And.intro (And.intro hK0 hK1) (And.intro hk0 hk1))
  obtain ⟨l, nk⟩ := st
  simp only at HTt HSt HL
  clear ha hv hK0 hK1 hk0 hk1
  refine wp_seam (fun K1 hK1 => ?_)
  have HD := Aside0.mk (tdepth _ B T _ _ _ _ _ _ _ _ _ _ l HTt.out HSt.out)
  obtain ⟨fl0, hfl0⟩ : ∃ fl0, fl0 = flK p q K0 := ⟨_, rfl⟩
  have HF := Aside0.mk (fun (W : World) => flK_with p q K0 K HKB.out.1.1 HKB.out.1.2 HKB.out.2.1 HKB.out.2.2 W)
  rw [← hfl0] at HTt HF
  clear hfl0
  go_wp2_with (first
    | (go_at_call 86; (with_reducible refine HD.out.mono ?_); rintro e W3 ⟨rfl, rfl⟩)
    | ((with_reducible refine gate_st rfl ?_); refine store_any _ _ _ rfl rfl rfl HTt.out rfl (by simp [tzr]) rfl rfl rfl (by kernel_rfl) ?_; intro W1 hb1 hk1 hg1; have HSt := Aside0.mk (HSt.out.put HTt.out hk1); have HVt := Aside0.mk (HVt.out.below (hg1.mono HB.out)); have HJt := Aside0.mk (HJt.out.below (hg1.mono HB.out)); have HKt := Aside0.mk (HKt.out.trans (TK.put HTt.out (.inl rfl) HB.out hk1 hg1)); have HTt := Aside0.mk (show W1.heap[T]? = some (.cells (tzr c vv .nilIface (l.length : Int) ix0 ik nk js sp fl0) 118 (0, 0)) from hb1); clear hb1 hk1 hg1))
  refine ⟨wp_seam (fun K2 hK2 => ?_)⟩
  have HI := Aside0.mk (tindex _ B T _ _ _ _ _ _ _ _ _ _ l HTt.out HSt.out (fun x hx => by have := HL.out.2 x hx; omega) (by have := HL.out.1; omega))
  go_wp2_with (first
    | (go_at_call 87; (with_reducible refine HI.out.mono ?_); rintro e W5 ⟨rfl, ⟨⟨n5, rfl⟩⟩⟩; have HSt := Aside0.mk (HSt.out.same (pw_below_drewN (Below.refl _ _) n5)); have HVt := Aside0.mk (HVt.out.below (pw_below_drewN (Below.refl _ _) n5)); have HJt := Aside0.mk (HJt.out.below (pw_below_drewN (Below.refl _ _) n5)); have HKt := Aside0.mk (HKt.out.drewN n5); have HTt := Aside0.mk (blk_drewN HTt.out n5))
    | ((with_reducible refine gate_st rfl ?_); refine store_any _ _ _ rfl rfl rfl HTt.out rfl (by simp [tzr]) rfl rfl rfl (by kernel_rfl) ?_; intro W1 hb1 hk1 hg1; have HSt := Aside0.mk (HSt.out.put HTt.out hk1); have HVt := Aside0.mk (HVt.out.below (hg1.mono HB.out)); have HJt := Aside0.mk (HJt.out.below (hg1.mono HB.out)); have HKt := Aside0.mk (HKt.out.trans (TK.put HTt.out (.inl rfl) HB.out hk1 hg1)); have HTt := Aside0.mk (show W1.heap[T]? = some (.cells (tzr c vv .nilIface (l.length : Int) (topIdx l) ik nk js sp fl0) 118 (0, 0)) from hb1); clear hb1 hk1 hg1))
  refine ⟨wp_seam (fun K3 hK3 => ?_)⟩
  have k9 := (tzr_cell HTt.out 9).trans (show _ = some (Value.int .u32 fl0) from rfl)
  go_wp2_with (first
    | (go_at_call 88; (with_reducible refine (HF.out _).mono ?_); rintro e W6 ⟨rfl, ⟨⟨n6, rfl⟩⟩⟩; have HSt := Aside0.mk (HSt.out.same (pw_below_drewN (Below.refl _ _) n6)); have HVt := Aside0.mk (HVt.out.below (pw_below_drewN (Below.refl _ _) n6)); have HJt := Aside0.mk (HJt.out.below (pw_below_drewN (Below.refl _ _) n6)); have HKt := Aside0.mk (HKt.out.drewN n6); have HTt := Aside0.mk (blk_drewN HTt.out n6))
    | ((with_reducible refine gate_st rfl ?_); refine store_any _ _ _ rfl rfl rfl HTt.out rfl (by simp [tzr]) rfl rfl rfl (by kernel_rfl) ?_; intro W1 hb1 hk1 hg1; have HSt := Aside0.mk (HSt.out.put HTt.out hk1); have HVt := Aside0.mk (HVt.out.below (hg1.mono HB.out)); have HJt := Aside0.mk (HJt.out.below (hg1.mono HB.out)); have HKt := Aside0.mk (HKt.out.trans (TK.put HTt.out (.inl rfl) HB.out hk1 hg1)); have HTt := Aside0.mk (show W1.heap[T]? = some (.cells (tzr c vv .nilIface (l.length : Int) (topIdx l) ik nk js sp (flK p q K)) 118 (0, 0)) from hb1); clear hb1 hk1 hg1))
  exact ⟨nx11 w _ B T ⟨l, nk⟩ st1 c ik vv _ _ p q K v r HAF.out.1 HAF.out.2 HB HTt HVt HJt HSt HKt HL⟩
end Go.Proofs.YtekmminmgjoabaaDoor.Js

namespace Go.Proofs.YtekmminmgjoabaaDoor.Js
open Go.RowKit Go.Proofs.YtekmminmgjoabaaDoorW.PrintWords Go.Proofs.YtekmminmgjoabaaDoorW.PrintLast Go.Proofs.YtekmminmgjoabaaDoorW.PrintMore Go.Proofs.YtekmminmgjoabaaDoor.PFnJSTokens
set_option linter.unusedVariables false
set_option linter.unusedSimpArgs false
theorem post_mono {P : Program} {fn : Func} {R R' : Ending → World → Prop} (h : ∀ e w, R e w → R' e w) {c : Code} {s : Act} {w : World} (hw : Code.wp P c (Exit.noGoto (bodyPost P fn R)) s w) : Code.wp P c (Exit.noGoto (bodyPost P fn R')) s w :=
  wp_mono hw (fun e a w q => by cases e <;> first | exact ⟨q.1, q.2.elim (fun v hv => ⟨v, hv.1, h _ _ hv.2⟩)⟩ | exact ⟨q.1, h _ _ q.2⟩ | exact h _ _ q | exact False.elim q)
/-- What a parser answers that goes well. -/
def ParsePost (w : World) (B : Nat) (v r : List Int) (KS : Int → Prop) (en : Ending) (w' : World) : Prop := ∃ v1 v2 K, en = .returned (.tuple #[v1, v2, .int .u64 K, .nilIface]) ∧ KS K ∧ Sl w' B v1 v ∧ Sl w' B v2 r ∧ Below w.heap.size w w'
/-- What a step answers, whichever of its kinds the token is of. -/
def NextPosts (w : World) (B T : Nat) (st st1 : St) (c : Int) (v r : List Int) (p q : Bool) (KS : Int → Prop) (e : Ending) (w' : World) : Prop := ∃ K, KS K ∧ NextPost w B T st st1 c v r p q K e w'
theorem tzr_put {W : World} {T : Nat} {d : Int} {vv er : Value} {dp ix : Int} {ik nk : Bool} {js sp : Value} {fl : Int} (h : W.heap[T]? = some (.cells (tzr d vv er dp ix ik nk js sp fl) 118 (0, 0))) (i : Nat) (u : Value) : (W.setCell ⟨T, i, none⟩ u).heap[T]? = some (.cells ((tzr d vv er dp ix ik nk js sp fl).setIfInBounds i u) 118 (0, 0)) := blk_set h i u
theorem tk_put {B T : Nat} {w W : World} {cs : Array Value} (h : TK TokT B w W) (hT : W.heap[T]? = some (.cells cs 118 (0, 0))) (hB : B ≤ T) (i : Nat) (u : Value) : TK TokT B w (W.setCell ⟨T, i, none⟩ u) := h.trans (TK.put hT (.inl rfl) hB ((KeepBut.refl W T none).set_ i _) ((Below.refl T W).setCell (Nat.le_refl _) _))
theorem stk_put {B T : Nat} {W : World} {cs : Array Value} {sp : Value} {l : List (Bool × Int)} (h : Stk W B sp l) (hT : W.heap[T]? = some (.cells cs 118 (0, 0))) (i : Nat) (u : Value) : Stk (W.setCell ⟨T, i, none⟩ u) B sp l := h.put hT ((KeepBut.refl W T none).set_ i _)
theorem sl_put {B T : Nat} {W : World} {v : Value} {zs : List Int} (h : Sl W B v zs) (hB : B ≤ T) (i : Nat) (u : Value) : Sl (W.setCell ⟨T, i, none⟩ u) B v zs := h.below ((Below.refl B W).setCell hB _)
end Go.Proofs.YtekmminmgjoabaaDoor.Js

