/- A tokenizer's step over a plain token. Written by nx10.py: a tokenizer's step over a delimiter. -/
import Derived.Test.YtekmminmgjoabaaDoorYRp
import Derived.Test.YtekmminmgjoabaaDoorYRq
import Derived.Test.YtekmminmgjoabaaDoorYRo
namespace Go.Proofs.YtekmminmgjoabaaDoor.Js
open Go.RowKit Go.Proofs.YtekmminmgjoabaaDoorW.PrintWords Go.Proofs.YtekmminmgjoabaaDoorW.PrintLast Go.Proofs.YtekmminmgjoabaaDoorW.PrintMore Go.Proofs.YtekmminmgjoabaaDoor.PFnJSTokens
set_option linter.unusedVariables false
set_option linter.unusedSimpArgs false
theorem Tab.base {B : Nat} {w w' : World} (h : Tab w) (h3 : 3 < B) (hb : Below B w w') : Tab w' where
  t0 := (hb.cell (p := ⟨3, _, none⟩) h3).trans h.t0
  t1 := (hb.cell (p := ⟨3, _, none⟩) h3).trans h.t1
  t2 := (hb.cell (p := ⟨3, _, none⟩) h3).trans h.t2
  t3 := (hb.cell (p := ⟨3, _, none⟩) h3).trans h.t3
  t4 := (hb.cell (p := ⟨3, _, none⟩) h3).trans h.t4
  t5 := (hb.cell (p := ⟨3, _, none⟩) h3).trans h.t5
  t6 := (hb.cell (p := ⟨3, _, none⟩) h3).trans h.t6
  t7 := (hb.cell (p := ⟨3, _, none⟩) h3).trans h.t7
/-- The kinds that a token of a class may have. -/
def KSet (k : Int) (v : List Int) (K : Int) : Prop := (0 ≤ K ∧ K < 64) ∧ Cls K k ∧ (K = 9 → 92 ∉ v)
theorem Plain.ne {k : Int} {v : List Int} (h : Plain k v) : v ≠ [] := by
  cases h with
  | null => simp
  | yes => simp
  | no => simp
  | num h =>
    obtain ⟨p0, p1, p2, hn⟩ := num_at (r := []) h (fun c t e => by cases e)
    intro e
    have h1 := hn.int.1
    have h0 : v.length = 0 := by rw [e]; rfl
    rcases hn.frac with h3 | ⟨-, -, h3, -⟩ <;> rcases hn.exp with h4 | ⟨-, -, qq, h5, h6, -⟩ <;> omega
  | str => simp
theorem Plain.first {k : Int} {v r : List Int} (h : Plain k v) : isSp ((v ++ r).getD 0 0) = false := by
  cases h with
  | null => rfl
  | yes => rfl
  | no => rfl
  | num h =>
    obtain ⟨p0, p1, p2, hn⟩ := num_at (r := []) h (fun c t e => by cases e)
    have hne : 0 < v.length := List.length_pos_iff.2 (Plain.ne (.num h))
    have hs := hn.sign
    rw [List.append_nil] at hs
    rw [getD_left _ _ _ hne]
    have hd : Digit (v.getD 0 0) ∨ v.getD 0 0 = 45 := by
      rcases hs with ⟨-, h⟩ | ⟨-, h⟩
      · exact .inl h
      · exact .inr h
    generalize v.getD 0 0 = c at *
    unfold Digit at hd
    simp [isSp]
    omega
  | str => rfl
theorem drop_front (bs zs : List Int) : (bs ++ zs).drop bs.length = zs := List.drop_left
theorem next_plain (w : World) (B T : Nat) (st : St) (d0 dp0 ix0 : Int) (ik : Bool) (vv0 js sp : Value) (p q : Bool) (K0 : Int) (hK0 : 0 ≤ K0) (hK1 : K0 < 64) (zs bs v r : List Int) (k : Int) (hz : zs = bs ++ (v ++ r)) (hbs : ∀ c ∈ bs, isSp c = true) (hp : Plain k v) (hr : k = 3 → NumEnd r)
    (hB : B ≤ T) (h3 : 3 < B) (hT : w.heap[T]? = some (.cells (tzr d0 vv0 .nilIface dp0 ix0 ik st.isKey js sp (flK p q K0)) 118 (0, 0))) (hJ : Sl w B js zs) (hS : Stk w B sp st.stack) (hL : StOk st.stack zs.length) (ht : Tab w) (hby : Bytes zs) (hq : q = true → 92 ∉ zs) :
    Calls Tryd.prog 54 #[.pointer (some ⟨T, 0, none⟩)] w (NextPosts w B T st st 0 v r p q (KSet k v)) := by
  have hlen : zs.length = bs.length + (v.length + r.length) := by rw [hz]; simp
  have hvp : 0 < v.length := List.length_pos_iff.2 hp.ne
  have hl9 : zs.length < 9000000000000000000 := by have := hL.1; omega
  have hHK : ∀ K, KSet k v K → 0 ≤ K ∧ K < 64 := fun K h => h.1
  have hLr : StOk st.stack r.length := hL.mono (by omega)
  have hby2 : Bytes (v ++ r) := hby.sub (fun c hc => by rw [hz]; exact List.mem_append_right _ hc)
  have hq2 : q = true → 92 ∉ v ++ r := fun h hc => hq h (by rw [hz]; exact List.mem_append_right _ hc)
  refine nx_front w B T d0 dp0 ix0 ik st.isKey vv0 sp (flK p q K0) zs bs.length st.stack _ js (by omega) (fun i hi => ?_) ?_ hB hT hJ hS ⟨fun W ad m c => ?_⟩
  · refine hbs _ ?_
    rw [hz, getD_left _ _ _ hi, List.getD_eq_getElem?_getD, List.getElem?_eq_getElem hi]
    exact List.getElem_mem hi
  · rw [hz, show bs.length = bs.length + 0 from rfl, getD_right]
    exact hp.first
  intros
  rename_i hTW hJW hSW hKW
  rw [hz, drop_front] at hJW
  have hm : 0 < m := by have := hJW.len.1; rw [this]; simp; omega
  have hTab := ht.base h3 hKW.below
  have hJc : ∀ W' : World, Below B W W' → Sl W' B (.slice (some ad) m c) (v ++ r) := fun W' hW => hJW.below hW
  cases hp with
  | null =>
    exact nx7_null w W B T st d0 dp0 ix0 ik vv0 sp ad m c p q K0 hK0 hK1 _ _ [110, 117, 108, 108] r hm (by simp) ⟨hHK⟩ ⟨hB⟩ ⟨hTW⟩ ⟨hJW⟩ ⟨hSW⟩ ⟨hKW⟩ ⟨hLr⟩ ⟨fun W' h1 h2 => (null_calls W' B (some ad) m c _ _ r rfl (hJc W' h1) hby2 h2).mono (by rintro e w' ⟨v1, v2, rfl, a1, a2, a3⟩; exact ⟨v1, v2, 1, rfl, ⟨by decide, .inr (.inl ⟨rfl, rfl⟩), fun h => by cases h⟩, a1, a2, a3⟩)⟩ rfl
  | yes =>
    exact nx7_yes w W B T st d0 dp0 ix0 ik vv0 sp ad m c p q K0 hK0 hK1 _ _ [116, 114, 117, 101] r hm (by simp) ⟨hHK⟩ ⟨hB⟩ ⟨hTW⟩ ⟨hJW⟩ ⟨hSW⟩ ⟨hKW⟩ ⟨hLr⟩ ⟨fun W' h1 h2 => (true_calls W' B (some ad) m c _ _ r rfl (hJc W' h1) hby2 h2).mono (by rintro e w' ⟨v1, v2, rfl, a1, a2, a3⟩; exact ⟨v1, v2, 3, rfl, ⟨by decide, .inr (.inr (.inr (.inl ⟨rfl, rfl⟩))), fun h => by cases h⟩, a1, a2, a3⟩)⟩ rfl
  | no =>
    exact nx7_no w W B T st d0 dp0 ix0 ik vv0 sp ad m c p q K0 hK0 hK1 _ _ [102, 97, 108, 115, 101] r hm (by simp) ⟨hHK⟩ ⟨hB⟩ ⟨hTW⟩ ⟨hJW⟩ ⟨hSW⟩ ⟨hKW⟩ ⟨hLr⟩ ⟨fun W' h1 h2 => (false_calls W' B (some ad) m c _ _ r rfl (hJc W' h1) hby2 h2).mono (by rintro e w' ⟨v1, v2, rfl, a1, a2, a3⟩; exact ⟨v1, v2, 2, rfl, ⟨by decide, .inr (.inr (.inl ⟨rfl, rfl⟩)), fun h => by cases h⟩, a1, a2, a3⟩)⟩ rfl
  | num h =>
    obtain ⟨p0, p1, p2, hn⟩ := num_at h (hr rfl)
    have hs := hn.sign
    have hb : (v ++ r).getD 0 0 = 45 ∨ (v ++ r).getD 0 0 = 48 ∨ (v ++ r).getD 0 0 = 49 ∨ (v ++ r).getD 0 0 = 50 ∨ (v ++ r).getD 0 0 = 51 ∨ (v ++ r).getD 0 0 = 52 ∨ (v ++ r).getD 0 0 = 53 ∨ (v ++ r).getD 0 0 = 54 ∨ (v ++ r).getD 0 0 = 55 ∨ (v ++ r).getD 0 0 = 56 ∨ (v ++ r).getD 0 0 = 57 := by
      rcases hs with ⟨-, h⟩ | ⟨-, h⟩
      · unfold Digit at h
        generalize (v ++ r).getD 0 0 = x at *
        omega
      · exact .inl h
    exact nx7_num w W B T st d0 dp0 ix0 ik vv0 sp ad m c p q K0 hK0 hK1 _ _ v r hm (Plain.ne (.num h)) ⟨hHK⟩ ⟨hB⟩ ⟨hTW⟩ ⟨hJW⟩ ⟨hSW⟩ ⟨hKW⟩ ⟨hLr⟩ ⟨fun W' h1 h2 => (pnum_calls W' B (some ad) m c _ _ p0 p1 p2 _ hn (hJc W' h1) h2).mono (by
      rintro e w' ⟨v1, v2, K, rfl, hk, a1, a2, a3⟩
      rw [List.take_left] at a1
      rw [List.drop_left] at a2
      refine ⟨v1, v2, K, rfl, ⟨?_, ?_, ?_⟩, a1, a2, a3⟩
      · omega
      · unfold Cls; omega
      · intro h; omega)⟩ _ rfl hb
  | @str l h =>
    have e1 : (34 :: (l ++ [34])) ++ r = 34 :: (l ++ 34 :: r) := by simp
    have hsa := strAt_init (r := r) h
    rw [e1] at hJW hJc hby2 hq2
    have hll : (34 :: (l ++ 34 :: r)).length ≤ zs.length := by rw [hlen]; simp; omega
    exact nx7_str w W B T st d0 dp0 ix0 ik vv0 sp ad m c p q K0 hK0 hK1 _ _ (34 :: (l ++ [34])) r hm (by simp) ⟨hHK⟩ ⟨hB⟩ ⟨hTW⟩ ⟨hJW⟩ ⟨hSW⟩ ⟨hKW⟩ ⟨hLr⟩ ⟨fun W' h1 h2 => (pstr_calls W' B (some ad) m c _ _ l (l.length + 1) p q (by omega) hby2 (hJc W' h1) h2 rfl hsa (flK_fl p q K0 hK0 hK1) hq2 (hTab.base h3 h1)).mono (by
      rintro e w' ⟨v1, v2, K, rfl, hk, a1, a2, a3⟩
      have t1 : (34 :: (l ++ 34 :: r)).take (l.length + 1 + 1) = 34 :: (l ++ [34]) := by
        rw [List.take_succ_cons, show l ++ 34 :: r = (l ++ [34]) ++ r by simp, List.take_left' (by simp)]
      have t2 : (34 :: (l ++ 34 :: r)).drop (l.length + 1 + 1) = r := by
        rw [List.drop_succ_cons, show l ++ 34 :: r = (l ++ [34]) ++ r by simp, List.drop_left' (by simp)]
      rw [t1] at a1
      rw [t2] at a2
      refine ⟨v1, v2, K, rfl, ⟨?_, ?_, ?_⟩, a1, a2, a3⟩
      · rcases hk with ⟨h, -⟩ | ⟨h, -⟩ <;> omega
      · rcases hk with ⟨h, -⟩ | ⟨h, -⟩ <;> (unfold Cls; omega)
      · intro h9
        rcases hk with ⟨-, h⟩ | ⟨h8, -⟩
        · intro hm
          simp only [List.mem_cons, List.mem_append, List.not_mem_nil, or_false] at hm
          rcases hm with h | h | h
          · cases h
          · contradiction
          · cases h
        · omega)⟩ rfl
end Go.Proofs.YtekmminmgjoabaaDoor.Js


namespace Go.Proofs.YtekmminmgjoabaaDoor.Js
open Go.RowKit Go.Proofs.YtekmminmgjoabaaDoorW.PrintWords Go.Proofs.YtekmminmgjoabaaDoorW.PrintLast Go.Proofs.YtekmminmgjoabaaDoorW.PrintMore Go.Proofs.YtekmminmgjoabaaDoor.PFnJSTokens
set_option linter.unusedVariables false
set_option linter.unusedSimpArgs false
set_option maxHeartbeats 4000000 in
set_option maxRecDepth 100000 in
theorem nx7_delim (w w1 : World) (B T : Nat) (st st1 : St) (d0 dp0 ix0 : Int) (ik : Bool) (vv0 sp : Value) (ad : Addr) (m c : Nat) (p q : Bool) (K0 : Int) (hK0 : 0 ≤ K0) (hK1 : K0 < 64) (cc : Int) (hcc : IsDelim cc) (r : List Int) (ha : st.after cc = some st1) (HB : Aside0 (B ≤ T)) (HT : Aside0 (w1.heap[T]? = some (.cells (tzr d0 vv0 .nilIface dp0 ix0 ik st.isKey (.slice (some ad) m c) sp (flK p q K0)) 118 (0, 0)))) (HJ : Aside0 (Sl w1 B (.slice (some ad) m c) (cc :: r))) (HS : Aside0 (Stk w1 B sp st.stack)) (HK : Aside0 (TK TokT B w w1)) (HL : Aside0 (StOk st.stack r.length)) {u1 u2 u3 u4 u5 u7 u8 u9 u10 u11 u12 u13 u14 u15 u16 u17 u18 u19 u20 u21 u22 u23 u24 u25 u26 u27 u28 u29 u30 u31 u32 u33 u34 u35 u36 u37 u38 u39 u40 u41 u42 u43 u44 u45 u46 u47 u48 u49 u50 u51 u52 u53 u54 u55 u56 u57 u58 u59 u60 u61 u62 u63 u64 u65 u66 u67 u68 u69 u70 u71 u72 u73 u74 u75 u76 u77 u78 u79 u80 u81 u82 u83 u84 u85 u86 u87 u88 u89 u90 u91 u92 u93 u94 u95 u96 u97 u98 u99 u100 u101 u102 u103 u104 u105 u106 u107 u108 u109 u110 u111 u112 u113 u114 u115 u116 u117 u118 u119 u120 u121 u122 u123 u124 u125 u126 u127 u128 u129 u130 u131 u132 u133 u134 u135 u136 u137 u138 u139 u140 u141 u142 u143 u144 u145 u146 u147 u148 u149 u150 u151 u152 u153 u154 u155 u156 u157 u158 u159 u160 u161 u162 u163 u164 u165 u166 u167 u168 u169 u170 u171 u172 u173 u174 u175 u176 u177 u178 u179 u180 u181 u182 u183 u184 u185 u186 u187 u188 u189 u190 u191 u192 u193 u194 u195 u196 u197 u198 u199 u200 u201 u202 u203 u204 u205 u206 u207 u208 u209 u210 u211 u212 u213 u214 u215 u216 u217 u218 u219 u220 u221 u222 u223 u224 u225 u226 u227 u228 u229 u230 u231 u232 u233 u234 u235 u236 u237 u238 u239 u240 u241 u242 u243 u244 u245 u246 u247 u248 u249 u250 u251 u252 u253 u254 u255 u256 u257 u258 u259 u260 u261 u262 u263 u264 u265 u266 u267 u268 u269 u270 u271 u272 u273 u274 u275 u276 u277 u278 u279 u280 u281 u282 u283 u284 u285 u286 u287 u288 u289 u290 u291 u292 u293 u294 u295 u296 u297 u298 u299 u300 u301 u302 u303 u304 u305 u306 u307 u308 u309 u310 u311 u312 u313 u314 u315 u316 u317 u318 u319 u320 u321 u322 u323 u324 u325 u326 u327 u328 u329 u330 u331 u332 u333 u334 u335 u336 u337 u338 u339 u340 u341 u342 u343 u344 u345 u346 u347 u348 u349 u350 u351 u352 u353 u354 u355 u356 u357 u358 u359 u360 u361 u362 u363 u364 u365 u366 u367 u368 u369 u370 u371 u372 u373 u374 u375 u376 u377 u378 u379 u380 u381 u382 u383 u384 u385 u386 u387 u388 u389 u390 u391 u392 u393 u394 u395 u396 u397 u398 u399 u400 u401 u402 u403 u404 u405 u406 u407 u408 u409 u410 u411 u412 u413 u414 u415 u416 u417 u418 u419 u420 u421 u422 u423 u424 u425 u426 u427 u428 u429 u430 u431 u432 u433 u434 u435 u436 u437 u438 u439 u440 u441 u442 u443 u444 u445 u446 u447 u448 u449 u450 : Value} :
    Code.wp Tryd.prog (nextCode 7) (Exit.noGoto (bodyPost Tryd.prog Tryd.f54 (NextPost w B T st st1 cc [cc] r p q (delK cc)))) ⟨#[.pointer (some ⟨T, 0, none⟩), u1, u2, u3, u4, u5, .int .u64 0, u7, u8, u9, u10, u11, u12, u13, u14, u15, u16, u17, u18, u19, u20, u21, u22, u23, u24, u25, u26, u27, u28, u29, u30, u31, u32, u33, u34, u35, u36, u37, u38, u39, u40, u41, u42, u43, u44, u45, u46, u47, u48, u49, u50, u51, u52, u53, u54, u55, u56, u57, u58, u59, u60, u61, u62, u63, u64, u65, u66, u67, u68, u69, u70, u71, u72, u73, u74, u75, u76, u77, u78, u79, u80, u81, u82, u83, u84, u85, u86, u87, u88, u89, u90, u91, u92, u93, u94, u95, u96, u97, u98, u99, u100, u101, u102, u103, u104, u105, u106, u107, u108, u109, u110, u111, u112, u113, u114, u115, u116, u117, u118, u119, u120, u121, u122, u123, u124, u125, u126, u127, u128, u129, u130, u131, u132, u133, u134, u135, u136, u137, u138, u139, u140, u141, u142, u143, u144, u145, u146, u147, u148, u149, u150, u151, u152, u153, u154, u155, u156, u157, u158, u159, u160, u161, u162, u163, u164, u165, u166, u167, u168, u169, u170, u171, u172, u173, u174, u175, u176, u177, u178, u179, u180, u181, u182, u183, u184, u185, u186, u187, u188, u189, u190, u191, u192, u193, u194, u195, u196, u197, u198, u199, u200, u201, u202, u203, u204, u205, u206, u207, u208, u209, u210, u211, u212, u213, u214, u215, u216, u217, u218, u219, u220, u221, u222, u223, u224, u225, u226, u227, u228, u229, u230, u231, u232, u233, u234, u235, u236, u237, u238, u239, u240, u241, u242, u243, u244, u245, u246, u247, u248, u249, u250, u251, u252, u253, u254, u255, u256, u257, u258, u259, u260, u261, u262, u263, u264, u265, u266, u267, u268, u269, u270, u271, u272, u273, u274, u275, u276, u277, u278, u279, u280, u281, u282, u283, u284, u285, u286, u287, u288, u289, u290, u291, u292, u293, u294, u295, u296, u297, u298, u299, u300, u301, u302, u303, u304, u305, u306, u307, u308, u309, u310, u311, u312, u313, u314, u315, u316, u317, u318, u319, u320, u321, u322, u323, u324, u325, u326, u327, u328, u329, u330, u331, u332, u333, u334, u335, u336, u337, u338, u339, u340, u341, u342, u343, u344, u345, u346, u347, u348, u349, u350, u351, u352, u353, u354, u355, u356, u357, u358, u359, u360, u361, u362, u363, u364, u365, u366, u367, u368, u369, u370, u371, u372, u373, u374, u375, u376, u377, u378, u379, u380, u381, u382, u383, u384, u385, u386, u387, u388, u389, u390, u391, u392, u393, u394, u395, u396, u397, u398, u399, u400, u401, u402, u403, u404, u405, u406, u407, u408, u409, u410, u411, u412, u413, u414, u415, u416, u417, u418, u419, u420, u421, u422, u423, u424, u425, u426, u427, u428, u429, u430, u431, u432, u433, u434, u435, u436, u437, u438, u439, u440, u441, u442, u443, u444, u445, u446, u447, u448, u449, u450], []⟩ w1 := by
  conv => arg 2; whnf
  have k7 : w1.cell? ⟨T, 7, none⟩ = some (.slice (some ad) m c) := (tzr_cell HT.out 7).trans rfl
  have hm : 0 < m := by have := HJ.out.len.1; rw [this]; simp
  obtain ⟨ad2, had, c0, -⟩ := HJ.out.at_ 0 hm
  obtain rfl : ad = ad2 := by injection had
  have e0 : ad.add 0 = ad := by simp [Addr.add]
  rw [e0] at c0
  have c0 : w1.cell? ad = some (.int .u8 cc) := c0.trans rfl
  have HKB := Aside0.mk (And.intro hK0 hK1)
  have HCC := Aside0.mk (And.intro hcc ha)
  clear had e0 hK0 hK1 ha
  refine wp_seam (fun K1 hK1 => ?_)
  rcases hcc with rfl | rfl | rfl | rfl | rfl | rfl
  all_goals
    refine wp_seam (fun K2 hK2 => ?_)
    go_wp2_with fail
    refine ⟨wp_block ?_⟩
    refine wp_seam (fun L0 hL0 => ?_)
    go_wp2_with fail
    refine ⟨wp_no (by simp [go_sem]; done) ?_⟩
    refine wp_seam (fun L1 hL1 => ?_)
    go_wp2_with fail
    refine ⟨wp_no (by simp [go_sem]; done) ?_⟩
    refine wp_seam (fun L2 hL2 => ?_)
    go_wp2_with fail
    refine ⟨wp_no (by simp [go_sem]; done) ?_⟩
    refine wp_seam (fun L3 hL3 => ?_)
    go_wp2_with fail
    refine ⟨wp_no (by simp [go_sem]; done) ?_⟩
    refine wp_seam (fun L8 hL8 => ?_)
    go_wp2_with fail
    refine ⟨wp_no (by simp [go_sem]; done) ?_⟩
    refine wp_seam (fun L9 hL9 => ?_)
    go_wp2_with fail
    refine ⟨wp_yes (by simp [go_sem]; done) ?_⟩
    exact nx7b_delim w w1 B T st st1 d0 dp0 ix0 ik vv0 sp ad m c p q K0 HKB.out.1 HKB.out.2 _ HCC.out.1 r HCC.out.2 HB HT HJ HS HK HL K1 hK1
theorem next_delim (w : World) (B T : Nat) (st st1 : St) (d0 dp0 ix0 : Int) (ik : Bool) (vv0 js sp : Value) (p q : Bool) (K0 : Int) (hK0 : 0 ≤ K0) (hK1 : K0 < 64) (zs bs r : List Int) (cc : Int) (hcc : IsDelim cc) (hz : zs = bs ++ (cc :: r)) (hbs : ∀ c ∈ bs, isSp c = true) (ha : st.after cc = some st1)
    (hB : B ≤ T) (hT : w.heap[T]? = some (.cells (tzr d0 vv0 .nilIface dp0 ix0 ik st.isKey js sp (flK p q K0)) 118 (0, 0))) (hJ : Sl w B js zs) (hS : Stk w B sp st.stack) (hL : StOk st.stack zs.length) :
    Calls Tryd.prog 54 #[.pointer (some ⟨T, 0, none⟩)] w (NextPost w B T st st1 cc [cc] r p q (delK cc)) := by
  have hlen : zs.length = bs.length + (r.length + 1) := by rw [hz]; simp
  refine nx_front w B T d0 dp0 ix0 ik st.isKey vv0 sp (flK p q K0) zs bs.length st.stack _ js (by omega) (fun i hi => ?_) ?_ hB hT hJ hS ⟨fun W ad m c => ?_⟩
  · refine hbs _ ?_
    rw [hz, getD_left _ _ _ hi, List.getD_eq_getElem?_getD, List.getElem?_eq_getElem hi]
    exact List.getElem_mem hi
  · rw [hz, show bs.length = bs.length + 0 from rfl, getD_right]
    rcases hcc with rfl | rfl | rfl | rfl | rfl | rfl <;> rfl
  intros
  rename_i hTW hJW hSW hKW
  rw [hz, drop_front] at hJW
  exact nx7_delim w W B T st st1 d0 dp0 ix0 ik vv0 sp ad m c p q K0 hK0 hK1 cc hcc r ha ⟨hB⟩ ⟨hTW⟩ ⟨hJW⟩ ⟨hSW⟩ ⟨hKW⟩ ⟨hL.mono (by omega)⟩
end Go.Proofs.YtekmminmgjoabaaDoor.Js

