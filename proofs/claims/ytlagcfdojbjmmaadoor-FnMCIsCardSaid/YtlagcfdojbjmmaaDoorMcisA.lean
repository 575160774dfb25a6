/- The walks of the law on kinds of codes, ranges 1 to 6 of the eighteen; the listed variables hold what the text lays. -/
import Derived.Test.YtlagcfdojbjmmaaDoorMcis
namespace Go.Proofs.YtlagcfdojbjmmaaDoor.Mcis
open Go.RowKit
set_option linter.unusedVariables false
set_option maxHeartbeats 8000000 in
set_option maxRecDepth 100000 in
theorem law0 (c : Int) (h0 : 0 ≤ c) (h1 : c ≤ 127) (w : World) (hl : Laid w) : Calls Tryd.prog 3 #[.int .u8 c] w fun e w' => e = .returned (.bool true) ∧ Below w.heap.size w w' := by
  have a_isBin : isBin c = false := by unfold isBin; simp; omega
  have a_isExt : isExt c = false := by unfold isExt; simp; omega
  have a_isArr : isArr c = false := by unfold isArr; simp; omega
  have a_isFExt : isFExt c = false := by unfold isFExt; simp; omega
  have a_isMap : isMap c = false := by unfold isMap; simp; omega
  have a_isNum : isNum c = true := by unfold isNum; simp; omega
  have a_isFStr : isFStr c = false := by unfold isFStr; simp; omega
  have a_isStr : isStr c = false := by unfold isStr; simp; omega
  have b_isBin : isBin 196 = true := by decide
  have b_isExt : isExt 196 = false := by decide
  have b_isArr : isArr 196 = false := by decide
  have b_isFExt : isFExt 196 = false := by decide
  have b_isMap : isMap 196 = false := by decide
  have b_isNum : isNum 196 = false := by decide
  have b_isFStr : isFStr 196 = false := by decide
  have b_isStr : isStr 196 = false := by decide
  have m196 : decide (196 ≤ c) = false := by simp; omega
  have m212 : decide (212 ≤ c) = false := by simp; omega
  have m199 : decide (199 ≤ c) = false := by simp; omega
  have m144 : decide (144 ≤ c) = false := by simp; omega
  have m128 : decide (128 ≤ c) = false := by simp; omega
  have m224 : decide (224 ≤ c) = false := by simp; omega
  have m160 : decide (160 ≤ c) = false := by simp; omega
  have m217 : decide (217 ≤ c) = false := by simp; omega
  have l198 : decide (c ≤ 198) = true := by simp; omega
  have l216 : decide (c ≤ 216) = true := by simp; omega
  have l201 : decide (c ≤ 201) = true := by simp; omega
  have l159 : decide (c ≤ 159) = true := by simp; omega
  have l143 : decide (c ≤ 143) = true := by simp; omega
  have l127 : decide (c ≤ 127) = true := by simp; omega
  have l191 : decide (c ≤ 191) = true := by simp; omega
  have l219 : decide (c ≤ 219) = true := by simp; omega
  have heq : ∀ w' : World, Sem.run Tryd.prog (Op.equalIn 10000 22 (.agg #[.bool false, .bool false, .bool false, .bool false, .bool false, .bool true, .bool false, .bool false]) (.agg #[.bool false, .bool false, .bool false, .bool false, .bool false, .bool true, .bool false, .bool false])) w' = .ok true w' := fun _ => by kernel_rfl
  have hix : ∀ w' : World, Sem.run Tryd.prog (Instr.index 22 (.agg #[.bool true, .bool false, .bool false, .bool false, .bool false, .bool false, .bool false, .bool false]) (.int .i64 0)) w' = .ok (.bool true) w' := fun _ => by kernel_rfl
  have HL := Lib.hid hl; clear hl
  go_enter Tryd.func3, Tryd.ntmps3
  go_wp2_with fail
  have K0 : Kp w #[.bool false, .bool false, .bool false, .bool false, .bool false, .bool true, .bool false, .bool false] (w.alloc (.cells #[.bool false, .bool false, .bool false, .bool false, .bool false, .bool true, .bool false, .bool false] 22)) := kp_start HL.out
  clear HL
  obtain ⟨x0, x1, x2, x3, x4, x5, x6, x7, _⟩ := kp_all (kp_drew K0)
  go_region_with (first | (go_at_call 5; (with_reducible refine (mcis c (by omega) (by omega) _ (kp_laid (kp_drew K0))).mono ?_); rintro e w1 ⟨rfl, hb⟩; have K1 := kp_next (kp_drew K0) hb; obtain ⟨z0, z1, z2, z3, z4, z5, z6, z7, _⟩ := kp_all K1) | (go_at_call 5; (with_reducible refine (mcis 196 (by omega) (by omega) _ (kp_laid K1)).mono ?_); rintro e w2 ⟨rfl, hb2⟩; have K2 := kp_next K1 hb2; obtain ⟨y0, y1, y2, y3, y4, y5, y6, y7, _⟩ := kp_all K2))
  all_goals
    go_wp2_with fail
    go_ret
    exact ⟨rfl, K2.h3⟩
set_option maxHeartbeats 8000000 in
set_option maxRecDepth 100000 in
theorem law1 (c : Int) (h0 : 128 ≤ c) (h1 : c ≤ 143) (w : World) (hl : Laid w) : Calls Tryd.prog 3 #[.int .u8 c] w fun e w' => e = .returned (.bool true) ∧ Below w.heap.size w w' := by
  have a_isBin : isBin c = false := by unfold isBin; simp; omega
  have a_isExt : isExt c = false := by unfold isExt; simp; omega
  have a_isArr : isArr c = false := by unfold isArr; simp; omega
  have a_isFExt : isFExt c = false := by unfold isFExt; simp; omega
  have a_isMap : isMap c = true := by unfold isMap; simp; omega
  have a_isNum : isNum c = false := by unfold isNum; simp; omega
  have a_isFStr : isFStr c = false := by unfold isFStr; simp; omega
  have a_isStr : isStr c = false := by unfold isStr; simp; omega
  have b_isBin : isBin 196 = true := by decide
  have b_isExt : isExt 196 = false := by decide
  have b_isArr : isArr 196 = false := by decide
  have b_isFExt : isFExt 196 = false := by decide
  have b_isMap : isMap 196 = false := by decide
  have b_isNum : isNum 196 = false := by decide
  have b_isFStr : isFStr 196 = false := by decide
  have b_isStr : isStr 196 = false := by decide
  have m196 : decide (196 ≤ c) = false := by simp; omega
  have m212 : decide (212 ≤ c) = false := by simp; omega
  have m199 : decide (199 ≤ c) = false := by simp; omega
  have m144 : decide (144 ≤ c) = false := by simp; omega
  have m128 : decide (128 ≤ c) = true := by simp; omega
  have m224 : decide (224 ≤ c) = false := by simp; omega
  have m160 : decide (160 ≤ c) = false := by simp; omega
  have m217 : decide (217 ≤ c) = false := by simp; omega
  have l198 : decide (c ≤ 198) = true := by simp; omega
  have l216 : decide (c ≤ 216) = true := by simp; omega
  have l201 : decide (c ≤ 201) = true := by simp; omega
  have l159 : decide (c ≤ 159) = true := by simp; omega
  have l143 : decide (c ≤ 143) = true := by simp; omega
  have l127 : decide (c ≤ 127) = false := by simp; omega
  have l191 : decide (c ≤ 191) = true := by simp; omega
  have l219 : decide (c ≤ 219) = true := by simp; omega
  have heq : ∀ w' : World, Sem.run Tryd.prog (Op.equalIn 10000 22 (.agg #[.bool false, .bool false, .bool false, .bool false, .bool true, .bool false, .bool false, .bool false]) (.agg #[.bool false, .bool false, .bool false, .bool false, .bool true, .bool false, .bool false, .bool false])) w' = .ok true w' := fun _ => by kernel_rfl
  have hix : ∀ w' : World, Sem.run Tryd.prog (Instr.index 22 (.agg #[.bool true, .bool false, .bool false, .bool false, .bool false, .bool false, .bool false, .bool false]) (.int .i64 0)) w' = .ok (.bool true) w' := fun _ => by kernel_rfl
  have HL := Lib.hid hl; clear hl
  go_enter Tryd.func3, Tryd.ntmps3
  go_wp2_with fail
  have K0 : Kp w #[.bool false, .bool false, .bool false, .bool false, .bool true, .bool false, .bool false, .bool false] (w.alloc (.cells #[.bool false, .bool false, .bool false, .bool false, .bool true, .bool false, .bool false, .bool false] 22)) := kp_start HL.out
  clear HL
  obtain ⟨x0, x1, x2, x3, x4, x5, x6, x7, _⟩ := kp_all (kp_drew K0)
  go_region_with (first | (go_at_call 5; (with_reducible refine (mcis c (by omega) (by omega) _ (kp_laid (kp_drew K0))).mono ?_); rintro e w1 ⟨rfl, hb⟩; have K1 := kp_next (kp_drew K0) hb; obtain ⟨z0, z1, z2, z3, z4, z5, z6, z7, _⟩ := kp_all K1) | (go_at_call 5; (with_reducible refine (mcis 196 (by omega) (by omega) _ (kp_laid K1)).mono ?_); rintro e w2 ⟨rfl, hb2⟩; have K2 := kp_next K1 hb2; obtain ⟨y0, y1, y2, y3, y4, y5, y6, y7, _⟩ := kp_all K2))
  all_goals
    go_wp2_with fail
    go_ret
    exact ⟨rfl, K2.h3⟩
set_option maxHeartbeats 8000000 in
set_option maxRecDepth 100000 in
theorem law2 (c : Int) (h0 : 144 ≤ c) (h1 : c ≤ 159) (w : World) (hl : Laid w) : Calls Tryd.prog 3 #[.int .u8 c] w fun e w' => e = .returned (.bool true) ∧ Below w.heap.size w w' := by
  have a_isBin : isBin c = false := by unfold isBin; simp; omega
  have a_isExt : isExt c = false := by unfold isExt; simp; omega
  have a_isArr : isArr c = true := by unfold isArr; simp; omega
  have a_isFExt : isFExt c = false := by unfold isFExt; simp; omega
  have a_isMap : isMap c = false := by unfold isMap; simp; omega
  have a_isNum : isNum c = false := by unfold isNum; simp; omega
  have a_isFStr : isFStr c = false := by unfold isFStr; simp; omega
  have a_isStr : isStr c = false := by unfold isStr; simp; omega
  have b_isBin : isBin 196 = true := by decide
  have b_isExt : isExt 196 = false := by decide
  have b_isArr : isArr 196 = false := by decide
  have b_isFExt : isFExt 196 = false := by decide
  have b_isMap : isMap 196 = false := by decide
  have b_isNum : isNum 196 = false := by decide
  have b_isFStr : isFStr 196 = false := by decide
  have b_isStr : isStr 196 = false := by decide
  have m196 : decide (196 ≤ c) = false := by simp; omega
  have m212 : decide (212 ≤ c) = false := by simp; omega
  have m199 : decide (199 ≤ c) = false := by simp; omega
  have m144 : decide (144 ≤ c) = true := by simp; omega
  have m128 : decide (128 ≤ c) = true := by simp; omega
  have m224 : decide (224 ≤ c) = false := by simp; omega
  have m160 : decide (160 ≤ c) = false := by simp; omega
  have m217 : decide (217 ≤ c) = false := by simp; omega
  have l198 : decide (c ≤ 198) = true := by simp; omega
  have l216 : decide (c ≤ 216) = true := by simp; omega
  have l201 : decide (c ≤ 201) = true := by simp; omega
  have l159 : decide (c ≤ 159) = true := by simp; omega
  have l143 : decide (c ≤ 143) = false := by simp; omega
  have l127 : decide (c ≤ 127) = false := by simp; omega
  have l191 : decide (c ≤ 191) = true := by simp; omega
  have l219 : decide (c ≤ 219) = true := by simp; omega
  have heq : ∀ w' : World, Sem.run Tryd.prog (Op.equalIn 10000 22 (.agg #[.bool false, .bool false, .bool true, .bool false, .bool false, .bool false, .bool false, .bool false]) (.agg #[.bool false, .bool false, .bool true, .bool false, .bool false, .bool false, .bool false, .bool false])) w' = .ok true w' := fun _ => by kernel_rfl
  have hix : ∀ w' : World, Sem.run Tryd.prog (Instr.index 22 (.agg #[.bool true, .bool false, .bool false, .bool false, .bool false, .bool false, .bool false, .bool false]) (.int .i64 0)) w' = .ok (.bool true) w' := fun _ => by kernel_rfl
  have HL := Lib.hid hl; clear hl
  go_enter Tryd.func3, Tryd.ntmps3
  go_wp2_with fail
  have K0 : Kp w #[.bool false, .bool false, .bool true, .bool false, .bool false, .bool false, .bool false, .bool false] (w.alloc (.cells #[.bool false, .bool false, .bool true, .bool false, .bool false, .bool false, .bool false, .bool false] 22)) := kp_start HL.out
  clear HL
  obtain ⟨x0, x1, x2, x3, x4, x5, x6, x7, _⟩ := kp_all (kp_drew K0)
  go_region_with (first | (go_at_call 5; (with_reducible refine (mcis c (by omega) (by omega) _ (kp_laid (kp_drew K0))).mono ?_); rintro e w1 ⟨rfl, hb⟩; have K1 := kp_next (kp_drew K0) hb; obtain ⟨z0, z1, z2, z3, z4, z5, z6, z7, _⟩ := kp_all K1) | (go_at_call 5; (with_reducible refine (mcis 196 (by omega) (by omega) _ (kp_laid K1)).mono ?_); rintro e w2 ⟨rfl, hb2⟩; have K2 := kp_next K1 hb2; obtain ⟨y0, y1, y2, y3, y4, y5, y6, y7, _⟩ := kp_all K2))
  all_goals
    go_wp2_with fail
    go_ret
    exact ⟨rfl, K2.h3⟩
set_option maxHeartbeats 8000000 in
set_option maxRecDepth 100000 in
theorem law3 (c : Int) (h0 : 160 ≤ c) (h1 : c ≤ 191) (w : World) (hl : Laid w) : Calls Tryd.prog 3 #[.int .u8 c] w fun e w' => e = .returned (.bool true) ∧ Below w.heap.size w w' := by
  have a_isBin : isBin c = false := by unfold isBin; simp; omega
  have a_isExt : isExt c = false := by unfold isExt; simp; omega
  have a_isArr : isArr c = false := by unfold isArr; simp; omega
  have a_isFExt : isFExt c = false := by unfold isFExt; simp; omega
  have a_isMap : isMap c = false := by unfold isMap; simp; omega
  have a_isNum : isNum c = false := by unfold isNum; simp; omega
  have a_isFStr : isFStr c = true := by unfold isFStr; simp; omega
  have a_isStr : isStr c = true := by unfold isStr; simp; omega
  have b_isBin : isBin 196 = true := by decide
  have b_isExt : isExt 196 = false := by decide
  have b_isArr : isArr 196 = false := by decide
  have b_isFExt : isFExt 196 = false := by decide
  have b_isMap : isMap 196 = false := by decide
  have b_isNum : isNum 196 = false := by decide
  have b_isFStr : isFStr 196 = false := by decide
  have b_isStr : isStr 196 = false := by decide
  have m196 : decide (196 ≤ c) = false := by simp; omega
  have m212 : decide (212 ≤ c) = false := by simp; omega
  have m199 : decide (199 ≤ c) = false := by simp; omega
  have m144 : decide (144 ≤ c) = true := by simp; omega
  have m128 : decide (128 ≤ c) = true := by simp; omega
  have m224 : decide (224 ≤ c) = false := by simp; omega
  have m160 : decide (160 ≤ c) = true := by simp; omega
  have m217 : decide (217 ≤ c) = false := by simp; omega
  have l198 : decide (c ≤ 198) = true := by simp; omega
  have l216 : decide (c ≤ 216) = true := by simp; omega
  have l201 : decide (c ≤ 201) = true := by simp; omega
  have l159 : decide (c ≤ 159) = false := by simp; omega
  have l143 : decide (c ≤ 143) = false := by simp; omega
  have l127 : decide (c ≤ 127) = false := by simp; omega
  have l191 : decide (c ≤ 191) = true := by simp; omega
  have l219 : decide (c ≤ 219) = true := by simp; omega
  have heq : ∀ w' : World, Sem.run Tryd.prog (Op.equalIn 10000 22 (.agg #[.bool false, .bool false, .bool false, .bool false, .bool false, .bool false, .bool true, .bool true]) (.agg #[.bool false, .bool false, .bool false, .bool false, .bool false, .bool false, .bool true, .bool true])) w' = .ok true w' := fun _ => by kernel_rfl
  have hix : ∀ w' : World, Sem.run Tryd.prog (Instr.index 22 (.agg #[.bool true, .bool false, .bool false, .bool false, .bool false, .bool false, .bool false, .bool false]) (.int .i64 0)) w' = .ok (.bool true) w' := fun _ => by kernel_rfl
  have HL := Lib.hid hl; clear hl
  go_enter Tryd.func3, Tryd.ntmps3
  go_wp2_with fail
  any_goals (rename_i x b hq hb K ha; exact absurd hq (by simp [undef]))
  have K0 : Kp w #[.bool false, .bool false, .bool false, .bool false, .bool false, .bool false, .bool true, .bool true] (w.alloc (.cells #[.bool false, .bool false, .bool false, .bool false, .bool false, .bool false, .bool true, .bool true] 22)) := kp_start HL.out
  clear HL
  obtain ⟨x0, x1, x2, x3, x4, x5, x6, x7, _⟩ := kp_all (kp_drew K0)
  go_region_with (first | (go_at_call 5; (with_reducible refine (mcis c (by omega) (by omega) _ (kp_laid (kp_drew K0))).mono ?_); rintro e w1 ⟨rfl, hb⟩; have K1 := kp_next (kp_drew K0) hb; obtain ⟨z0, z1, z2, z3, z4, z5, z6, z7, _⟩ := kp_all K1) | (go_at_call 5; (with_reducible refine (mcis 196 (by omega) (by omega) _ (kp_laid K1)).mono ?_); rintro e w2 ⟨rfl, hb2⟩; have K2 := kp_next K1 hb2; obtain ⟨y0, y1, y2, y3, y4, y5, y6, y7, _⟩ := kp_all K2))
  all_goals
    go_wp2_with fail
    go_ret
    exact ⟨rfl, K2.h3⟩
set_option maxHeartbeats 8000000 in
set_option maxRecDepth 100000 in
theorem law4 (c : Int) (h0 : 192 ≤ c) (h1 : c ≤ 195) (w : World) (hl : Laid w) : Calls Tryd.prog 3 #[.int .u8 c] w fun e w' => e = .returned (.bool true) ∧ Below w.heap.size w w' := by
  have a_isBin : isBin c = false := by unfold isBin; simp; omega
  have a_isExt : isExt c = false := by unfold isExt; simp; omega
  have a_isArr : isArr c = false := by unfold isArr; simp; omega
  have a_isFExt : isFExt c = false := by unfold isFExt; simp; omega
  have a_isMap : isMap c = false := by unfold isMap; simp; omega
  have a_isNum : isNum c = false := by unfold isNum; simp; omega
  have a_isFStr : isFStr c = false := by unfold isFStr; simp; omega
  have a_isStr : isStr c = false := by unfold isStr; simp; omega
  have b_isBin : isBin 196 = true := by decide
  have b_isExt : isExt 196 = false := by decide
  have b_isArr : isArr 196 = false := by decide
  have b_isFExt : isFExt 196 = false := by decide
  have b_isMap : isMap 196 = false := by decide
  have b_isNum : isNum 196 = false := by decide
  have b_isFStr : isFStr 196 = false := by decide
  have b_isStr : isStr 196 = false := by decide
  have m196 : decide (196 ≤ c) = false := by simp; omega
  have m212 : decide (212 ≤ c) = false := by simp; omega
  have m199 : decide (199 ≤ c) = false := by simp; omega
  have m144 : decide (144 ≤ c) = true := by simp; omega
  have m128 : decide (128 ≤ c) = true := by simp; omega
  have m224 : decide (224 ≤ c) = false := by simp; omega
  have m160 : decide (160 ≤ c) = true := by simp; omega
  have m217 : decide (217 ≤ c) = false := by simp; omega
  have l198 : decide (c ≤ 198) = true := by simp; omega
  have l216 : decide (c ≤ 216) = true := by simp; omega
  have l201 : decide (c ≤ 201) = true := by simp; omega
  have l159 : decide (c ≤ 159) = false := by simp; omega
  have l143 : decide (c ≤ 143) = false := by simp; omega
  have l127 : decide (c ≤ 127) = false := by simp; omega
  have l191 : decide (c ≤ 191) = false := by simp; omega
  have l219 : decide (c ≤ 219) = true := by simp; omega
  have heq : ∀ w' : World, Sem.run Tryd.prog (Op.equalIn 10000 22 (.agg #[.bool false, .bool false, .bool false, .bool false, .bool false, .bool false, .bool false, .bool false]) (.agg #[.bool false, .bool false, .bool false, .bool false, .bool false, .bool false, .bool false, .bool false])) w' = .ok true w' := fun _ => by kernel_rfl
  have hix : ∀ w' : World, Sem.run Tryd.prog (Instr.index 22 (.agg #[.bool true, .bool false, .bool false, .bool false, .bool false, .bool false, .bool false, .bool false]) (.int .i64 0)) w' = .ok (.bool true) w' := fun _ => by kernel_rfl
  have HL := Lib.hid hl; clear hl
  go_enter Tryd.func3, Tryd.ntmps3
  go_wp2_with fail
  have K0 : Kp w #[.bool false, .bool false, .bool false, .bool false, .bool false, .bool false, .bool false, .bool false] (w.alloc (.cells #[.bool false, .bool false, .bool false, .bool false, .bool false, .bool false, .bool false, .bool false] 22)) := kp_start HL.out
  clear HL
  obtain ⟨x0, x1, x2, x3, x4, x5, x6, x7, _⟩ := kp_all (kp_drew K0)
  go_region_with (first | (go_at_call 5; (with_reducible refine (mcis c (by omega) (by omega) _ (kp_laid (kp_drew K0))).mono ?_); rintro e w1 ⟨rfl, hb⟩; have K1 := kp_next (kp_drew K0) hb; obtain ⟨z0, z1, z2, z3, z4, z5, z6, z7, _⟩ := kp_all K1) | (go_at_call 5; (with_reducible refine (mcis 196 (by omega) (by omega) _ (kp_laid K1)).mono ?_); rintro e w2 ⟨rfl, hb2⟩; have K2 := kp_next K1 hb2; obtain ⟨y0, y1, y2, y3, y4, y5, y6, y7, _⟩ := kp_all K2))
  all_goals
    go_wp2_with fail
    go_ret
    exact ⟨rfl, K2.h3⟩
set_option maxHeartbeats 8000000 in
set_option maxRecDepth 100000 in
theorem law5 (c : Int) (h0 : 196 ≤ c) (h1 : c ≤ 196) (w : World) (hl : Laid w) : Calls Tryd.prog 3 #[.int .u8 c] w fun e w' => e = .returned (.bool true) ∧ Below w.heap.size w w' := by
  have a_isBin : isBin c = true := by unfold isBin; simp; omega
  have a_isExt : isExt c = false := by unfold isExt; simp; omega
  have a_isArr : isArr c = false := by unfold isArr; simp; omega
  have a_isFExt : isFExt c = false := by unfold isFExt; simp; omega
  have a_isMap : isMap c = false := by unfold isMap; simp; omega
  have a_isNum : isNum c = false := by unfold isNum; simp; omega
  have a_isFStr : isFStr c = false := by unfold isFStr; simp; omega
  have a_isStr : isStr c = false := by unfold isStr; simp; omega
  have b_isBin : isBin 196 = true := by decide
  have b_isExt : isExt 196 = false := by decide
  have b_isArr : isArr 196 = false := by decide
  have b_isFExt : isFExt 196 = false := by decide
  have b_isMap : isMap 196 = false := by decide
  have b_isNum : isNum 196 = false := by decide
  have b_isFStr : isFStr 196 = false := by decide
  have b_isStr : isStr 196 = false := by decide
  have m196 : decide (196 ≤ c) = true := by simp; omega
  have m212 : decide (212 ≤ c) = false := by simp; omega
  have m199 : decide (199 ≤ c) = false := by simp; omega
  have m144 : decide (144 ≤ c) = true := by simp; omega
  have m128 : decide (128 ≤ c) = true := by simp; omega
  have m224 : decide (224 ≤ c) = false := by simp; omega
  have m160 : decide (160 ≤ c) = true := by simp; omega
  have m217 : decide (217 ≤ c) = false := by simp; omega
  have l198 : decide (c ≤ 198) = true := by simp; omega
  have l216 : decide (c ≤ 216) = true := by simp; omega
  have l201 : decide (c ≤ 201) = true := by simp; omega
  have l159 : decide (c ≤ 159) = false := by simp; omega
  have l143 : decide (c ≤ 143) = false := by simp; omega
  have l127 : decide (c ≤ 127) = false := by simp; omega
  have l191 : decide (c ≤ 191) = false := by simp; omega
  have l219 : decide (c ≤ 219) = true := by simp; omega
  have heq : ∀ w' : World, Sem.run Tryd.prog (Op.equalIn 10000 22 (.agg #[.bool true, .bool false, .bool false, .bool false, .bool false, .bool false, .bool false, .bool false]) (.agg #[.bool true, .bool false, .bool false, .bool false, .bool false, .bool false, .bool false, .bool false])) w' = .ok true w' := fun _ => by kernel_rfl
  have hix : ∀ w' : World, Sem.run Tryd.prog (Instr.index 22 (.agg #[.bool true, .bool false, .bool false, .bool false, .bool false, .bool false, .bool false, .bool false]) (.int .i64 0)) w' = .ok (.bool true) w' := fun _ => by kernel_rfl
  have HL := Lib.hid hl; clear hl
  go_enter Tryd.func3, Tryd.ntmps3
  go_wp2_with fail
  have K0 : Kp w #[.bool true, .bool false, .bool false, .bool false, .bool false, .bool false, .bool false, .bool false] (w.alloc (.cells #[.bool true, .bool false, .bool false, .bool false, .bool false, .bool false, .bool false, .bool false] 22)) := kp_start HL.out
  clear HL
  obtain ⟨x0, x1, x2, x3, x4, x5, x6, x7, _⟩ := kp_all (kp_drew K0)
  go_region_with (first | (go_at_call 5; (with_reducible refine (mcis c (by omega) (by omega) _ (kp_laid (kp_drew K0))).mono ?_); rintro e w1 ⟨rfl, hb⟩; have K1 := kp_next (kp_drew K0) hb; obtain ⟨z0, z1, z2, z3, z4, z5, z6, z7, _⟩ := kp_all K1) | (go_at_call 5; (with_reducible refine (mcis 196 (by omega) (by omega) _ (kp_laid K1)).mono ?_); rintro e w2 ⟨rfl, hb2⟩; have K2 := kp_next K1 hb2; obtain ⟨y0, y1, y2, y3, y4, y5, y6, y7, _⟩ := kp_all K2))
  all_goals
    go_wp2_with fail
    go_ret
    exact ⟨rfl, K2.h3⟩
end Go.Proofs.YtlagcfdojbjmmaaDoor.Mcis
