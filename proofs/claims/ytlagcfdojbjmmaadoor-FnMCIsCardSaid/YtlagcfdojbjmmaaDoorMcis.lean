/- The walks of the law on kinds of codes: each kind is told by its function as the ranges say; in each of eighteen ranges of a byte all answers are plain; the listed variables hold what the text lays. -/
import Derived.Test.YtlagcfdojbjmmaaDoorProg
import Derived.WalkKit
import Derived.Deep.RegionHeld3
import Derived.BigQuiet
import Derived.Below
import Derived.KernelRfl
import Derived.Lib.Hide
import Derived.Deep.RegionWith
import Derived.Deep.DeepCutAuto
namespace Go.Proofs.YtlagcfdojbjmmaaDoor.Mcis
open Go.RowKit
set_option linter.unusedVariables false
/-- What the listed variables hold. -/
structure Laid (w : World) : Prop where
  g0 : w.cell? ⟨0, 0, none⟩ = some (.int .u8 196)
  g1 : w.cell? ⟨1, 0, none⟩ = some (.int .u8 197)
  g2 : w.cell? ⟨2, 0, none⟩ = some (.int .u8 198)
  g3 : w.cell? ⟨3, 0, none⟩ = some (.int .u8 199)
  g4 : w.cell? ⟨4, 0, none⟩ = some (.int .u8 200)
  g5 : w.cell? ⟨5, 0, none⟩ = some (.int .u8 201)
  g6 : w.cell? ⟨6, 0, none⟩ = some (.int .u8 144)
  g7 : w.cell? ⟨7, 0, none⟩ = some (.int .u8 159)
  g8 : w.cell? ⟨8, 0, none⟩ = some (.int .u8 212)
  g9 : w.cell? ⟨9, 0, none⟩ = some (.int .u8 216)
  g10 : w.cell? ⟨10, 0, none⟩ = some (.int .u8 128)
  g11 : w.cell? ⟨11, 0, none⟩ = some (.int .u8 143)
  g12 : w.cell? ⟨12, 0, none⟩ = some (.int .u8 127)
  g13 : w.cell? ⟨13, 0, none⟩ = some (.int .u8 224)
  g14 : w.cell? ⟨14, 0, none⟩ = some (.int .u8 160)
  g15 : w.cell? ⟨15, 0, none⟩ = some (.int .u8 191)
  g16 : w.cell? ⟨16, 0, none⟩ = some (.int .u8 217)
  g17 : w.cell? ⟨17, 0, none⟩ = some (.int .u8 218)
  g18 : w.cell? ⟨18, 0, none⟩ = some (.int .u8 219)
  big : 19 ≤ w.heap.size
theorem Laid.below {w w' : World} (h : Laid w) (hb : Below w.heap.size w w') : Laid w' where
  g0 := by rw [hb.cell (show 0 < w.heap.size by have := h.big; omega)]; exact h.g0
  g1 := by rw [hb.cell (show 1 < w.heap.size by have := h.big; omega)]; exact h.g1
  g2 := by rw [hb.cell (show 2 < w.heap.size by have := h.big; omega)]; exact h.g2
  g3 := by rw [hb.cell (show 3 < w.heap.size by have := h.big; omega)]; exact h.g3
  g4 := by rw [hb.cell (show 4 < w.heap.size by have := h.big; omega)]; exact h.g4
  g5 := by rw [hb.cell (show 5 < w.heap.size by have := h.big; omega)]; exact h.g5
  g6 := by rw [hb.cell (show 6 < w.heap.size by have := h.big; omega)]; exact h.g6
  g7 := by rw [hb.cell (show 7 < w.heap.size by have := h.big; omega)]; exact h.g7
  g8 := by rw [hb.cell (show 8 < w.heap.size by have := h.big; omega)]; exact h.g8
  g9 := by rw [hb.cell (show 9 < w.heap.size by have := h.big; omega)]; exact h.g9
  g10 := by rw [hb.cell (show 10 < w.heap.size by have := h.big; omega)]; exact h.g10
  g11 := by rw [hb.cell (show 11 < w.heap.size by have := h.big; omega)]; exact h.g11
  g12 := by rw [hb.cell (show 12 < w.heap.size by have := h.big; omega)]; exact h.g12
  g13 := by rw [hb.cell (show 13 < w.heap.size by have := h.big; omega)]; exact h.g13
  g14 := by rw [hb.cell (show 14 < w.heap.size by have := h.big; omega)]; exact h.g14
  g15 := by rw [hb.cell (show 15 < w.heap.size by have := h.big; omega)]; exact h.g15
  g16 := by rw [hb.cell (show 16 < w.heap.size by have := h.big; omega)]; exact h.g16
  g17 := by rw [hb.cell (show 17 < w.heap.size by have := h.big; omega)]; exact h.g17
  g18 := by rw [hb.cell (show 18 < w.heap.size by have := h.big; omega)]; exact h.g18
  big := by have := h.big; have := hb.size; omega
def isBin (c : Int) : Bool := decide (196 ≤ c ∧ c ≤ 198)
def isExt (c : Int) : Bool := decide ((212 ≤ c ∧ c ≤ 216) ∨ (199 ≤ c ∧ c ≤ 201))
def isArr (c : Int) : Bool := decide (144 ≤ c ∧ c ≤ 159)
def isFExt (c : Int) : Bool := decide (212 ≤ c ∧ c ≤ 216)
def isMap (c : Int) : Bool := decide (128 ≤ c ∧ c ≤ 143)
def isNum (c : Int) : Bool := decide (c ≤ 127 ∨ 224 ≤ c)
def isFStr (c : Int) : Bool := decide (160 ≤ c ∧ c ≤ 191)
def isStr (c : Int) : Bool := decide ((160 ≤ c ∧ c ≤ 191) ∨ (217 ≤ c ∧ c ≤ 219))
theorem isBin_0 (c : Int) (h0 : 0 ≤ c) (h1 : c ≤ 195) (w : World) (hl : Laid w) : Calls Tryd.prog 7 #[.int .u8 c] w fun e w' => e = .returned (.bool false) ∧ w' = w := by
  have e196 : (c == 196) = false := beq_eq_false_iff_ne.2 (by omega)
  have e197 : (c == 197) = false := beq_eq_false_iff_ne.2 (by omega)
  have e198 : (c == 198) = false := beq_eq_false_iff_ne.2 (by omega)
  have e199 : (c == 199) = false := beq_eq_false_iff_ne.2 (by omega)
  have e200 : (c == 200) = false := beq_eq_false_iff_ne.2 (by omega)
  have e201 : (c == 201) = false := beq_eq_false_iff_ne.2 (by omega)
  have e217 : (c == 217) = false := beq_eq_false_iff_ne.2 (by omega)
  have e218 : (c == 218) = false := beq_eq_false_iff_ne.2 (by omega)
  have e219 : (c == 219) = false := beq_eq_false_iff_ne.2 (by omega)
  have l216 : decide (c ≤ 216) = true := by simp; omega
  have m224 : decide (224 ≤ c) = false := by simp; omega
  have m212 : decide (212 ≤ c) = false := by simp; omega
  obtain ⟨g0, g1, g2, g3, g4, g5, g6, g7, g8, g9, g10, g11, g12, g13, g14, g15, g16, g17, g18, hbig⟩ := hl
  go_enter Tryd.func7, Tryd.ntmps7
  go_wp2
  go_ret
  exact ⟨rfl, rfl⟩
theorem isBin_1 (c : Int) (h0 : 196 ≤ c) (h1 : c ≤ 196) (w : World) (hl : Laid w) : Calls Tryd.prog 7 #[.int .u8 c] w fun e w' => e = .returned (.bool true) ∧ w' = w := by
  obtain rfl : c = 196 := by omega
  clear h0 h1
  obtain ⟨g0, g1, g2, g3, g4, g5, g6, g7, g8, g9, g10, g11, g12, g13, g14, g15, g16, g17, g18, hbig⟩ := hl
  go_enter Tryd.func7, Tryd.ntmps7
  go_wp2
  go_ret
  exact ⟨rfl, rfl⟩
theorem isBin_2 (c : Int) (h0 : 197 ≤ c) (h1 : c ≤ 197) (w : World) (hl : Laid w) : Calls Tryd.prog 7 #[.int .u8 c] w fun e w' => e = .returned (.bool true) ∧ w' = w := by
  obtain rfl : c = 197 := by omega
  clear h0 h1
  obtain ⟨g0, g1, g2, g3, g4, g5, g6, g7, g8, g9, g10, g11, g12, g13, g14, g15, g16, g17, g18, hbig⟩ := hl
  go_enter Tryd.func7, Tryd.ntmps7
  go_wp2
  go_ret
  exact ⟨rfl, rfl⟩
theorem isBin_3 (c : Int) (h0 : 198 ≤ c) (h1 : c ≤ 198) (w : World) (hl : Laid w) : Calls Tryd.prog 7 #[.int .u8 c] w fun e w' => e = .returned (.bool true) ∧ w' = w := by
  obtain rfl : c = 198 := by omega
  clear h0 h1
  obtain ⟨g0, g1, g2, g3, g4, g5, g6, g7, g8, g9, g10, g11, g12, g13, g14, g15, g16, g17, g18, hbig⟩ := hl
  go_enter Tryd.func7, Tryd.ntmps7
  go_wp2
  go_ret
  exact ⟨rfl, rfl⟩
theorem isBin_4 (c : Int) (h0 : 199 ≤ c) (h1 : c ≤ 255) (w : World) (hl : Laid w) : Calls Tryd.prog 7 #[.int .u8 c] w fun e w' => e = .returned (.bool false) ∧ w' = w := by
  have e196 : (c == 196) = false := beq_eq_false_iff_ne.2 (by omega)
  have e197 : (c == 197) = false := beq_eq_false_iff_ne.2 (by omega)
  have e198 : (c == 198) = false := beq_eq_false_iff_ne.2 (by omega)
  have l127 : decide (c ≤ 127) = false := by simp; omega
  have l143 : decide (c ≤ 143) = false := by simp; omega
  have l159 : decide (c ≤ 159) = false := by simp; omega
  have l191 : decide (c ≤ 191) = false := by simp; omega
  have m128 : decide (128 ≤ c) = true := by simp; omega
  have m144 : decide (144 ≤ c) = true := by simp; omega
  have m160 : decide (160 ≤ c) = true := by simp; omega
  obtain ⟨g0, g1, g2, g3, g4, g5, g6, g7, g8, g9, g10, g11, g12, g13, g14, g15, g16, g17, g18, hbig⟩ := hl
  go_enter Tryd.func7, Tryd.ntmps7
  go_wp2
  go_ret
  exact ⟨rfl, rfl⟩
theorem isBin_is (c : Int) (h0 : 0 ≤ c) (h1 : c ≤ 255) (w : World) (hl : Laid w) : Calls Tryd.prog 7 #[.int .u8 c] w fun e w' => e = .returned (.bool (isBin c)) ∧ w' = w := by
  by_cases k0 : 0 ≤ c ∧ c ≤ 195
  · rw [show isBin c = false from by unfold isBin; simp; omega]
    exact isBin_0 c k0.1 k0.2 w hl
  by_cases k1 : 196 ≤ c ∧ c ≤ 196
  · rw [show isBin c = true from by unfold isBin; simp; omega]
    exact isBin_1 c k1.1 k1.2 w hl
  by_cases k2 : 197 ≤ c ∧ c ≤ 197
  · rw [show isBin c = true from by unfold isBin; simp; omega]
    exact isBin_2 c k2.1 k2.2 w hl
  by_cases k3 : 198 ≤ c ∧ c ≤ 198
  · rw [show isBin c = true from by unfold isBin; simp; omega]
    exact isBin_3 c k3.1 k3.2 w hl
  by_cases k4 : 199 ≤ c ∧ c ≤ 255
  · rw [show isBin c = false from by unfold isBin; simp; omega]
    exact isBin_4 c k4.1 k4.2 w hl
  · exfalso; omega
theorem isExt_0 (c : Int) (h0 : 0 ≤ c) (h1 : c ≤ 198) (w : World) (hl : Laid w) : Calls Tryd.prog 8 #[.int .u8 c] w fun e w' => e = .returned (.bool false) ∧ w' = w := by
  have e199 : (c == 199) = false := beq_eq_false_iff_ne.2 (by omega)
  have e200 : (c == 200) = false := beq_eq_false_iff_ne.2 (by omega)
  have e201 : (c == 201) = false := beq_eq_false_iff_ne.2 (by omega)
  have e217 : (c == 217) = false := beq_eq_false_iff_ne.2 (by omega)
  have e218 : (c == 218) = false := beq_eq_false_iff_ne.2 (by omega)
  have e219 : (c == 219) = false := beq_eq_false_iff_ne.2 (by omega)
  have l216 : decide (c ≤ 216) = true := by simp; omega
  have m224 : decide (224 ≤ c) = false := by simp; omega
  have m212 : decide (212 ≤ c) = false := by simp; omega
  obtain ⟨g0, g1, g2, g3, g4, g5, g6, g7, g8, g9, g10, g11, g12, g13, g14, g15, g16, g17, g18, hbig⟩ := hl
  go_enter Tryd.func8, Tryd.ntmps8
  go_wp2
  go_ret
  exact ⟨rfl, rfl⟩
theorem isExt_1 (c : Int) (h0 : 199 ≤ c) (h1 : c ≤ 199) (w : World) (hl : Laid w) : Calls Tryd.prog 8 #[.int .u8 c] w fun e w' => e = .returned (.bool true) ∧ w' = w := by
  obtain rfl : c = 199 := by omega
  clear h0 h1
  obtain ⟨g0, g1, g2, g3, g4, g5, g6, g7, g8, g9, g10, g11, g12, g13, g14, g15, g16, g17, g18, hbig⟩ := hl
  go_enter Tryd.func8, Tryd.ntmps8
  go_wp2
  go_ret
  exact ⟨rfl, rfl⟩
theorem isExt_2 (c : Int) (h0 : 200 ≤ c) (h1 : c ≤ 200) (w : World) (hl : Laid w) : Calls Tryd.prog 8 #[.int .u8 c] w fun e w' => e = .returned (.bool true) ∧ w' = w := by
  obtain rfl : c = 200 := by omega
  clear h0 h1
  obtain ⟨g0, g1, g2, g3, g4, g5, g6, g7, g8, g9, g10, g11, g12, g13, g14, g15, g16, g17, g18, hbig⟩ := hl
  go_enter Tryd.func8, Tryd.ntmps8
  go_wp2
  go_ret
  exact ⟨rfl, rfl⟩
theorem isExt_3 (c : Int) (h0 : 201 ≤ c) (h1 : c ≤ 201) (w : World) (hl : Laid w) : Calls Tryd.prog 8 #[.int .u8 c] w fun e w' => e = .returned (.bool true) ∧ w' = w := by
  obtain rfl : c = 201 := by omega
  clear h0 h1
  obtain ⟨g0, g1, g2, g3, g4, g5, g6, g7, g8, g9, g10, g11, g12, g13, g14, g15, g16, g17, g18, hbig⟩ := hl
  go_enter Tryd.func8, Tryd.ntmps8
  go_wp2
  go_ret
  exact ⟨rfl, rfl⟩
theorem isExt_4 (c : Int) (h0 : 202 ≤ c) (h1 : c ≤ 211) (w : World) (hl : Laid w) : Calls Tryd.prog 8 #[.int .u8 c] w fun e w' => e = .returned (.bool false) ∧ w' = w := by
  have e196 : (c == 196) = false := beq_eq_false_iff_ne.2 (by omega)
  have e197 : (c == 197) = false := beq_eq_false_iff_ne.2 (by omega)
  have e198 : (c == 198) = false := beq_eq_false_iff_ne.2 (by omega)
  have e199 : (c == 199) = false := beq_eq_false_iff_ne.2 (by omega)
  have e200 : (c == 200) = false := beq_eq_false_iff_ne.2 (by omega)
  have e201 : (c == 201) = false := beq_eq_false_iff_ne.2 (by omega)
  have e217 : (c == 217) = false := beq_eq_false_iff_ne.2 (by omega)
  have e218 : (c == 218) = false := beq_eq_false_iff_ne.2 (by omega)
  have e219 : (c == 219) = false := beq_eq_false_iff_ne.2 (by omega)
  have l127 : decide (c ≤ 127) = false := by simp; omega
  have l143 : decide (c ≤ 143) = false := by simp; omega
  have l159 : decide (c ≤ 159) = false := by simp; omega
  have l191 : decide (c ≤ 191) = false := by simp; omega
  have l216 : decide (c ≤ 216) = true := by simp; omega
  have m224 : decide (224 ≤ c) = false := by simp; omega
  have m128 : decide (128 ≤ c) = true := by simp; omega
  have m144 : decide (144 ≤ c) = true := by simp; omega
  have m160 : decide (160 ≤ c) = true := by simp; omega
  have m212 : decide (212 ≤ c) = false := by simp; omega
  obtain ⟨g0, g1, g2, g3, g4, g5, g6, g7, g8, g9, g10, g11, g12, g13, g14, g15, g16, g17, g18, hbig⟩ := hl
  go_enter Tryd.func8, Tryd.ntmps8
  go_wp2
  go_ret
  exact ⟨rfl, rfl⟩
theorem isExt_5 (c : Int) (h0 : 212 ≤ c) (h1 : c ≤ 216) (w : World) (hl : Laid w) : Calls Tryd.prog 8 #[.int .u8 c] w fun e w' => e = .returned (.bool true) ∧ w' = w := by
  have e196 : (c == 196) = false := beq_eq_false_iff_ne.2 (by omega)
  have e197 : (c == 197) = false := beq_eq_false_iff_ne.2 (by omega)
  have e198 : (c == 198) = false := beq_eq_false_iff_ne.2 (by omega)
  have e199 : (c == 199) = false := beq_eq_false_iff_ne.2 (by omega)
  have e200 : (c == 200) = false := beq_eq_false_iff_ne.2 (by omega)
  have e201 : (c == 201) = false := beq_eq_false_iff_ne.2 (by omega)
  have e217 : (c == 217) = false := beq_eq_false_iff_ne.2 (by omega)
  have e218 : (c == 218) = false := beq_eq_false_iff_ne.2 (by omega)
  have e219 : (c == 219) = false := beq_eq_false_iff_ne.2 (by omega)
  have l127 : decide (c ≤ 127) = false := by simp; omega
  have l143 : decide (c ≤ 143) = false := by simp; omega
  have l159 : decide (c ≤ 159) = false := by simp; omega
  have l191 : decide (c ≤ 191) = false := by simp; omega
  have l216 : decide (c ≤ 216) = true := by simp; omega
  have m224 : decide (224 ≤ c) = false := by simp; omega
  have m128 : decide (128 ≤ c) = true := by simp; omega
  have m144 : decide (144 ≤ c) = true := by simp; omega
  have m160 : decide (160 ≤ c) = true := by simp; omega
  have m212 : decide (212 ≤ c) = true := by simp; omega
  obtain ⟨g0, g1, g2, g3, g4, g5, g6, g7, g8, g9, g10, g11, g12, g13, g14, g15, g16, g17, g18, hbig⟩ := hl
  go_enter Tryd.func8, Tryd.ntmps8
  go_wp2
  go_ret
  exact ⟨rfl, rfl⟩
theorem isExt_6 (c : Int) (h0 : 217 ≤ c) (h1 : c ≤ 255) (w : World) (hl : Laid w) : Calls Tryd.prog 8 #[.int .u8 c] w fun e w' => e = .returned (.bool false) ∧ w' = w := by
  have e196 : (c == 196) = false := beq_eq_false_iff_ne.2 (by omega)
  have e197 : (c == 197) = false := beq_eq_false_iff_ne.2 (by omega)
  have e198 : (c == 198) = false := beq_eq_false_iff_ne.2 (by omega)
  have e199 : (c == 199) = false := beq_eq_false_iff_ne.2 (by omega)
  have e200 : (c == 200) = false := beq_eq_false_iff_ne.2 (by omega)
  have e201 : (c == 201) = false := beq_eq_false_iff_ne.2 (by omega)
  have l127 : decide (c ≤ 127) = false := by simp; omega
  have l143 : decide (c ≤ 143) = false := by simp; omega
  have l159 : decide (c ≤ 159) = false := by simp; omega
  have l191 : decide (c ≤ 191) = false := by simp; omega
  have l216 : decide (c ≤ 216) = false := by simp; omega
  have m128 : decide (128 ≤ c) = true := by simp; omega
  have m144 : decide (144 ≤ c) = true := by simp; omega
  have m160 : decide (160 ≤ c) = true := by simp; omega
  have m212 : decide (212 ≤ c) = true := by simp; omega
  obtain ⟨g0, g1, g2, g3, g4, g5, g6, g7, g8, g9, g10, g11, g12, g13, g14, g15, g16, g17, g18, hbig⟩ := hl
  go_enter Tryd.func8, Tryd.ntmps8
  go_wp2
  go_ret
  exact ⟨rfl, rfl⟩
theorem isExt_is (c : Int) (h0 : 0 ≤ c) (h1 : c ≤ 255) (w : World) (hl : Laid w) : Calls Tryd.prog 8 #[.int .u8 c] w fun e w' => e = .returned (.bool (isExt c)) ∧ w' = w := by
  by_cases k0 : 0 ≤ c ∧ c ≤ 198
  · rw [show isExt c = false from by unfold isExt; simp; omega]
    exact isExt_0 c k0.1 k0.2 w hl
  by_cases k1 : 199 ≤ c ∧ c ≤ 199
  · rw [show isExt c = true from by unfold isExt; simp; omega]
    exact isExt_1 c k1.1 k1.2 w hl
  by_cases k2 : 200 ≤ c ∧ c ≤ 200
  · rw [show isExt c = true from by unfold isExt; simp; omega]
    exact isExt_2 c k2.1 k2.2 w hl
  by_cases k3 : 201 ≤ c ∧ c ≤ 201
  · rw [show isExt c = true from by unfold isExt; simp; omega]
    exact isExt_3 c k3.1 k3.2 w hl
  by_cases k4 : 202 ≤ c ∧ c ≤ 211
  · rw [show isExt c = false from by unfold isExt; simp; omega]
    exact isExt_4 c k4.1 k4.2 w hl
  by_cases k5 : 212 ≤ c ∧ c ≤ 216
  · rw [show isExt c = true from by unfold isExt; simp; omega]
    exact isExt_5 c k5.1 k5.2 w hl
  by_cases k6 : 217 ≤ c ∧ c ≤ 255
  · rw [show isExt c = false from by unfold isExt; simp; omega]
    exact isExt_6 c k6.1 k6.2 w hl
  · exfalso; omega
theorem isArr_0 (c : Int) (h0 : 0 ≤ c) (h1 : c ≤ 143) (w : World) (hl : Laid w) : Calls Tryd.prog 9 #[.int .u8 c] w fun e w' => e = .returned (.bool false) ∧ w' = w := by
  have e196 : (c == 196) = false := beq_eq_false_iff_ne.2 (by omega)
  have e197 : (c == 197) = false := beq_eq_false_iff_ne.2 (by omega)
  have e198 : (c == 198) = false := beq_eq_false_iff_ne.2 (by omega)
  have e199 : (c == 199) = false := beq_eq_false_iff_ne.2 (by omega)
  have e200 : (c == 200) = false := beq_eq_false_iff_ne.2 (by omega)
  have e201 : (c == 201) = false := beq_eq_false_iff_ne.2 (by omega)
  have e217 : (c == 217) = false := beq_eq_false_iff_ne.2 (by omega)
  have e218 : (c == 218) = false := beq_eq_false_iff_ne.2 (by omega)
  have e219 : (c == 219) = false := beq_eq_false_iff_ne.2 (by omega)
  have l143 : decide (c ≤ 143) = true := by simp; omega
  have l159 : decide (c ≤ 159) = true := by simp; omega
  have l191 : decide (c ≤ 191) = true := by simp; omega
  have l216 : decide (c ≤ 216) = true := by simp; omega
  have m224 : decide (224 ≤ c) = false := by simp; omega
  have m144 : decide (144 ≤ c) = false := by simp; omega
  have m160 : decide (160 ≤ c) = false := by simp; omega
  have m212 : decide (212 ≤ c) = false := by simp; omega
  obtain ⟨g0, g1, g2, g3, g4, g5, g6, g7, g8, g9, g10, g11, g12, g13, g14, g15, g16, g17, g18, hbig⟩ := hl
  go_enter Tryd.func9, Tryd.ntmps9
  go_wp2
  go_ret
  exact ⟨rfl, rfl⟩
theorem isArr_1 (c : Int) (h0 : 144 ≤ c) (h1 : c ≤ 159) (w : World) (hl : Laid w) : Calls Tryd.prog 9 #[.int .u8 c] w fun e w' => e = .returned (.bool true) ∧ w' = w := by
  have e196 : (c == 196) = false := beq_eq_false_iff_ne.2 (by omega)
  have e197 : (c == 197) = false := beq_eq_false_iff_ne.2 (by omega)
  have e198 : (c == 198) = false := beq_eq_false_iff_ne.2 (by omega)
  have e199 : (c == 199) = false := beq_eq_false_iff_ne.2 (by omega)
  have e200 : (c == 200) = false := beq_eq_false_iff_ne.2 (by omega)
  have e201 : (c == 201) = false := beq_eq_false_iff_ne.2 (by omega)
  have e217 : (c == 217) = false := beq_eq_false_iff_ne.2 (by omega)
  have e218 : (c == 218) = false := beq_eq_false_iff_ne.2 (by omega)
  have e219 : (c == 219) = false := beq_eq_false_iff_ne.2 (by omega)
  have l127 : decide (c ≤ 127) = false := by simp; omega
  have l143 : decide (c ≤ 143) = false := by simp; omega
  have l159 : decide (c ≤ 159) = true := by simp; omega
  have l191 : decide (c ≤ 191) = true := by simp; omega
  have l216 : decide (c ≤ 216) = true := by simp; omega
  have m224 : decide (224 ≤ c) = false := by simp; omega
  have m128 : decide (128 ≤ c) = true := by simp; omega
  have m144 : decide (144 ≤ c) = true := by simp; omega
  have m160 : decide (160 ≤ c) = false := by simp; omega
  have m212 : decide (212 ≤ c) = false := by simp; omega
  obtain ⟨g0, g1, g2, g3, g4, g5, g6, g7, g8, g9, g10, g11, g12, g13, g14, g15, g16, g17, g18, hbig⟩ := hl
  go_enter Tryd.func9, Tryd.ntmps9
  go_wp2
  go_ret
  exact ⟨rfl, rfl⟩
theorem isArr_2 (c : Int) (h0 : 160 ≤ c) (h1 : c ≤ 255) (w : World) (hl : Laid w) : Calls Tryd.prog 9 #[.int .u8 c] w fun e w' => e = .returned (.bool false) ∧ w' = w := by
  have l127 : decide (c ≤ 127) = false := by simp; omega
  have l143 : decide (c ≤ 143) = false := by simp; omega
  have l159 : decide (c ≤ 159) = false := by simp; omega
  have m128 : decide (128 ≤ c) = true := by simp; omega
  have m144 : decide (144 ≤ c) = true := by simp; omega
  have m160 : decide (160 ≤ c) = true := by simp; omega
  obtain ⟨g0, g1, g2, g3, g4, g5, g6, g7, g8, g9, g10, g11, g12, g13, g14, g15, g16, g17, g18, hbig⟩ := hl
  go_enter Tryd.func9, Tryd.ntmps9
  go_wp2
  go_ret
  exact ⟨rfl, rfl⟩
theorem isArr_is (c : Int) (h0 : 0 ≤ c) (h1 : c ≤ 255) (w : World) (hl : Laid w) : Calls Tryd.prog 9 #[.int .u8 c] w fun e w' => e = .returned (.bool (isArr c)) ∧ w' = w := by
  by_cases k0 : 0 ≤ c ∧ c ≤ 143
  · rw [show isArr c = false from by unfold isArr; simp; omega]
    exact isArr_0 c k0.1 k0.2 w hl
  by_cases k1 : 144 ≤ c ∧ c ≤ 159
  · rw [show isArr c = true from by unfold isArr; simp; omega]
    exact isArr_1 c k1.1 k1.2 w hl
  by_cases k2 : 160 ≤ c ∧ c ≤ 255
  · rw [show isArr c = false from by unfold isArr; simp; omega]
    exact isArr_2 c k2.1 k2.2 w hl
  · exfalso; omega
theorem isFExt_0 (c : Int) (h0 : 0 ≤ c) (h1 : c ≤ 211) (w : World) (hl : Laid w) : Calls Tryd.prog 10 #[.int .u8 c] w fun e w' => e = .returned (.bool false) ∧ w' = w := by
  have e217 : (c == 217) = false := beq_eq_false_iff_ne.2 (by omega)
  have e218 : (c == 218) = false := beq_eq_false_iff_ne.2 (by omega)
  have e219 : (c == 219) = false := beq_eq_false_iff_ne.2 (by omega)
  have l216 : decide (c ≤ 216) = true := by simp; omega
  have m224 : decide (224 ≤ c) = false := by simp; omega
  have m212 : decide (212 ≤ c) = false := by simp; omega
  obtain ⟨g0, g1, g2, g3, g4, g5, g6, g7, g8, g9, g10, g11, g12, g13, g14, g15, g16, g17, g18, hbig⟩ := hl
  go_enter Tryd.func10, Tryd.ntmps10
  go_wp2
  go_ret
  exact ⟨rfl, rfl⟩
theorem isFExt_1 (c : Int) (h0 : 212 ≤ c) (h1 : c ≤ 216) (w : World) (hl : Laid w) : Calls Tryd.prog 10 #[.int .u8 c] w fun e w' => e = .returned (.bool true) ∧ w' = w := by
  have e196 : (c == 196) = false := beq_eq_false_iff_ne.2 (by omega)
  have e197 : (c == 197) = false := beq_eq_false_iff_ne.2 (by omega)
  have e198 : (c == 198) = false := beq_eq_false_iff_ne.2 (by omega)
  have e199 : (c == 199) = false := beq_eq_false_iff_ne.2 (by omega)
  have e200 : (c == 200) = false := beq_eq_false_iff_ne.2 (by omega)
  have e201 : (c == 201) = false := beq_eq_false_iff_ne.2 (by omega)
  have e217 : (c == 217) = false := beq_eq_false_iff_ne.2 (by omega)
  have e218 : (c == 218) = false := beq_eq_false_iff_ne.2 (by omega)
  have e219 : (c == 219) = false := beq_eq_false_iff_ne.2 (by omega)
  have l127 : decide (c ≤ 127) = false := by simp; omega
  have l143 : decide (c ≤ 143) = false := by simp; omega
  have l159 : decide (c ≤ 159) = false := by simp; omega
  have l191 : decide (c ≤ 191) = false := by simp; omega
  have l216 : decide (c ≤ 216) = true := by simp; omega
  have m224 : decide (224 ≤ c) = false := by simp; omega
  have m128 : decide (128 ≤ c) = true := by simp; omega
  have m144 : decide (144 ≤ c) = true := by simp; omega
  have m160 : decide (160 ≤ c) = true := by simp; omega
  have m212 : decide (212 ≤ c) = true := by simp; omega
  obtain ⟨g0, g1, g2, g3, g4, g5, g6, g7, g8, g9, g10, g11, g12, g13, g14, g15, g16, g17, g18, hbig⟩ := hl
  go_enter Tryd.func10, Tryd.ntmps10
  go_wp2
  go_ret
  exact ⟨rfl, rfl⟩
theorem isFExt_2 (c : Int) (h0 : 217 ≤ c) (h1 : c ≤ 255) (w : World) (hl : Laid w) : Calls Tryd.prog 10 #[.int .u8 c] w fun e w' => e = .returned (.bool false) ∧ w' = w := by
  have e196 : (c == 196) = false := beq_eq_false_iff_ne.2 (by omega)
  have e197 : (c == 197) = false := beq_eq_false_iff_ne.2 (by omega)
  have e198 : (c == 198) = false := beq_eq_false_iff_ne.2 (by omega)
  have e199 : (c == 199) = false := beq_eq_false_iff_ne.2 (by omega)
  have e200 : (c == 200) = false := beq_eq_false_iff_ne.2 (by omega)
  have e201 : (c == 201) = false := beq_eq_false_iff_ne.2 (by omega)
  have l127 : decide (c ≤ 127) = false := by simp; omega
  have l143 : decide (c ≤ 143) = false := by simp; omega
  have l159 : decide (c ≤ 159) = false := by simp; omega
  have l191 : decide (c ≤ 191) = false := by simp; omega
  have l216 : decide (c ≤ 216) = false := by simp; omega
  have m128 : decide (128 ≤ c) = true := by simp; omega
  have m144 : decide (144 ≤ c) = true := by simp; omega
  have m160 : decide (160 ≤ c) = true := by simp; omega
  have m212 : decide (212 ≤ c) = true := by simp; omega
  obtain ⟨g0, g1, g2, g3, g4, g5, g6, g7, g8, g9, g10, g11, g12, g13, g14, g15, g16, g17, g18, hbig⟩ := hl
  go_enter Tryd.func10, Tryd.ntmps10
  go_wp2
  go_ret
  exact ⟨rfl, rfl⟩
theorem isFExt_is (c : Int) (h0 : 0 ≤ c) (h1 : c ≤ 255) (w : World) (hl : Laid w) : Calls Tryd.prog 10 #[.int .u8 c] w fun e w' => e = .returned (.bool (isFExt c)) ∧ w' = w := by
  by_cases k0 : 0 ≤ c ∧ c ≤ 211
  · rw [show isFExt c = false from by unfold isFExt; simp; omega]
    exact isFExt_0 c k0.1 k0.2 w hl
  by_cases k1 : 212 ≤ c ∧ c ≤ 216
  · rw [show isFExt c = true from by unfold isFExt; simp; omega]
    exact isFExt_1 c k1.1 k1.2 w hl
  by_cases k2 : 217 ≤ c ∧ c ≤ 255
  · rw [show isFExt c = false from by unfold isFExt; simp; omega]
    exact isFExt_2 c k2.1 k2.2 w hl
  · exfalso; omega
theorem isMap_0 (c : Int) (h0 : 0 ≤ c) (h1 : c ≤ 127) (w : World) (hl : Laid w) : Calls Tryd.prog 11 #[.int .u8 c] w fun e w' => e = .returned (.bool false) ∧ w' = w := by
  have e196 : (c == 196) = false := beq_eq_false_iff_ne.2 (by omega)
  have e197 : (c == 197) = false := beq_eq_false_iff_ne.2 (by omega)
  have e198 : (c == 198) = false := beq_eq_false_iff_ne.2 (by omega)
  have e199 : (c == 199) = false := beq_eq_false_iff_ne.2 (by omega)
  have e200 : (c == 200) = false := beq_eq_false_iff_ne.2 (by omega)
  have e201 : (c == 201) = false := beq_eq_false_iff_ne.2 (by omega)
  have e217 : (c == 217) = false := beq_eq_false_iff_ne.2 (by omega)
  have e218 : (c == 218) = false := beq_eq_false_iff_ne.2 (by omega)
  have e219 : (c == 219) = false := beq_eq_false_iff_ne.2 (by omega)
  have l127 : decide (c ≤ 127) = true := by simp; omega
  have l143 : decide (c ≤ 143) = true := by simp; omega
  have l159 : decide (c ≤ 159) = true := by simp; omega
  have l191 : decide (c ≤ 191) = true := by simp; omega
  have l216 : decide (c ≤ 216) = true := by simp; omega
  have m224 : decide (224 ≤ c) = false := by simp; omega
  have m128 : decide (128 ≤ c) = false := by simp; omega
  have m144 : decide (144 ≤ c) = false := by simp; omega
  have m160 : decide (160 ≤ c) = false := by simp; omega
  have m212 : decide (212 ≤ c) = false := by simp; omega
  obtain ⟨g0, g1, g2, g3, g4, g5, g6, g7, g8, g9, g10, g11, g12, g13, g14, g15, g16, g17, g18, hbig⟩ := hl
  go_enter Tryd.func11, Tryd.ntmps11
  go_wp2
  go_ret
  exact ⟨rfl, rfl⟩
theorem isMap_1 (c : Int) (h0 : 128 ≤ c) (h1 : c ≤ 143) (w : World) (hl : Laid w) : Calls Tryd.prog 11 #[.int .u8 c] w fun e w' => e = .returned (.bool true) ∧ w' = w := by
  have e196 : (c == 196) = false := beq_eq_false_iff_ne.2 (by omega)
  have e197 : (c == 197) = false := beq_eq_false_iff_ne.2 (by omega)
  have e198 : (c == 198) = false := beq_eq_false_iff_ne.2 (by omega)
  have e199 : (c == 199) = false := beq_eq_false_iff_ne.2 (by omega)
  have e200 : (c == 200) = false := beq_eq_false_iff_ne.2 (by omega)
  have e201 : (c == 201) = false := beq_eq_false_iff_ne.2 (by omega)
  have e217 : (c == 217) = false := beq_eq_false_iff_ne.2 (by omega)
  have e218 : (c == 218) = false := beq_eq_false_iff_ne.2 (by omega)
  have e219 : (c == 219) = false := beq_eq_false_iff_ne.2 (by omega)
  have l127 : decide (c ≤ 127) = false := by simp; omega
  have l143 : decide (c ≤ 143) = true := by simp; omega
  have l159 : decide (c ≤ 159) = true := by simp; omega
  have l191 : decide (c ≤ 191) = true := by simp; omega
  have l216 : decide (c ≤ 216) = true := by simp; omega
  have m224 : decide (224 ≤ c) = false := by simp; omega
  have m128 : decide (128 ≤ c) = true := by simp; omega
  have m144 : decide (144 ≤ c) = false := by simp; omega
  have m160 : decide (160 ≤ c) = false := by simp; omega
  have m212 : decide (212 ≤ c) = false := by simp; omega
  obtain ⟨g0, g1, g2, g3, g4, g5, g6, g7, g8, g9, g10, g11, g12, g13, g14, g15, g16, g17, g18, hbig⟩ := hl
  go_enter Tryd.func11, Tryd.ntmps11
  go_wp2
  go_ret
  exact ⟨rfl, rfl⟩
theorem isMap_2 (c : Int) (h0 : 144 ≤ c) (h1 : c ≤ 255) (w : World) (hl : Laid w) : Calls Tryd.prog 11 #[.int .u8 c] w fun e w' => e = .returned (.bool false) ∧ w' = w := by
  have l127 : decide (c ≤ 127) = false := by simp; omega
  have l143 : decide (c ≤ 143) = false := by simp; omega
  have m128 : decide (128 ≤ c) = true := by simp; omega
  have m144 : decide (144 ≤ c) = true := by simp; omega
  obtain ⟨g0, g1, g2, g3, g4, g5, g6, g7, g8, g9, g10, g11, g12, g13, g14, g15, g16, g17, g18, hbig⟩ := hl
  go_enter Tryd.func11, Tryd.ntmps11
  go_wp2
  go_ret
  exact ⟨rfl, rfl⟩
theorem isMap_is (c : Int) (h0 : 0 ≤ c) (h1 : c ≤ 255) (w : World) (hl : Laid w) : Calls Tryd.prog 11 #[.int .u8 c] w fun e w' => e = .returned (.bool (isMap c)) ∧ w' = w := by
  by_cases k0 : 0 ≤ c ∧ c ≤ 127
  · rw [show isMap c = false from by unfold isMap; simp; omega]
    exact isMap_0 c k0.1 k0.2 w hl
  by_cases k1 : 128 ≤ c ∧ c ≤ 143
  · rw [show isMap c = true from by unfold isMap; simp; omega]
    exact isMap_1 c k1.1 k1.2 w hl
  by_cases k2 : 144 ≤ c ∧ c ≤ 255
  · rw [show isMap c = false from by unfold isMap; simp; omega]
    exact isMap_2 c k2.1 k2.2 w hl
  · exfalso; omega
theorem isNum_0 (c : Int) (h0 : 0 ≤ c) (h1 : c ≤ 127) (w : World) (hl : Laid w) : Calls Tryd.prog 12 #[.int .u8 c] w fun e w' => e = .returned (.bool true) ∧ w' = w := by
  have e196 : (c == 196) = false := beq_eq_false_iff_ne.2 (by omega)
  have e197 : (c == 197) = false := beq_eq_false_iff_ne.2 (by omega)
  have e198 : (c == 198) = false := beq_eq_false_iff_ne.2 (by omega)
  have e199 : (c == 199) = false := beq_eq_false_iff_ne.2 (by omega)
  have e200 : (c == 200) = false := beq_eq_false_iff_ne.2 (by omega)
  have e201 : (c == 201) = false := beq_eq_false_iff_ne.2 (by omega)
  have e217 : (c == 217) = false := beq_eq_false_iff_ne.2 (by omega)
  have e218 : (c == 218) = false := beq_eq_false_iff_ne.2 (by omega)
  have e219 : (c == 219) = false := beq_eq_false_iff_ne.2 (by omega)
  have l127 : decide (c ≤ 127) = true := by simp; omega
  have l143 : decide (c ≤ 143) = true := by simp; omega
  have l159 : decide (c ≤ 159) = true := by simp; omega
  have l191 : decide (c ≤ 191) = true := by simp; omega
  have l216 : decide (c ≤ 216) = true := by simp; omega
  have m224 : decide (224 ≤ c) = false := by simp; omega
  have m128 : decide (128 ≤ c) = false := by simp; omega
  have m144 : decide (144 ≤ c) = false := by simp; omega
  have m160 : decide (160 ≤ c) = false := by simp; omega
  have m212 : decide (212 ≤ c) = false := by simp; omega
  obtain ⟨g0, g1, g2, g3, g4, g5, g6, g7, g8, g9, g10, g11, g12, g13, g14, g15, g16, g17, g18, hbig⟩ := hl
  go_enter Tryd.func12, Tryd.ntmps12
  go_wp2
  go_ret
  exact ⟨rfl, rfl⟩
theorem isNum_1 (c : Int) (h0 : 128 ≤ c) (h1 : c ≤ 223) (w : World) (hl : Laid w) : Calls Tryd.prog 12 #[.int .u8 c] w fun e w' => e = .returned (.bool false) ∧ w' = w := by
  have l127 : decide (c ≤ 127) = false := by simp; omega
  have m224 : decide (224 ≤ c) = false := by simp; omega
  have m128 : decide (128 ≤ c) = true := by simp; omega
  obtain ⟨g0, g1, g2, g3, g4, g5, g6, g7, g8, g9, g10, g11, g12, g13, g14, g15, g16, g17, g18, hbig⟩ := hl
  go_enter Tryd.func12, Tryd.ntmps12
  go_wp2
  go_ret
  exact ⟨rfl, rfl⟩
theorem isNum_2 (c : Int) (h0 : 224 ≤ c) (h1 : c ≤ 255) (w : World) (hl : Laid w) : Calls Tryd.prog 12 #[.int .u8 c] w fun e w' => e = .returned (.bool true) ∧ w' = w := by
  have e196 : (c == 196) = false := beq_eq_false_iff_ne.2 (by omega)
  have e197 : (c == 197) = false := beq_eq_false_iff_ne.2 (by omega)
  have e198 : (c == 198) = false := beq_eq_false_iff_ne.2 (by omega)
  have e199 : (c == 199) = false := beq_eq_false_iff_ne.2 (by omega)
  have e200 : (c == 200) = false := beq_eq_false_iff_ne.2 (by omega)
  have e201 : (c == 201) = false := beq_eq_false_iff_ne.2 (by omega)
  have e217 : (c == 217) = false := beq_eq_false_iff_ne.2 (by omega)
  have e218 : (c == 218) = false := beq_eq_false_iff_ne.2 (by omega)
  have e219 : (c == 219) = false := beq_eq_false_iff_ne.2 (by omega)
  have l127 : decide (c ≤ 127) = false := by simp; omega
  have l143 : decide (c ≤ 143) = false := by simp; omega
  have l159 : decide (c ≤ 159) = false := by simp; omega
  have l191 : decide (c ≤ 191) = false := by simp; omega
  have l216 : decide (c ≤ 216) = false := by simp; omega
  have m224 : decide (224 ≤ c) = true := by simp; omega
  have m128 : decide (128 ≤ c) = true := by simp; omega
  have m144 : decide (144 ≤ c) = true := by simp; omega
  have m160 : decide (160 ≤ c) = true := by simp; omega
  have m212 : decide (212 ≤ c) = true := by simp; omega
  obtain ⟨g0, g1, g2, g3, g4, g5, g6, g7, g8, g9, g10, g11, g12, g13, g14, g15, g16, g17, g18, hbig⟩ := hl
  go_enter Tryd.func12, Tryd.ntmps12
  go_wp2
  go_ret
  exact ⟨rfl, rfl⟩
theorem isNum_is (c : Int) (h0 : 0 ≤ c) (h1 : c ≤ 255) (w : World) (hl : Laid w) : Calls Tryd.prog 12 #[.int .u8 c] w fun e w' => e = .returned (.bool (isNum c)) ∧ w' = w := by
  by_cases k0 : 0 ≤ c ∧ c ≤ 127
  · rw [show isNum c = true from by unfold isNum; simp; omega]
    exact isNum_0 c k0.1 k0.2 w hl
  by_cases k1 : 128 ≤ c ∧ c ≤ 223
  · rw [show isNum c = false from by unfold isNum; simp; omega]
    exact isNum_1 c k1.1 k1.2 w hl
  by_cases k2 : 224 ≤ c ∧ c ≤ 255
  · rw [show isNum c = true from by unfold isNum; simp; omega]
    exact isNum_2 c k2.1 k2.2 w hl
  · exfalso; omega
theorem isFStr_0 (c : Int) (h0 : 0 ≤ c) (h1 : c ≤ 159) (w : World) (hl : Laid w) : Calls Tryd.prog 13 #[.int .u8 c] w fun e w' => e = .returned (.bool false) ∧ w' = w := by
  have e196 : (c == 196) = false := beq_eq_false_iff_ne.2 (by omega)
  have e197 : (c == 197) = false := beq_eq_false_iff_ne.2 (by omega)
  have e198 : (c == 198) = false := beq_eq_false_iff_ne.2 (by omega)
  have e199 : (c == 199) = false := beq_eq_false_iff_ne.2 (by omega)
  have e200 : (c == 200) = false := beq_eq_false_iff_ne.2 (by omega)
  have e201 : (c == 201) = false := beq_eq_false_iff_ne.2 (by omega)
  have e217 : (c == 217) = false := beq_eq_false_iff_ne.2 (by omega)
  have e218 : (c == 218) = false := beq_eq_false_iff_ne.2 (by omega)
  have e219 : (c == 219) = false := beq_eq_false_iff_ne.2 (by omega)
  have l159 : decide (c ≤ 159) = true := by simp; omega
  have l191 : decide (c ≤ 191) = true := by simp; omega
  have l216 : decide (c ≤ 216) = true := by simp; omega
  have m224 : decide (224 ≤ c) = false := by simp; omega
  have m160 : decide (160 ≤ c) = false := by simp; omega
  have m212 : decide (212 ≤ c) = false := by simp; omega
  obtain ⟨g0, g1, g2, g3, g4, g5, g6, g7, g8, g9, g10, g11, g12, g13, g14, g15, g16, g17, g18, hbig⟩ := hl
  go_enter Tryd.func13, Tryd.ntmps13
  go_wp2
  go_ret
  exact ⟨rfl, rfl⟩
theorem isFStr_1 (c : Int) (h0 : 160 ≤ c) (h1 : c ≤ 191) (w : World) (hl : Laid w) : Calls Tryd.prog 13 #[.int .u8 c] w fun e w' => e = .returned (.bool true) ∧ w' = w := by
  have e196 : (c == 196) = false := beq_eq_false_iff_ne.2 (by omega)
  have e197 : (c == 197) = false := beq_eq_false_iff_ne.2 (by omega)
  have e198 : (c == 198) = false := beq_eq_false_iff_ne.2 (by omega)
  have e199 : (c == 199) = false := beq_eq_false_iff_ne.2 (by omega)
  have e200 : (c == 200) = false := beq_eq_false_iff_ne.2 (by omega)
  have e201 : (c == 201) = false := beq_eq_false_iff_ne.2 (by omega)
  have e217 : (c == 217) = false := beq_eq_false_iff_ne.2 (by omega)
  have e218 : (c == 218) = false := beq_eq_false_iff_ne.2 (by omega)
  have e219 : (c == 219) = false := beq_eq_false_iff_ne.2 (by omega)
  have l127 : decide (c ≤ 127) = false := by simp; omega
  have l143 : decide (c ≤ 143) = false := by simp; omega
  have l159 : decide (c ≤ 159) = false := by simp; omega
  have l191 : decide (c ≤ 191) = true := by simp; omega
  have l216 : decide (c ≤ 216) = true := by simp; omega
  have m224 : decide (224 ≤ c) = false := by simp; omega
  have m128 : decide (128 ≤ c) = true := by simp; omega
  have m144 : decide (144 ≤ c) = true := by simp; omega
  have m160 : decide (160 ≤ c) = true := by simp; omega
  have m212 : decide (212 ≤ c) = false := by simp; omega
  obtain ⟨g0, g1, g2, g3, g4, g5, g6, g7, g8, g9, g10, g11, g12, g13, g14, g15, g16, g17, g18, hbig⟩ := hl
  go_enter Tryd.func13, Tryd.ntmps13
  go_wp2
  go_ret
  exact ⟨rfl, rfl⟩
theorem isFStr_2 (c : Int) (h0 : 192 ≤ c) (h1 : c ≤ 255) (w : World) (hl : Laid w) : Calls Tryd.prog 13 #[.int .u8 c] w fun e w' => e = .returned (.bool false) ∧ w' = w := by
  have l127 : decide (c ≤ 127) = false := by simp; omega
  have l143 : decide (c ≤ 143) = false := by simp; omega
  have l159 : decide (c ≤ 159) = false := by simp; omega
  have l191 : decide (c ≤ 191) = false := by simp; omega
  have m128 : decide (128 ≤ c) = true := by simp; omega
  have m144 : decide (144 ≤ c) = true := by simp; omega
  have m160 : decide (160 ≤ c) = true := by simp; omega
  obtain ⟨g0, g1, g2, g3, g4, g5, g6, g7, g8, g9, g10, g11, g12, g13, g14, g15, g16, g17, g18, hbig⟩ := hl
  go_enter Tryd.func13, Tryd.ntmps13
  go_wp2
  go_ret
  exact ⟨rfl, rfl⟩
theorem isFStr_is (c : Int) (h0 : 0 ≤ c) (h1 : c ≤ 255) (w : World) (hl : Laid w) : Calls Tryd.prog 13 #[.int .u8 c] w fun e w' => e = .returned (.bool (isFStr c)) ∧ w' = w := by
  by_cases k0 : 0 ≤ c ∧ c ≤ 159
  · rw [show isFStr c = false from by unfold isFStr; simp; omega]
    exact isFStr_0 c k0.1 k0.2 w hl
  by_cases k1 : 160 ≤ c ∧ c ≤ 191
  · rw [show isFStr c = true from by unfold isFStr; simp; omega]
    exact isFStr_1 c k1.1 k1.2 w hl
  by_cases k2 : 192 ≤ c ∧ c ≤ 255
  · rw [show isFStr c = false from by unfold isFStr; simp; omega]
    exact isFStr_2 c k2.1 k2.2 w hl
  · exfalso; omega
theorem isStr_0 (c : Int) (h0 : 0 ≤ c) (h1 : c ≤ 159) (w : World) (hl : Laid w) : Calls Tryd.prog 14 #[.int .u8 c] w fun e w' => e = .returned (.bool false) ∧ w' = w := by
  have e196 : (c == 196) = false := beq_eq_false_iff_ne.2 (by omega)
  have e197 : (c == 197) = false := beq_eq_false_iff_ne.2 (by omega)
  have e198 : (c == 198) = false := beq_eq_false_iff_ne.2 (by omega)
  have e199 : (c == 199) = false := beq_eq_false_iff_ne.2 (by omega)
  have e200 : (c == 200) = false := beq_eq_false_iff_ne.2 (by omega)
  have e201 : (c == 201) = false := beq_eq_false_iff_ne.2 (by omega)
  have e217 : (c == 217) = false := beq_eq_false_iff_ne.2 (by omega)
  have e218 : (c == 218) = false := beq_eq_false_iff_ne.2 (by omega)
  have e219 : (c == 219) = false := beq_eq_false_iff_ne.2 (by omega)
  have l159 : decide (c ≤ 159) = true := by simp; omega
  have l191 : decide (c ≤ 191) = true := by simp; omega
  have l216 : decide (c ≤ 216) = true := by simp; omega
  have m224 : decide (224 ≤ c) = false := by simp; omega
  have m160 : decide (160 ≤ c) = false := by simp; omega
  have m212 : decide (212 ≤ c) = false := by simp; omega
  obtain ⟨g0, g1, g2, g3, g4, g5, g6, g7, g8, g9, g10, g11, g12, g13, g14, g15, g16, g17, g18, hbig⟩ := hl
  go_enter Tryd.func14, Tryd.ntmps14
  go_wp2
  go_ret
  exact ⟨rfl, rfl⟩
theorem isStr_1 (c : Int) (h0 : 160 ≤ c) (h1 : c ≤ 191) (w : World) (hl : Laid w) : Calls Tryd.prog 14 #[.int .u8 c] w fun e w' => e = .returned (.bool true) ∧ w' = w := by
  have e196 : (c == 196) = false := beq_eq_false_iff_ne.2 (by omega)
  have e197 : (c == 197) = false := beq_eq_false_iff_ne.2 (by omega)
  have e198 : (c == 198) = false := beq_eq_false_iff_ne.2 (by omega)
  have e199 : (c == 199) = false := beq_eq_false_iff_ne.2 (by omega)
  have e200 : (c == 200) = false := beq_eq_false_iff_ne.2 (by omega)
  have e201 : (c == 201) = false := beq_eq_false_iff_ne.2 (by omega)
  have e217 : (c == 217) = false := beq_eq_false_iff_ne.2 (by omega)
  have e218 : (c == 218) = false := beq_eq_false_iff_ne.2 (by omega)
  have e219 : (c == 219) = false := beq_eq_false_iff_ne.2 (by omega)
  have l127 : decide (c ≤ 127) = false := by simp; omega
  have l143 : decide (c ≤ 143) = false := by simp; omega
  have l159 : decide (c ≤ 159) = false := by simp; omega
  have l191 : decide (c ≤ 191) = true := by simp; omega
  have l216 : decide (c ≤ 216) = true := by simp; omega
  have m224 : decide (224 ≤ c) = false := by simp; omega
  have m128 : decide (128 ≤ c) = true := by simp; omega
  have m144 : decide (144 ≤ c) = true := by simp; omega
  have m160 : decide (160 ≤ c) = true := by simp; omega
  have m212 : decide (212 ≤ c) = false := by simp; omega
  obtain ⟨g0, g1, g2, g3, g4, g5, g6, g7, g8, g9, g10, g11, g12, g13, g14, g15, g16, g17, g18, hbig⟩ := hl
  go_enter Tryd.func14, Tryd.ntmps14
  go_wp2
  go_ret
  exact ⟨rfl, rfl⟩
theorem isStr_2 (c : Int) (h0 : 192 ≤ c) (h1 : c ≤ 216) (w : World) (hl : Laid w) : Calls Tryd.prog 14 #[.int .u8 c] w fun e w' => e = .returned (.bool false) ∧ w' = w := by
  have e217 : (c == 217) = false := beq_eq_false_iff_ne.2 (by omega)
  have e218 : (c == 218) = false := beq_eq_false_iff_ne.2 (by omega)
  have e219 : (c == 219) = false := beq_eq_false_iff_ne.2 (by omega)
  have l127 : decide (c ≤ 127) = false := by simp; omega
  have l143 : decide (c ≤ 143) = false := by simp; omega
  have l159 : decide (c ≤ 159) = false := by simp; omega
  have l191 : decide (c ≤ 191) = false := by simp; omega
  have l216 : decide (c ≤ 216) = true := by simp; omega
  have m224 : decide (224 ≤ c) = false := by simp; omega
  have m128 : decide (128 ≤ c) = true := by simp; omega
  have m144 : decide (144 ≤ c) = true := by simp; omega
  have m160 : decide (160 ≤ c) = true := by simp; omega
  obtain ⟨g0, g1, g2, g3, g4, g5, g6, g7, g8, g9, g10, g11, g12, g13, g14, g15, g16, g17, g18, hbig⟩ := hl
  go_enter Tryd.func14, Tryd.ntmps14
  go_wp2
  go_ret
  exact ⟨rfl, rfl⟩
theorem isStr_3 (c : Int) (h0 : 217 ≤ c) (h1 : c ≤ 217) (w : World) (hl : Laid w) : Calls Tryd.prog 14 #[.int .u8 c] w fun e w' => e = .returned (.bool true) ∧ w' = w := by
  obtain rfl : c = 217 := by omega
  clear h0 h1
  obtain ⟨g0, g1, g2, g3, g4, g5, g6, g7, g8, g9, g10, g11, g12, g13, g14, g15, g16, g17, g18, hbig⟩ := hl
  go_enter Tryd.func14, Tryd.ntmps14
  go_wp2
  go_ret
  exact ⟨rfl, rfl⟩
theorem isStr_4 (c : Int) (h0 : 218 ≤ c) (h1 : c ≤ 218) (w : World) (hl : Laid w) : Calls Tryd.prog 14 #[.int .u8 c] w fun e w' => e = .returned (.bool true) ∧ w' = w := by
  obtain rfl : c = 218 := by omega
  clear h0 h1
  obtain ⟨g0, g1, g2, g3, g4, g5, g6, g7, g8, g9, g10, g11, g12, g13, g14, g15, g16, g17, g18, hbig⟩ := hl
  go_enter Tryd.func14, Tryd.ntmps14
  go_wp2
  go_ret
  exact ⟨rfl, rfl⟩
theorem isStr_5 (c : Int) (h0 : 219 ≤ c) (h1 : c ≤ 219) (w : World) (hl : Laid w) : Calls Tryd.prog 14 #[.int .u8 c] w fun e w' => e = .returned (.bool true) ∧ w' = w := by
  obtain rfl : c = 219 := by omega
  clear h0 h1
  obtain ⟨g0, g1, g2, g3, g4, g5, g6, g7, g8, g9, g10, g11, g12, g13, g14, g15, g16, g17, g18, hbig⟩ := hl
  go_enter Tryd.func14, Tryd.ntmps14
  go_wp2
  go_ret
  exact ⟨rfl, rfl⟩
theorem isStr_6 (c : Int) (h0 : 220 ≤ c) (h1 : c ≤ 255) (w : World) (hl : Laid w) : Calls Tryd.prog 14 #[.int .u8 c] w fun e w' => e = .returned (.bool false) ∧ w' = w := by
  have e196 : (c == 196) = false := beq_eq_false_iff_ne.2 (by omega)
  have e197 : (c == 197) = false := beq_eq_false_iff_ne.2 (by omega)
  have e198 : (c == 198) = false := beq_eq_false_iff_ne.2 (by omega)
  have e199 : (c == 199) = false := beq_eq_false_iff_ne.2 (by omega)
  have e200 : (c == 200) = false := beq_eq_false_iff_ne.2 (by omega)
  have e201 : (c == 201) = false := beq_eq_false_iff_ne.2 (by omega)
  have e217 : (c == 217) = false := beq_eq_false_iff_ne.2 (by omega)
  have e218 : (c == 218) = false := beq_eq_false_iff_ne.2 (by omega)
  have e219 : (c == 219) = false := beq_eq_false_iff_ne.2 (by omega)
  have l127 : decide (c ≤ 127) = false := by simp; omega
  have l143 : decide (c ≤ 143) = false := by simp; omega
  have l159 : decide (c ≤ 159) = false := by simp; omega
  have l191 : decide (c ≤ 191) = false := by simp; omega
  have l216 : decide (c ≤ 216) = false := by simp; omega
  have m128 : decide (128 ≤ c) = true := by simp; omega
  have m144 : decide (144 ≤ c) = true := by simp; omega
  have m160 : decide (160 ≤ c) = true := by simp; omega
  have m212 : decide (212 ≤ c) = true := by simp; omega
  obtain ⟨g0, g1, g2, g3, g4, g5, g6, g7, g8, g9, g10, g11, g12, g13, g14, g15, g16, g17, g18, hbig⟩ := hl
  go_enter Tryd.func14, Tryd.ntmps14
  go_wp2
  go_ret
  exact ⟨rfl, rfl⟩
theorem isStr_is (c : Int) (h0 : 0 ≤ c) (h1 : c ≤ 255) (w : World) (hl : Laid w) : Calls Tryd.prog 14 #[.int .u8 c] w fun e w' => e = .returned (.bool (isStr c)) ∧ w' = w := by
  by_cases k0 : 0 ≤ c ∧ c ≤ 159
  · rw [show isStr c = false from by unfold isStr; simp; omega]
    exact isStr_0 c k0.1 k0.2 w hl
  by_cases k1 : 160 ≤ c ∧ c ≤ 191
  · rw [show isStr c = true from by unfold isStr; simp; omega]
    exact isStr_1 c k1.1 k1.2 w hl
  by_cases k2 : 192 ≤ c ∧ c ≤ 216
  · rw [show isStr c = false from by unfold isStr; simp; omega]
    exact isStr_2 c k2.1 k2.2 w hl
  by_cases k3 : 217 ≤ c ∧ c ≤ 217
  · rw [show isStr c = true from by unfold isStr; simp; omega]
    exact isStr_3 c k3.1 k3.2 w hl
  by_cases k4 : 218 ≤ c ∧ c ≤ 218
  · rw [show isStr c = true from by unfold isStr; simp; omega]
    exact isStr_4 c k4.1 k4.2 w hl
  by_cases k5 : 219 ≤ c ∧ c ≤ 219
  · rw [show isStr c = true from by unfold isStr; simp; omega]
    exact isStr_5 c k5.1 k5.2 w hl
  by_cases k6 : 220 ≤ c ∧ c ≤ 255
  · rw [show isStr c = false from by unfold isStr; simp; omega]
    exact isStr_6 c k6.1 k6.2 w hl
  · exfalso; omega
set_option maxHeartbeats 4000000 in
set_option maxRecDepth 100000 in
theorem mcis (c : Int) (h0 : 0 ≤ c) (h1 : c ≤ 255) (w : World) (hl : Laid w) : Calls Tryd.prog 5 #[.int .u8 c] w fun e w' => e = .returned (.agg #[.bool (isBin c), .bool (isExt c), .bool (isArr c), .bool (isFExt c), .bool (isMap c), .bool (isNum c), .bool (isFStr c), .bool (isStr c)]) ∧ Below w.heap.size w w' := by
  have hl' := hl.below ((Below.refl _ _).alloc (Nat.le_refl _) (.cells (List.replicate 8 (Value.bool false)).toArray 22))
  go_enter Tryd.func5, Tryd.ntmps5
  go_wp2_with (first | (go_at_call 7; refine (isBin_is c h0 h1 _ (by exact hl')).mono ?_; rintro e w' ⟨rfl, rfl⟩) | (go_at_call 8; refine (isExt_is c h0 h1 _ (by exact hl')).mono ?_; rintro e w' ⟨rfl, rfl⟩) | (go_at_call 9; refine (isArr_is c h0 h1 _ (by exact hl')).mono ?_; rintro e w' ⟨rfl, rfl⟩) | (go_at_call 10; refine (isFExt_is c h0 h1 _ (by exact hl')).mono ?_; rintro e w' ⟨rfl, rfl⟩) | (go_at_call 11; refine (isMap_is c h0 h1 _ (by exact hl')).mono ?_; rintro e w' ⟨rfl, rfl⟩) | (go_at_call 12; refine (isNum_is c h0 h1 _ (by exact hl')).mono ?_; rintro e w' ⟨rfl, rfl⟩) | (go_at_call 13; refine (isFStr_is c h0 h1 _ (by exact hl')).mono ?_; rintro e w' ⟨rfl, rfl⟩) | (go_at_call 14; refine (isStr_is c h0 h1 _ (by exact hl')).mono ?_; rintro e w' ⟨rfl, rfl⟩))
  exact bodyPost_ret (v := .agg #[.bool (isBin c), .bool (isExt c), .bool (isArr c), .bool (isFExt c), .bool (isMap c), .bool (isNum c), .bool (isFStr c), .bool (isStr c)]) (by simp [results, Tryd.results5, go_sem]) rfl ⟨rfl, ((Below.refl _ _).alloc (Nat.le_refl _) _)⟩
/-- The eight cells of a made array read behind a call that only makes memory as before it. -/
theorem held {W W' : World} {g : Nat} {cs : Array Value} {t : TypeId} (h : W.heap[g]? = some (.cells cs t (0, 0))) (hb : Below W.heap.size W W') : W'.heap[g]? = some (.cells cs t (0, 0)) := by
  have hlt : g < W.heap.size := by
    rcases Nat.lt_or_ge g W.heap.size with h' | h'
    · exact h'
    · rw [Array.getElem?_eq_none h'] at h; cases h
  rw [hb.block g hlt]; exact h
theorem cell_of {W : World} {g : Nat} {cs : Array Value} {t : TypeId} (h : W.heap[g]? = some (.cells cs t (0, 0))) (i : Nat) : W.cell? ⟨g, i, none⟩ = cs[i]? := by
  unfold World.cell?
  rw [h]
  rfl
/-- What is kept in the law's last statement: the array that was made, and the listed variables. -/
structure Kp (w : World) (cs : Array Value) (w' : World) : Prop where
  mk ::
  h1 : w'.heap[w.heap.size]? = some (.cells cs 22 (0, 0))
  h2 : Laid w'
  h3 : Below w.heap.size w w'
theorem kp_laid {w : World} {cs : Array Value} {w' : World} (h : Kp w cs w') : Laid w' := h.h2
theorem kp_next {w : World} {cs : Array Value} {w' w'' : World} (h : Kp w cs w') (hb : Below w'.heap.size w' w'') : Kp w cs w'' :=
  ⟨held h.h1 hb, h.h2.below hb, h.h3.trans (hb.mono h.h3.size)⟩
theorem kp_start {w : World} {cs : Array Value} (h : Laid w) : Kp w cs (w.alloc (.cells cs 22)) :=
  ⟨by show (w.heap.push _)[w.heap.size]? = _; simp, h.below ((Below.refl _ _).alloc (Nat.le_refl _) _), (Below.refl _ _).alloc (Nat.le_refl _) _⟩
theorem kp_drew {w : World} {cs : Array Value} {w' : World} (h : Kp w cs w') : Kp w cs w'.drew :=
  ⟨h.h1, h.h2.below (Below.refl _ _).drew, h.h3.drew⟩
theorem kp_all {w : World} {v0 v1 v2 v3 v4 v5 v6 v7 : Value} {w' : World} (h : Kp w #[v0, v1, v2, v3, v4, v5, v6, v7] w') :
    w'.cell? ⟨w.heap.size, 0, none⟩ = some v0 ∧ w'.cell? ⟨w.heap.size, 1, none⟩ = some v1 ∧ w'.cell? ⟨w.heap.size, 2, none⟩ = some v2 ∧ w'.cell? ⟨w.heap.size, 3, none⟩ = some v3 ∧ w'.cell? ⟨w.heap.size, 4, none⟩ = some v4 ∧ w'.cell? ⟨w.heap.size, 5, none⟩ = some v5 ∧ w'.cell? ⟨w.heap.size, 6, none⟩ = some v6 ∧ w'.cell? ⟨w.heap.size, 7, none⟩ = some v7 ∧ Kp w #[v0, v1, v2, v3, v4, v5, v6, v7] w' :=
  ⟨cell_of h.h1 0, cell_of h.h1 1, cell_of h.h1 2, cell_of h.h1 3, cell_of h.h1 4, cell_of h.h1 5, cell_of h.h1 6, cell_of h.h1 7, h⟩
end Go.Proofs.YtlagcfdojbjmmaaDoor.Mcis
