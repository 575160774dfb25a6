/- Written by mendio.py (wip/) out of the print's text: the definition's text of a time, and what the program's function comes to; with no condition. -/
import Derived.Test.YtmhngpihkaignaaPFnIOValidx0
import Derived.Test.YtmhngpihkaignaaPFnIOValidx1
namespace Go.Proofs.Ytmhngpihkaignaa.PFnIOValid
open Go.RowKit Go.Proofs.YtmhngpihkaignaaW.PrintWords Go.Proofs.YtmhngpihkaignaaW.PrintLast Go.Proofs.YtmhngpihkaignaaW.PrintMore
attribute [local go_sem] max2_int min2_int max_two min_two max_three min_three max_four min_four   -- for this text's walks alone
set_option linter.unusedVariables false
set_option linter.unusedSimpArgs false

theorem sz_one (c : UInt8) : (⟨#[c]⟩ : ByteArray).size = 1 := rfl
/-! ### spec_IOText: function 34 -/
mutual
def spec_IOText.j0 : Nat → ByteArray → Int → Int → Int → Int → Int → Int → Bool → Bool → Int → Int → Int → Int → Option (ByteArray)
  | 0, _, _, _, _, _, _, _, _, _, _, _, _, _ => none
  | k + 1, x3, x105000, x105001, x105002, x105003, x105004, x105005, x105006, x105007, x105008, x105009, x105010, x105011 => (spec_ioTwo.f x105003).bind fun t109 => (if t109.size + 1 ≤ 9223372036854775807 then ((spec_ioTwo.f x105004).bind fun t110 => (if (t109 ++ (⟨#[58]⟩ : ByteArray)).size + t110.size ≤ 9223372036854775807 then (if ((t109 ++ (⟨#[58]⟩ : ByteArray)) ++ t110).size + 1 ≤ 9223372036854775807 then ((spec_ioTwo.f x105005).bind fun t111 => (if (((t109 ++ (⟨#[58]⟩ : ByteArray)) ++ t110) ++ (⟨#[58]⟩ : ByteArray)).size + t111.size ≤ 9223372036854775807 then (if x3.size + ((((t109 ++ (⟨#[58]⟩ : ByteArray)) ++ t110) ++ (⟨#[58]⟩ : ByteArray)) ++ t111).size ≤ 9223372036854775807 then (if x105008 > 0 then (if (x3 ++ ((((t109 ++ (⟨#[58]⟩ : ByteArray)) ++ t110) ++ (⟨#[58]⟩ : ByteArray)) ++ t111)).size + 1 ≤ 9223372036854775807 then (spec_IOText.l0 k ((x3 ++ ((((t109 ++ (⟨#[58]⟩ : ByteArray)) ++ t110) ++ (⟨#[58]⟩ : ByteArray)) ++ t111)) ++ (⟨#[46]⟩ : ByteArray)) (⟨#[]⟩ : ByteArray) 0 x105009 x105000 x105001 x105002 x105003 x105004 x105005 x105006 x105007 x105008 x105009 x105010 x105011) else (none)) else (spec_IOText.j2 k (x3 ++ ((((t109 ++ (⟨#[58]⟩ : ByteArray)) ++ t110) ++ (⟨#[58]⟩ : ByteArray)) ++ t111)) x105000 x105001 x105002 x105003 x105004 x105005 x105006 x105007 x105008 x105009 x105010 x105011)) else (none)) else (none))) else (none)) else (none))) else (none))
def spec_IOText.j2 : Nat → ByteArray → Int → Int → Int → Int → Int → Int → Bool → Bool → Int → Int → Int → Int → Option (ByteArray)
  | 0, _, _, _, _, _, _, _, _, _, _, _, _, _ => none
  | k + 1, x3, x105000, x105001, x105002, x105003, x105004, x105005, x105006, x105007, x105008, x105009, x105010, x105011 => if x105010 = 1 then (if x3.size + 1 ≤ 9223372036854775807 then (some (x3 ++ (⟨#[90]⟩ : ByteArray))) else (none)) else (if x105010 = 2 then (spec_IOText.j3 k x3 (x105010 == 2) x105000 x105001 x105002 x105003 x105004 x105005 x105006 x105007 x105008 x105009 x105010 x105011) else (spec_IOText.j3 k x3 (x105010 == 3) x105000 x105001 x105002 x105003 x105004 x105005 x105006 x105007 x105008 x105009 x105010 x105011))
def spec_IOText.j3 : Nat → ByteArray → Bool → Int → Int → Int → Int → Int → Int → Bool → Bool → Int → Int → Int → Int → Option (ByteArray)
  | 0, _, _, _, _, _, _, _, _, _, _, _, _, _, _ => none
  | k + 1, x3, x84, x105000, x105001, x105002, x105003, x105004, x105005, x105006, x105007, x105008, x105009, x105010, x105011 => if x84 = true then (if x105011 < 0 then (spec_IOText.j4 k x3 (wrap64 (-x105011)) (⟨#[45]⟩ : ByteArray) x105000 x105001 x105002 x105003 x105004 x105005 x105006 x105007 x105008 x105009 x105010 x105011) else (spec_IOText.j4 k x3 x105011 (⟨#[43]⟩ : ByteArray) x105000 x105001 x105002 x105003 x105004 x105005 x105006 x105007 x105008 x105009 x105010 x105011)) else (some x3)
def spec_IOText.j4 : Nat → ByteArray → Int → ByteArray → Int → Int → Int → Int → Int → Int → Bool → Bool → Int → Int → Int → Int → Option (ByteArray)
  | 0, _, _, _, _, _, _, _, _, _, _, _, _, _, _, _ => none
  | k + 1, x3, x7, x8, x105000, x105001, x105002, x105003, x105004, x105005, x105006, x105007, x105008, x105009, x105010, x105011 => (spec_ioTwo.f (wrap64 (Int.tdiv x7 60))).bind fun t115 => (if x8.size + t115.size ≤ 9223372036854775807 then (if x3.size + (x8 ++ t115).size ≤ 9223372036854775807 then (if x105010 = 2 then (if (x3 ++ (x8 ++ t115)).size + 1 ≤ 9223372036854775807 then ((spec_ioTwo.f (Int.tmod x7 60)).bind fun t116 => (if ((x3 ++ (x8 ++ t115)) ++ (⟨#[58]⟩ : ByteArray)).size + t116.size ≤ 9223372036854775807 then (some (((x3 ++ (x8 ++ t115)) ++ (⟨#[58]⟩ : ByteArray)) ++ t116)) else (none))) else (none)) else ((spec_ioTwo.f (Int.tmod x7 60)).bind fun t117 => (if (x3 ++ (x8 ++ t115)).size + t117.size ≤ 9223372036854775807 then (some ((x3 ++ (x8 ++ t115)) ++ t117)) else (none)))) else (none)) else (none))
def spec_IOText.l0 : Nat → ByteArray → ByteArray → Int → Int → Int → Int → Int → Int → Int → Int → Bool → Bool → Int → Int → Int → Int → Option (ByteArray)
  | 0, _, _, _, _, _, _, _, _, _, _, _, _, _, _, _, _ => none
  | k + 1, x3, x4, x5, x6, x105000, x105001, x105002, x105003, x105004, x105005, x105006, x105007, x105008, x105009, x105010, x105011 => if x5 < x105008 then ((some (([(wrap64 (48 + (Int.tmod x6 10))) % 256] : List Int) : List Int)).bind fun y112 => (if (strOfNums y112).size + x4.size ≤ 9223372036854775807 then (spec_IOText.l0 k x3 ((strOfNums y112) ++ x4) (wrap64 (x5 + 1)) (wrap64 (Int.tdiv x6 10)) x105000 x105001 x105002 x105003 x105004 x105005 x105006 x105007 x105008 x105009 x105010 x105011) else (none))) else (if x3.size + x4.size ≤ 9223372036854775807 then (spec_IOText.j2 k (x3 ++ x4) x105000 x105001 x105002 x105003 x105004 x105005 x105006 x105007 x105008 x105009 x105010 x105011) else (none))
end
def spec_IOText.f (k : Nat) (a0_0 : Int) (a0_1 : Int) (a0_2 : Int) (a0_3 : Int) (a0_4 : Int) (a0_5 : Int) (a0_6 : Bool) (a0_7 : Bool) (a0_8 : Int) (a0_9 : Int) (a0_10 : Int) (a0_11 : Int) : Option (ByteArray) := (spec_ioTwo.f (wrap64 (Int.tdiv a0_0 100))).bind fun t105 => ((spec_ioTwo.f a0_0).bind fun t106 => (if t105.size + t106.size ≤ 9223372036854775807 then (if (t105 ++ t106).size + 1 ≤ 9223372036854775807 then ((spec_ioTwo.f a0_1).bind fun t107 => (if ((t105 ++ t106) ++ (⟨#[45]⟩ : ByteArray)).size + t107.size ≤ 9223372036854775807 then (if (((t105 ++ t106) ++ (⟨#[45]⟩ : ByteArray)) ++ t107).size + 1 ≤ 9223372036854775807 then ((spec_ioTwo.f a0_2).bind fun t108 => (if ((((t105 ++ t106) ++ (⟨#[45]⟩ : ByteArray)) ++ t107) ++ (⟨#[45]⟩ : ByteArray)).size + t108.size ≤ 9223372036854775807 then (if a0_7 = true then (if a0_6 = true then (if (((((t105 ++ t106) ++ (⟨#[45]⟩ : ByteArray)) ++ t107) ++ (⟨#[45]⟩ : ByteArray)) ++ t108).size + 1 ≤ 9223372036854775807 then (spec_IOText.j0 k ((((((t105 ++ t106) ++ (⟨#[45]⟩ : ByteArray)) ++ t107) ++ (⟨#[45]⟩ : ByteArray)) ++ t108) ++ (⟨#[32]⟩ : ByteArray)) a0_0 a0_1 a0_2 a0_3 a0_4 a0_5 a0_6 a0_7 a0_8 a0_9 a0_10 a0_11) else (none)) else (if (((((t105 ++ t106) ++ (⟨#[45]⟩ : ByteArray)) ++ t107) ++ (⟨#[45]⟩ : ByteArray)) ++ t108).size + 1 ≤ 9223372036854775807 then (spec_IOText.j0 k ((((((t105 ++ t106) ++ (⟨#[45]⟩ : ByteArray)) ++ t107) ++ (⟨#[45]⟩ : ByteArray)) ++ t108) ++ (⟨#[84]⟩ : ByteArray)) a0_0 a0_1 a0_2 a0_3 a0_4 a0_5 a0_6 a0_7 a0_8 a0_9 a0_10 a0_11) else (none))) else (some (((((t105 ++ t106) ++ (⟨#[45]⟩ : ByteArray)) ++ t107) ++ (⟨#[45]⟩ : ByteArray)) ++ t108))) else (none))) else (none)) else (none))) else (none)) else (none)))
theorem spec_IOText.mono_l : ∀ k, (∀ y0 y1 y2 y3 y4 y5 y6 y7 y8 y9 y10 y11 y12, LeO (spec_IOText.j0 k y0 y1 y2 y3 y4 y5 y6 y7 y8 y9 y10 y11 y12) (spec_IOText.j0 (k + 1) y0 y1 y2 y3 y4 y5 y6 y7 y8 y9 y10 y11 y12)) ∧ (∀ y0 y1 y2 y3 y4 y5 y6 y7 y8 y9 y10 y11 y12, LeO (spec_IOText.j2 k y0 y1 y2 y3 y4 y5 y6 y7 y8 y9 y10 y11 y12) (spec_IOText.j2 (k + 1) y0 y1 y2 y3 y4 y5 y6 y7 y8 y9 y10 y11 y12)) ∧ (∀ y0 y1 y2 y3 y4 y5 y6 y7 y8 y9 y10 y11 y12 y13, LeO (spec_IOText.j3 k y0 y1 y2 y3 y4 y5 y6 y7 y8 y9 y10 y11 y12 y13) (spec_IOText.j3 (k + 1) y0 y1 y2 y3 y4 y5 y6 y7 y8 y9 y10 y11 y12 y13)) ∧ (∀ y0 y1 y2 y3 y4 y5 y6 y7 y8 y9 y10 y11 y12 y13 y14, LeO (spec_IOText.j4 k y0 y1 y2 y3 y4 y5 y6 y7 y8 y9 y10 y11 y12 y13 y14) (spec_IOText.j4 (k + 1) y0 y1 y2 y3 y4 y5 y6 y7 y8 y9 y10 y11 y12 y13 y14)) ∧ (∀ y0 y1 y2 y3 y4 y5 y6 y7 y8 y9 y10 y11 y12 y13 y14 y15, LeO (spec_IOText.l0 k y0 y1 y2 y3 y4 y5 y6 y7 y8 y9 y10 y11 y12 y13 y14 y15) (spec_IOText.l0 (k + 1) y0 y1 y2 y3 y4 y5 y6 y7 y8 y9 y10 y11 y12 y13 y14 y15))
  | 0 => ⟨fun _ _ _ _ _ _ _ _ _ _ _ _ _ r h => by simp [spec_IOText.j0] at h, fun _ _ _ _ _ _ _ _ _ _ _ _ _ r h => by simp [spec_IOText.j2] at h, fun _ _ _ _ _ _ _ _ _ _ _ _ _ _ r h => by simp [spec_IOText.j3] at h, fun _ _ _ _ _ _ _ _ _ _ _ _ _ _ _ r h => by simp [spec_IOText.j4] at h, fun _ _ _ _ _ _ _ _ _ _ _ _ _ _ _ _ r h => by simp [spec_IOText.l0] at h⟩
  | k + 1 => by
    obtain ⟨ih0, ih1, ih2, ih3, ih4⟩ := spec_IOText.mono_l k
    refine ⟨?_, ?_, ?_, ?_, ?_⟩
    · intro y0 y1 y2 y3 y4 y5 y6 y7 y8 y9 y10 y11 y12
      unfold spec_IOText.j0
      repeat' first
      | (with_reducible exact ih0 _ _ _ _ _ _ _ _ _ _ _ _ _)
      | (with_reducible exact ih1 _ _ _ _ _ _ _ _ _ _ _ _ _)
      | (with_reducible exact ih2 _ _ _ _ _ _ _ _ _ _ _ _ _ _)
      | (with_reducible exact ih3 _ _ _ _ _ _ _ _ _ _ _ _ _ _ _)
      | (with_reducible exact ih4 _ _ _ _ _ _ _ _ _ _ _ _ _ _ _ _)
      | (with_reducible exact LeO.refl _)
      | (with_reducible exact LeO.none _)
      | (with_reducible refine LeO.ite ?_ ?_)
      | (with_reducible refine LeO.bind ?_ (fun _ => ?_))
      | exact ih0 _ _ _ _ _ _ _ _ _ _ _ _ _
      | exact ih1 _ _ _ _ _ _ _ _ _ _ _ _ _
      | exact ih2 _ _ _ _ _ _ _ _ _ _ _ _ _ _
      | exact ih3 _ _ _ _ _ _ _ _ _ _ _ _ _ _ _
      | exact ih4 _ _ _ _ _ _ _ _ _ _ _ _ _ _ _ _
      | exact LeO.none _
      | refine LeO.ite ?_ ?_
      | refine LeO.bind ?_ (fun _ => ?_)
    · intro y0 y1 y2 y3 y4 y5 y6 y7 y8 y9 y10 y11 y12
      unfold spec_IOText.j2
      repeat' first
      | (with_reducible exact ih0 _ _ _ _ _ _ _ _ _ _ _ _ _)
      | (with_reducible exact ih1 _ _ _ _ _ _ _ _ _ _ _ _ _)
      | (with_reducible exact ih2 _ _ _ _ _ _ _ _ _ _ _ _ _ _)
      | (with_reducible exact ih3 _ _ _ _ _ _ _ _ _ _ _ _ _ _ _)
      | (with_reducible exact ih4 _ _ _ _ _ _ _ _ _ _ _ _ _ _ _ _)
      | (with_reducible exact LeO.refl _)
      | (with_reducible exact LeO.none _)
      | (with_reducible refine LeO.ite ?_ ?_)
      | (with_reducible refine LeO.bind ?_ (fun _ => ?_))
      | exact ih0 _ _ _ _ _ _ _ _ _ _ _ _ _
      | exact ih1 _ _ _ _ _ _ _ _ _ _ _ _ _
      | exact ih2 _ _ _ _ _ _ _ _ _ _ _ _ _ _
      | exact ih3 _ _ _ _ _ _ _ _ _ _ _ _ _ _ _
      | exact ih4 _ _ _ _ _ _ _ _ _ _ _ _ _ _ _ _
      | exact LeO.none _
      | refine LeO.ite ?_ ?_
      | refine LeO.bind ?_ (fun _ => ?_)
    · intro y0 y1 y2 y3 y4 y5 y6 y7 y8 y9 y10 y11 y12 y13
      unfold spec_IOText.j3
      repeat' first
      | (with_reducible exact ih0 _ _ _ _ _ _ _ _ _ _ _ _ _)
      | (with_reducible exact ih1 _ _ _ _ _ _ _ _ _ _ _ _ _)
      | (with_reducible exact ih2 _ _ _ _ _ _ _ _ _ _ _ _ _ _)
      | (with_reducible exact ih3 _ _ _ _ _ _ _ _ _ _ _ _ _ _ _)
      | (with_reducible exact ih4 _ _ _ _ _ _ _ _ _ _ _ _ _ _ _ _)
      | (with_reducible exact LeO.refl _)
      | (with_reducible exact LeO.none _)
      | (with_reducible refine LeO.ite ?_ ?_)
      | (with_reducible refine LeO.bind ?_ (fun _ => ?_))
      | exact ih0 _ _ _ _ _ _ _ _ _ _ _ _ _
      | exact ih1 _ _ _ _ _ _ _ _ _ _ _ _ _
      | exact ih2 _ _ _ _ _ _ _ _ _ _ _ _ _ _
      | exact ih3 _ _ _ _ _ _ _ _ _ _ _ _ _ _ _
      | exact ih4 _ _ _ _ _ _ _ _ _ _ _ _ _ _ _ _
      | exact LeO.none _
      | refine LeO.ite ?_ ?_
      | refine LeO.bind ?_ (fun _ => ?_)
    · intro y0 y1 y2 y3 y4 y5 y6 y7 y8 y9 y10 y11 y12 y13 y14
      unfold spec_IOText.j4
      repeat' first
      | (with_reducible exact ih0 _ _ _ _ _ _ _ _ _ _ _ _ _)
      | (with_reducible exact ih1 _ _ _ _ _ _ _ _ _ _ _ _ _)
      | (with_reducible exact ih2 _ _ _ _ _ _ _ _ _ _ _ _ _ _)
      | (with_reducible exact ih3 _ _ _ _ _ _ _ _ _ _ _ _ _ _ _)
      | (with_reducible exact ih4 _ _ _ _ _ _ _ _ _ _ _ _ _ _ _ _)
      | (with_reducible exact LeO.refl _)
      | (with_reducible exact LeO.none _)
      | (with_reducible refine LeO.ite ?_ ?_)
      | (with_reducible refine LeO.bind ?_ (fun _ => ?_))
      | exact ih0 _ _ _ _ _ _ _ _ _ _ _ _ _
      | exact ih1 _ _ _ _ _ _ _ _ _ _ _ _ _
      | exact ih2 _ _ _ _ _ _ _ _ _ _ _ _ _ _
      | exact ih3 _ _ _ _ _ _ _ _ _ _ _ _ _ _ _
      | exact ih4 _ _ _ _ _ _ _ _ _ _ _ _ _ _ _ _
      | exact LeO.none _
      | refine LeO.ite ?_ ?_
      | refine LeO.bind ?_ (fun _ => ?_)
    · intro y0 y1 y2 y3 y4 y5 y6 y7 y8 y9 y10 y11 y12 y13 y14 y15
      unfold spec_IOText.l0
      repeat' first
      | (with_reducible exact ih0 _ _ _ _ _ _ _ _ _ _ _ _ _)
      | (with_reducible exact ih1 _ _ _ _ _ _ _ _ _ _ _ _ _)
      | (with_reducible exact ih2 _ _ _ _ _ _ _ _ _ _ _ _ _ _)
      | (with_reducible exact ih3 _ _ _ _ _ _ _ _ _ _ _ _ _ _ _)
      | (with_reducible exact ih4 _ _ _ _ _ _ _ _ _ _ _ _ _ _ _ _)
      | (with_reducible exact LeO.refl _)
      | (with_reducible exact LeO.none _)
      | (with_reducible refine LeO.ite ?_ ?_)
      | (with_reducible refine LeO.bind ?_ (fun _ => ?_))
      | exact ih0 _ _ _ _ _ _ _ _ _ _ _ _ _
      | exact ih1 _ _ _ _ _ _ _ _ _ _ _ _ _
      | exact ih2 _ _ _ _ _ _ _ _ _ _ _ _ _ _
      | exact ih3 _ _ _ _ _ _ _ _ _ _ _ _ _ _ _
      | exact ih4 _ _ _ _ _ _ _ _ _ _ _ _ _ _ _ _
      | exact LeO.none _
      | refine LeO.ite ?_ ?_
      | refine LeO.bind ?_ (fun _ => ?_)
theorem spec_IOText.mono : ∀ a0 a1 a2 a3 a4 a5 a6 a7 a8 a9 a10 a11 k, LeO (spec_IOText.f k a0 a1 a2 a3 a4 a5 a6 a7 a8 a9 a10 a11) (spec_IOText.f (k + 1) a0 a1 a2 a3 a4 a5 a6 a7 a8 a9 a10 a11) := by
  intro a0 a1 a2 a3 a4 a5 a6 a7 a8 a9 a10 a11 k
  obtain ⟨ih0, ih1, ih2, ih3, ih4⟩ := spec_IOText.mono_l k
  unfold spec_IOText.f
  repeat' first
      | (with_reducible exact ih0 _ _ _ _ _ _ _ _ _ _ _ _ _)
      | (with_reducible exact ih1 _ _ _ _ _ _ _ _ _ _ _ _ _)
      | (with_reducible exact ih2 _ _ _ _ _ _ _ _ _ _ _ _ _ _)
      | (with_reducible exact ih3 _ _ _ _ _ _ _ _ _ _ _ _ _ _ _)
      | (with_reducible exact ih4 _ _ _ _ _ _ _ _ _ _ _ _ _ _ _ _)
      | (with_reducible exact LeO.refl _)
      | (with_reducible exact LeO.none _)
      | (with_reducible refine LeO.ite ?_ ?_)
      | (with_reducible refine LeO.bind ?_ (fun _ => ?_))
      | exact ih0 _ _ _ _ _ _ _ _ _ _ _ _ _
      | exact ih1 _ _ _ _ _ _ _ _ _ _ _ _ _
      | exact ih2 _ _ _ _ _ _ _ _ _ _ _ _ _ _
      | exact ih3 _ _ _ _ _ _ _ _ _ _ _ _ _ _ _
      | exact ih4 _ _ _ _ _ _ _ _ _ _ _ _ _ _ _ _
      | exact LeO.none _
      | refine LeO.ite ?_ ?_
      | refine LeO.bind ?_ (fun _ => ?_)
def spec_IOText.T1 : Bool × List (List Nat × List Nat) := (true, [([], []), ([0], [0]), ([1], [1]), ([2], [2]), ([], []), ([4], [4]), ([5, 3], [5]), ([3, 6], [3, 6]), ([7], [7]), ([], []), ([9], [9]), ([10, 6], [10]), ([8, 11], [8, 11]), ([12], [12]), ([], []), ([14], [14]), ([15, 11], [15]), ([13, 16], [13, 16]), ([17, 16, 0, 1, 2, 3, 4, 5, 6, 7, 8, 9, 10, 11, 12, 13, 14, 15, 16, 17], [17])])
def spec_IOText.B1 : List Nat := [0, 1, 3, 7, 0, 16, 63, 127, 255, 0, 512, 1663, 4095, 8191, 0, 16384, 52863, 131071, 262143]
theorem spec_IOText.tab1 : rtab .any (opsOf Try.f34 1) = spec_IOText.T1 := by kernel_rfl
theorem spec_IOText.bits1 : waitsOk spec_IOText.T1.2 spec_IOText.B1 = true := by kernel_rfl
def spec_IOText.T7 : Bool × List (List Nat × List Nat) := (true, [([], []), ([], []), ([1], [1]), ([2], [2]), ([3], [3]), ([], []), ([5], [5]), ([6, 3], [6]), ([4, 7], [4, 7]), ([8], [8]), ([], []), ([10], [10]), ([11, 7], [11]), ([9, 12], [9, 12]), ([0, 13], [0, 13]), ([14, 12, 0, 1, 2, 3, 4, 5, 6, 7, 8, 9, 10, 11, 12, 13, 14], [0, 14])])
def spec_IOText.B7 : List Nat := [0, 0, 2, 6, 14, 0, 32, 110, 254, 510, 0, 1024, 3310, 8190, 16383, 32767]
theorem spec_IOText.tab7 : rtab .any (opsOf Try.f34 7) = spec_IOText.T7 := by kernel_rfl
theorem spec_IOText.bits7 : waitsOk spec_IOText.T7.2 spec_IOText.B7 = true := by kernel_rfl
set_option maxHeartbeats 8000000 in
set_option maxRecDepth 100000 in
theorem spec_IOText.calls (k : Nat) (a0_0 : Int) (a0_1 : Int) (a0_2 : Int) (a0_3 : Int) (a0_4 : Int) (a0_5 : Int) (a0_6 : Bool) (a0_7 : Bool) (a0_8 : Int) (a0_9 : Int) (a0_10 : Int) (a0_11 : Int) (r : ByteArray) (w : World) (h : spec_IOText.f k a0_0 a0_1 a0_2 a0_3 a0_4 a0_5 a0_6 a0_7 a0_8 a0_9 a0_10 a0_11 = some r) :
    Calls Try.prog 34 #[.agg #[.int .i64 a0_0, .int .i64 a0_1, .int .i64 a0_2, .int .i64 a0_3, .int .i64 a0_4, .int .i64 a0_5, .bool a0_6, .bool a0_7, .int .i64 a0_8, .int .i64 a0_9, .int .i64 a0_10, .int .i64 a0_11]] w fun e w' => e = .returned (.string r) ∧ Below w.heap.size w w' := by
  have hu50 := Try.underlying50
  have HB := Aside0.mk (Below.refl w.heap.size w)
  have H : ((spec_ioTwo.f (wrap64 (Int.tdiv a0_0 100))).bind fun t105 => ((spec_ioTwo.f a0_0).bind fun t106 => (if t105.size + t106.size ≤ 9223372036854775807 then (if (t105 ++ t106).size + 1 ≤ 9223372036854775807 then ((spec_ioTwo.f a0_1).bind fun t107 => (if ((t105 ++ t106) ++ (⟨#[45]⟩ : ByteArray)).size + t107.size ≤ 9223372036854775807 then (if (((t105 ++ t106) ++ (⟨#[45]⟩ : ByteArray)) ++ t107).size + 1 ≤ 9223372036854775807 then ((spec_ioTwo.f a0_2).bind fun t108 => (if ((((t105 ++ t106) ++ (⟨#[45]⟩ : ByteArray)) ++ t107) ++ (⟨#[45]⟩ : ByteArray)).size + t108.size ≤ 9223372036854775807 then (if a0_7 = true then (if a0_6 = true then (if (((((t105 ++ t106) ++ (⟨#[45]⟩ : ByteArray)) ++ t107) ++ (⟨#[45]⟩ : ByteArray)) ++ t108).size + 1 ≤ 9223372036854775807 then (spec_IOText.j0 k ((((((t105 ++ t106) ++ (⟨#[45]⟩ : ByteArray)) ++ t107) ++ (⟨#[45]⟩ : ByteArray)) ++ t108) ++ (⟨#[32]⟩ : ByteArray)) a0_0 a0_1 a0_2 a0_3 a0_4 a0_5 a0_6 a0_7 a0_8 a0_9 a0_10 a0_11) else (none)) else (if (((((t105 ++ t106) ++ (⟨#[45]⟩ : ByteArray)) ++ t107) ++ (⟨#[45]⟩ : ByteArray)) ++ t108).size + 1 ≤ 9223372036854775807 then (spec_IOText.j0 k ((((((t105 ++ t106) ++ (⟨#[45]⟩ : ByteArray)) ++ t107) ++ (⟨#[45]⟩ : ByteArray)) ++ t108) ++ (⟨#[84]⟩ : ByteArray)) a0_0 a0_1 a0_2 a0_3 a0_4 a0_5 a0_6 a0_7 a0_8 a0_9 a0_10 a0_11) else (none))) else (some (((((t105 ++ t106) ++ (⟨#[45]⟩ : ByteArray)) ++ t107) ++ (⟨#[45]⟩ : ByteArray)) ++ t108))) else (none))) else (none)) else (none))) else (none)) else (none)))) = some r := h
  clear h
  replace H := Option.bind_eq_some_iff.mp H
  obtain ⟨t105, A20, H⟩ := H
  replace H : ((spec_ioTwo.f a0_0).bind fun t106 => (if t105.size + t106.size ≤ 9223372036854775807 then (if (t105 ++ t106).size + 1 ≤ 9223372036854775807 then ((spec_ioTwo.f a0_1).bind fun t107 => (if ((t105 ++ t106) ++ (⟨#[45]⟩ : ByteArray)).size + t107.size ≤ 9223372036854775807 then (if (((t105 ++ t106) ++ (⟨#[45]⟩ : ByteArray)) ++ t107).size + 1 ≤ 9223372036854775807 then ((spec_ioTwo.f a0_2).bind fun t108 => (if ((((t105 ++ t106) ++ (⟨#[45]⟩ : ByteArray)) ++ t107) ++ (⟨#[45]⟩ : ByteArray)).size + t108.size ≤ 9223372036854775807 then (if a0_7 = true then (if a0_6 = true then (if (((((t105 ++ t106) ++ (⟨#[45]⟩ : ByteArray)) ++ t107) ++ (⟨#[45]⟩ : ByteArray)) ++ t108).size + 1 ≤ 9223372036854775807 then (spec_IOText.j0 k ((((((t105 ++ t106) ++ (⟨#[45]⟩ : ByteArray)) ++ t107) ++ (⟨#[45]⟩ : ByteArray)) ++ t108) ++ (⟨#[32]⟩ : ByteArray)) a0_0 a0_1 a0_2 a0_3 a0_4 a0_5 a0_6 a0_7 a0_8 a0_9 a0_10 a0_11) else (none)) else (if (((((t105 ++ t106) ++ (⟨#[45]⟩ : ByteArray)) ++ t107) ++ (⟨#[45]⟩ : ByteArray)) ++ t108).size + 1 ≤ 9223372036854775807 then (spec_IOText.j0 k ((((((t105 ++ t106) ++ (⟨#[45]⟩ : ByteArray)) ++ t107) ++ (⟨#[45]⟩ : ByteArray)) ++ t108) ++ (⟨#[84]⟩ : ByteArray)) a0_0 a0_1 a0_2 a0_3 a0_4 a0_5 a0_6 a0_7 a0_8 a0_9 a0_10 a0_11) else (none))) else (some (((((t105 ++ t106) ++ (⟨#[45]⟩ : ByteArray)) ++ t107) ++ (⟨#[45]⟩ : ByteArray)) ++ t108))) else (none))) else (none)) else (none))) else (none)) else (none))) = some r := H
  have A2 := Aside0.mk A20
  clear A20
  replace H := Option.bind_eq_some_iff.mp H
  obtain ⟨t106, A30, H⟩ := H
  replace H : (if t105.size + t106.size ≤ 9223372036854775807 then (if (t105 ++ t106).size + 1 ≤ 9223372036854775807 then ((spec_ioTwo.f a0_1).bind fun t107 => (if ((t105 ++ t106) ++ (⟨#[45]⟩ : ByteArray)).size + t107.size ≤ 9223372036854775807 then (if (((t105 ++ t106) ++ (⟨#[45]⟩ : ByteArray)) ++ t107).size + 1 ≤ 9223372036854775807 then ((spec_ioTwo.f a0_2).bind fun t108 => (if ((((t105 ++ t106) ++ (⟨#[45]⟩ : ByteArray)) ++ t107) ++ (⟨#[45]⟩ : ByteArray)).size + t108.size ≤ 9223372036854775807 then (if a0_7 = true then (if a0_6 = true then (if (((((t105 ++ t106) ++ (⟨#[45]⟩ : ByteArray)) ++ t107) ++ (⟨#[45]⟩ : ByteArray)) ++ t108).size + 1 ≤ 9223372036854775807 then (spec_IOText.j0 k ((((((t105 ++ t106) ++ (⟨#[45]⟩ : ByteArray)) ++ t107) ++ (⟨#[45]⟩ : ByteArray)) ++ t108) ++ (⟨#[32]⟩ : ByteArray)) a0_0 a0_1 a0_2 a0_3 a0_4 a0_5 a0_6 a0_7 a0_8 a0_9 a0_10 a0_11) else (none)) else (if (((((t105 ++ t106) ++ (⟨#[45]⟩ : ByteArray)) ++ t107) ++ (⟨#[45]⟩ : ByteArray)) ++ t108).size + 1 ≤ 9223372036854775807 then (spec_IOText.j0 k ((((((t105 ++ t106) ++ (⟨#[45]⟩ : ByteArray)) ++ t107) ++ (⟨#[45]⟩ : ByteArray)) ++ t108) ++ (⟨#[84]⟩ : ByteArray)) a0_0 a0_1 a0_2 a0_3 a0_4 a0_5 a0_6 a0_7 a0_8 a0_9 a0_10 a0_11) else (none))) else (some (((((t105 ++ t106) ++ (⟨#[45]⟩ : ByteArray)) ++ t107) ++ (⟨#[45]⟩ : ByteArray)) ++ t108))) else (none))) else (none)) else (none))) else (none)) else (none)) = some r := H
  have A3 := Aside0.mk A30
  clear A30
  by_cases c4 : t105.size + t106.size ≤ 9223372036854775807
  · rw [if_pos c4] at H
    have c4z := c4
    try simp only [ByteArray.size_append, sz_one] at c4z
    have c4y := Nat.not_lt.mpr c4z
    have c4b0 := eq_true c4
    have c4b1 : decide (t105.size + t106.size ≤ 9223372036854775807) = true := decide_eq_true c4
    try have c4b2 : (9223372036854775807 < t105.size + t106.size) = False := eq_false (Nat.not_lt.2 c4)
    by_cases c5 : (t105 ++ t106).size + 1 ≤ 9223372036854775807
    · rw [if_pos c5] at H
      have c5z := c5
      try simp only [ByteArray.size_append, sz_one] at c5z
      have c5y := Nat.not_lt.mpr c5z
      have c5b0 := eq_true c5
      have c5b1 : decide ((t105 ++ t106).size + 1 ≤ 9223372036854775807) = true := decide_eq_true c5
      try have c5b2 : (9223372036854775807 < (t105 ++ t106).size + 1) = False := eq_false (Nat.not_lt.2 c5)
      replace H := Option.bind_eq_some_iff.mp H
      obtain ⟨t107, A60, H⟩ := H
      replace H : (if ((t105 ++ t106) ++ (⟨#[45]⟩ : ByteArray)).size + t107.size ≤ 9223372036854775807 then (if (((t105 ++ t106) ++ (⟨#[45]⟩ : ByteArray)) ++ t107).size + 1 ≤ 9223372036854775807 then ((spec_ioTwo.f a0_2).bind fun t108 => (if ((((t105 ++ t106) ++ (⟨#[45]⟩ : ByteArray)) ++ t107) ++ (⟨#[45]⟩ : ByteArray)).size + t108.size ≤ 9223372036854775807 then (if a0_7 = true then (if a0_6 = true then (if (((((t105 ++ t106) ++ (⟨#[45]⟩ : ByteArray)) ++ t107) ++ (⟨#[45]⟩ : ByteArray)) ++ t108).size + 1 ≤ 9223372036854775807 then (spec_IOText.j0 k ((((((t105 ++ t106) ++ (⟨#[45]⟩ : ByteArray)) ++ t107) ++ (⟨#[45]⟩ : ByteArray)) ++ t108) ++ (⟨#[32]⟩ : ByteArray)) a0_0 a0_1 a0_2 a0_3 a0_4 a0_5 a0_6 a0_7 a0_8 a0_9 a0_10 a0_11) else (none)) else (if (((((t105 ++ t106) ++ (⟨#[45]⟩ : ByteArray)) ++ t107) ++ (⟨#[45]⟩ : ByteArray)) ++ t108).size + 1 ≤ 9223372036854775807 then (spec_IOText.j0 k ((((((t105 ++ t106) ++ (⟨#[45]⟩ : ByteArray)) ++ t107) ++ (⟨#[45]⟩ : ByteArray)) ++ t108) ++ (⟨#[84]⟩ : ByteArray)) a0_0 a0_1 a0_2 a0_3 a0_4 a0_5 a0_6 a0_7 a0_8 a0_9 a0_10 a0_11) else (none))) else (some (((((t105 ++ t106) ++ (⟨#[45]⟩ : ByteArray)) ++ t107) ++ (⟨#[45]⟩ : ByteArray)) ++ t108))) else (none))) else (none)) else (none)) = some r := H
      have A6 := Aside0.mk A60
      clear A60
      by_cases c7 : ((t105 ++ t106) ++ (⟨#[45]⟩ : ByteArray)).size + t107.size ≤ 9223372036854775807
      · rw [if_pos c7] at H
        have c7z := c7
        try simp only [ByteArray.size_append, sz_one] at c7z
        have c7y := Nat.not_lt.mpr c7z
        have c7b0 := eq_true c7
        have c7b1 : decide (((t105 ++ t106) ++ (⟨#[45]⟩ : ByteArray)).size + t107.size ≤ 9223372036854775807) = true := decide_eq_true c7
        try have c7b2 : (9223372036854775807 < ((t105 ++ t106) ++ (⟨#[45]⟩ : ByteArray)).size + t107.size) = False := eq_false (Nat.not_lt.2 c7)
        by_cases c8 : (((t105 ++ t106) ++ (⟨#[45]⟩ : ByteArray)) ++ t107).size + 1 ≤ 9223372036854775807
        · rw [if_pos c8] at H
          have c8z := c8
          try simp only [ByteArray.size_append, sz_one] at c8z
          have c8y := Nat.not_lt.mpr c8z
          have c8b0 := eq_true c8
          have c8b1 : decide ((((t105 ++ t106) ++ (⟨#[45]⟩ : ByteArray)) ++ t107).size + 1 ≤ 9223372036854775807) = true := decide_eq_true c8
          try have c8b2 : (9223372036854775807 < (((t105 ++ t106) ++ (⟨#[45]⟩ : ByteArray)) ++ t107).size + 1) = False := eq_false (Nat.not_lt.2 c8)
          replace H := Option.bind_eq_some_iff.mp H
          obtain ⟨t108, A90, H⟩ := H
          replace H : (if ((((t105 ++ t106) ++ (⟨#[45]⟩ : ByteArray)) ++ t107) ++ (⟨#[45]⟩ : ByteArray)).size + t108.size ≤ 9223372036854775807 then (if a0_7 = true then (if a0_6 = true then (if (((((t105 ++ t106) ++ (⟨#[45]⟩ : ByteArray)) ++ t107) ++ (⟨#[45]⟩ : ByteArray)) ++ t108).size + 1 ≤ 9223372036854775807 then (spec_IOText.j0 k ((((((t105 ++ t106) ++ (⟨#[45]⟩ : ByteArray)) ++ t107) ++ (⟨#[45]⟩ : ByteArray)) ++ t108) ++ (⟨#[32]⟩ : ByteArray)) a0_0 a0_1 a0_2 a0_3 a0_4 a0_5 a0_6 a0_7 a0_8 a0_9 a0_10 a0_11) else (none)) else (if (((((t105 ++ t106) ++ (⟨#[45]⟩ : ByteArray)) ++ t107) ++ (⟨#[45]⟩ : ByteArray)) ++ t108).size + 1 ≤ 9223372036854775807 then (spec_IOText.j0 k ((((((t105 ++ t106) ++ (⟨#[45]⟩ : ByteArray)) ++ t107) ++ (⟨#[45]⟩ : ByteArray)) ++ t108) ++ (⟨#[84]⟩ : ByteArray)) a0_0 a0_1 a0_2 a0_3 a0_4 a0_5 a0_6 a0_7 a0_8 a0_9 a0_10 a0_11) else (none))) else (some (((((t105 ++ t106) ++ (⟨#[45]⟩ : ByteArray)) ++ t107) ++ (⟨#[45]⟩ : ByteArray)) ++ t108))) else (none)) = some r := H
          have A9 := Aside0.mk A90
          clear A90
          by_cases c10 : ((((t105 ++ t106) ++ (⟨#[45]⟩ : ByteArray)) ++ t107) ++ (⟨#[45]⟩ : ByteArray)).size + t108.size ≤ 9223372036854775807
          · rw [if_pos c10] at H
            have c10z := c10
            try simp only [ByteArray.size_append, sz_one] at c10z
            have c10y := Nat.not_lt.mpr c10z
            have c10b0 := eq_true c10
            have c10b1 : decide (((((t105 ++ t106) ++ (⟨#[45]⟩ : ByteArray)) ++ t107) ++ (⟨#[45]⟩ : ByteArray)).size + t108.size ≤ 9223372036854775807) = true := decide_eq_true c10
            try have c10b2 : (9223372036854775807 < ((((t105 ++ t106) ++ (⟨#[45]⟩ : ByteArray)) ++ t107) ++ (⟨#[45]⟩ : ByteArray)).size + t108.size) = False := eq_false (Nat.not_lt.2 c10)
            by_cases c11 : a0_7 = true
            · subst c11
              have H1 : (if a0_6 = true then (if (((((t105 ++ t106) ++ (⟨#[45]⟩ : ByteArray)) ++ t107) ++ (⟨#[45]⟩ : ByteArray)) ++ t108).size + 1 ≤ 9223372036854775807 then (spec_IOText.j0 k ((((((t105 ++ t106) ++ (⟨#[45]⟩ : ByteArray)) ++ t107) ++ (⟨#[45]⟩ : ByteArray)) ++ t108) ++ (⟨#[32]⟩ : ByteArray)) a0_0 a0_1 a0_2 a0_3 a0_4 a0_5 a0_6 true a0_8 a0_9 a0_10 a0_11) else (none)) else (if (((((t105 ++ t106) ++ (⟨#[45]⟩ : ByteArray)) ++ t107) ++ (⟨#[45]⟩ : ByteArray)) ++ t108).size + 1 ≤ 9223372036854775807 then (spec_IOText.j0 k ((((((t105 ++ t106) ++ (⟨#[45]⟩ : ByteArray)) ++ t107) ++ (⟨#[45]⟩ : ByteArray)) ++ t108) ++ (⟨#[84]⟩ : ByteArray)) a0_0 a0_1 a0_2 a0_3 a0_4 a0_5 a0_6 true a0_8 a0_9 a0_10 a0_11) else (none))) = some r := by rw [if_pos rfl] at H; exact H
              clear H
              have H := H1
              clear H1
              have HC12 := Aside0.mk H
              clear H
              go_enter Try.func34, Try.ntmps34
              try go_wp2_with (first | ((with_reducible refine gate_dst (N := 1) rfl ?_); refine box_event ?hg (N := 1) ?hd (cs := #[.int .i64 a0_0, .int .i64 a0_1, .int .i64 a0_2, .int .i64 a0_3, .int .i64 a0_4, .int .i64 a0_5, .bool a0_6, .bool true, .int .i64 a0_8, .int .i64 a0_9, .int .i64 a0_10, .int .i64 a0_11]) (t := 50) ?hr ?_; (case hd => rfl); (case hg => rfl); (case hr => first | (go_simp; done) | (go_simp; rfl)); intro gb104 hg w13 hbox hb; have n0_ := Aside0.mk (below_step (by repeat (first | (with_reducible first | exact HB.out | apply below_alloc | apply pw_below_drewN | apply below_drew1) | exact HB.out)) hb); have n1_ := Aside0.mk (hbox); have n2_ := Aside0.mk ((by rw [hg]; exact (below_size (by repeat (first | (with_reducible first | exact HB.out | apply below_alloc | apply pw_below_drewN | apply below_drew1) | exact HB.out))) : w.heap.size ≤ gb104)); have n3_ := Aside0.mk ((by rw [hg]; exact (below_size (by repeat (first | (with_reducible first | exact HB.out | apply below_alloc | apply pw_below_drewN | apply below_drew1) | exact HB.out))) : w.heap.size ≤ gb104)); clear HB; have HB := n0_; have BK104 := n1_; have GW104 := n2_; have GE104 := n3_; clear n0_ n1_ n2_ n3_; clear hb hbox hg))
              have n0_ := Aside0.mk (blk_drew BK104.out)
              have n1_ := Aside0.mk (below_drew1 HB.out)
              clear BK104
              clear HB
              have BK104 := n0_
              have HB := n1_
              clear n0_ n1_
              refine start_ (n := 19) (S := fun w' => w'.cell? ⟨gb104, 0, none⟩ = some (.int .i64 a0_0) ∧ w'.cell? ⟨gb104, 1, none⟩ = some (.int .i64 a0_1) ∧ w'.cell? ⟨gb104, 2, none⟩ = some (.int .i64 a0_2) ∧ w'.cell? ⟨gb104, 3, none⟩ = some (.int .i64 a0_3) ∧ w'.cell? ⟨gb104, 4, none⟩ = some (.int .i64 a0_4) ∧ w'.cell? ⟨gb104, 5, none⟩ = some (.int .i64 a0_5) ∧ w'.cell? ⟨gb104, 6, none⟩ = some (.bool a0_6) ∧ w'.cell? ⟨gb104, 7, none⟩ = some (.bool true) ∧ w'.cell? ⟨gb104, 8, none⟩ = some (.int .i64 a0_8) ∧ w'.cell? ⟨gb104, 9, none⟩ = some (.int .i64 a0_9) ∧ w'.cell? ⟨gb104, 10, none⟩ = some (.int .i64 a0_10) ∧ w'.cell? ⟨gb104, 11, none⟩ = some (.int .i64 a0_11)) (ds := []) #[false, false, false, false, false, false, false, false, false, false, false, false, false, false, false, false, false, false, false] (by kernel_rfl) rfl rfl ⟨(blk_cell BK104.out 0).trans rfl, (blk_cell BK104.out 1).trans rfl, (blk_cell BK104.out 2).trans rfl, (blk_cell BK104.out 3).trans rfl, (blk_cell BK104.out 4).trans rfl, (blk_cell BK104.out 5).trans rfl, (blk_cell BK104.out 6).trans rfl, (blk_cell BK104.out 7).trans rfl, (blk_cell BK104.out 8).trans rfl, (blk_cell BK104.out 9).trans rfl, (blk_cell BK104.out 10).trans rfl, (blk_cell BK104.out 11).trans rfl⟩ (fun hHeld => ?_); refine with_tabW spec_IOText.tab1 spec_IOText.bits1 (fun HT_ HW_ => ?_)
              generalize w13.drew = w14 at BK104 HB hHeld ⊢
              refine pure_ (i := 0) (N := some 9) (v := ?_) (a' := ?_) #[true, false, false, false, false, false, false, false, false, false, false, false, false, false, false, false, false, false, false] rfl rfl (any_of HT_.out (by kernel_rfl)) (fun _ _ _ h => h) (Or.inl ⟨by rfl, ?_⟩) ?_ ?_
              rotate_left
              · intro w'
                go_simp
                with_reducible rfl
              rotate_left
              · simp only [Act.put, List.setIfInBounds_toArray, List.set_cons_zero, List.set_cons_succ, i64_w, i32_w]
                rfl
              refine pure_ (i := 4) (N := some 13) (v := ?_) (a' := ?_) #[true, false, false, false, true, false, false, false, false, false, false, false, false, false, false, false, false, false, false] rfl rfl (any_of HT_.out (by kernel_rfl)) (fun _ _ _ h => h) (Or.inl ⟨by rfl, ?_⟩) ?_ ?_
              rotate_left
              · intro w'
                go_simp
                with_reducible rfl
              rotate_left
              · simp only [Act.put, List.setIfInBounds_toArray, List.set_cons_zero, List.set_cons_succ, i64_w, i32_w]
                rfl
              refine pure_ (i := 9) (N := some 18) (v := ?_) (a' := ?_) #[true, false, false, false, true, false, false, false, false, true, false, false, false, false, false, false, false, false, false] rfl rfl (any_of HT_.out (by kernel_rfl)) (fun _ _ _ h => h) (Or.inl ⟨by rfl, ?_⟩) ?_ ?_
              rotate_left
              · intro w'
                go_simp
                with_reducible rfl
              rotate_left
              · simp only [Act.put, List.setIfInBounds_toArray, List.set_cons_zero, List.set_cons_succ, i64_w, i32_w]
                rfl
              refine pure_ (i := 14) (N := some 23) (v := ?_) (a' := ?_) #[true, false, false, false, true, false, false, false, false, true, false, false, false, false, true, false, false, false, false] rfl rfl (any_of HT_.out (by kernel_rfl)) (fun _ _ _ h => h) (Or.inl ⟨by rfl, ?_⟩) ?_ ?_
              rotate_left
              · intro w'
                go_simp
                with_reducible rfl
              rotate_left
              · simp only [Act.put, List.setIfInBounds_toArray, List.set_cons_zero, List.set_cons_succ, i64_w, i32_w]
                rfl
              refine take_ (i := 1) (N := some 10) (v := ?_) (a' := ?_) #[true, true, false, false, true, false, false, false, false, true, false, false, false, false, true, false, false, false, false] rfl rfl (take_ofW HT_.out HW_.out (by kernel_rfl)) (fun _ _ _ h => h) (Or.inl ⟨by rfl, ?_⟩) hHeld ?_ ?_
              rotate_left
              · rintro w' ⟨s0, s1, s2, s3, s4, s5, s6, s7, s8, s9, s10, s11⟩
                go_simp
                with_reducible rfl
              rotate_left
              · simp only [Act.put, List.setIfInBounds_toArray, List.set_cons_zero, List.set_cons_succ, i64_w, i32_w]
                rfl
              refine pure_ (i := 2) (N := some 11) (v := ?_) (a' := ?_) #[true, true, true, false, true, false, false, false, false, true, false, false, false, false, true, false, false, false, false] rfl rfl (any_of HT_.out (by kernel_rfl)) (fun _ _ _ h => h) (Or.inl ⟨by rfl, ?_⟩) ?_ ?_
              rotate_left
              · intro w'
                go_simp
                with_reducible rfl
              rotate_left
              · simp only [Act.put, List.setIfInBounds_toArray, List.set_cons_zero, List.set_cons_succ, i64_w, i32_w]
                rfl
              refine take_ (i := 5) (N := some 14) (v := ?_) (a' := ?_) #[true, true, true, false, true, true, false, false, false, true, false, false, false, false, true, false, false, false, false] rfl rfl (take_ofW HT_.out HW_.out (by kernel_rfl)) (fun _ _ _ h => h) (Or.inl ⟨by rfl, ?_⟩) hHeld ?_ ?_
              rotate_left
              · rintro w' ⟨s0, s1, s2, s3, s4, s5, s6, s7, s8, s9, s10, s11⟩
                go_simp
                with_reducible rfl
              rotate_left
              · simp only [Act.put, List.setIfInBounds_toArray, List.set_cons_zero, List.set_cons_succ, i64_w, i32_w]
                rfl
              refine take_ (i := 10) (N := some 19) (v := ?_) (a' := ?_) #[true, true, true, false, true, true, false, false, false, true, true, false, false, false, true, false, false, false, false] rfl rfl (take_ofW HT_.out HW_.out (by kernel_rfl)) (fun _ _ _ h => h) (Or.inl ⟨by rfl, ?_⟩) hHeld ?_ ?_
              rotate_left
              · rintro w' ⟨s0, s1, s2, s3, s4, s5, s6, s7, s8, s9, s10, s11⟩
                go_simp
                with_reducible rfl
              rotate_left
              · simp only [Act.put, List.setIfInBounds_toArray, List.set_cons_zero, List.set_cons_succ, i64_w, i32_w]
                rfl
              refine take_ (i := 15) (N := some 24) (v := ?_) (a' := ?_) #[true, true, true, false, true, true, false, false, false, true, true, false, false, false, true, true, false, false, false] rfl rfl (take_ofW HT_.out HW_.out (by kernel_rfl)) (fun _ _ _ h => h) (Or.inl ⟨by rfl, ?_⟩) hHeld ?_ ?_
              rotate_left
              · rintro w' ⟨s0, s1, s2, s3, s4, s5, s6, s7, s8, s9, s10, s11⟩
                go_simp
                with_reducible rfl
              rotate_left
              · simp only [Act.put, List.setIfInBounds_toArray, List.set_cons_zero, List.set_cons_succ, i64_w, i32_w]
                rfl
              refine one_ (i := 3) (N := some 12) #[true, true, true, true, true, true, false, false, false, true, true, false, false, false, true, true, false, false, false] rfl rfl (one_of HT_.out (by kernel_rfl)) (by decide) (fun K hK => ?_)
              refine goes_ Try.func58 (by kernel_rfl) rfl #[.int .i64 (wrap64 (Int.tdiv a0_0 100))] (by rfl) rfl rfl (by (try simp only [List.map_toArray, List.map_cons, List.map_nil]); first | done | rfl | (simp only [List.length_drop, List.length_take]; rfl)) ?_
              with_reducible refine (spec_ioTwo.calls (wrap64 (Int.tdiv a0_0 100)) t105 _ A2.out).mono ?_
              rintro e w15 ⟨rfl, hb⟩
              refine ⟨_, rfl, ?_⟩
              have n0_ := Aside0.mk (blk_below (g := gb104) (o := .cells #[.int .i64 a0_0, .int .i64 a0_1, .int .i64 a0_2, .int .i64 a0_3, .int .i64 a0_4, .int .i64 a0_5, .bool a0_6, .bool true, .int .i64 a0_8, .int .i64 a0_9, .int .i64 a0_10, .int .i64 a0_11] 50 (0, 0)) (by (with_reducible repeat (first | refine blk_drewN ?_ _ | refine blk_drew ?_ | refine blk_alloc ?_ _)); exact BK104.out) hb)
              have n1_ := Aside0.mk (below_step (by repeat (first | (with_reducible first | exact HB.out | apply below_alloc | apply pw_below_drewN | apply below_drew1 | refine below_set ?_ GE104.out) | exact HB.out)) hb)
              clear BK104
              clear HB
              have BK104 := n0_
              have HB := n1_
              clear n0_ n1_
              (try clear hb)
              (try clear hb2)
              (try clear hk)
              (try clear hi)
              refine hK.out _ _ ⟨(blk_cell BK104.out 0).trans rfl, (blk_cell BK104.out 1).trans rfl, (blk_cell BK104.out 2).trans rfl, (blk_cell BK104.out 3).trans rfl, (blk_cell BK104.out 4).trans rfl, (blk_cell BK104.out 5).trans rfl, (blk_cell BK104.out 6).trans rfl, (blk_cell BK104.out 7).trans rfl, (blk_cell BK104.out 8).trans rfl, (blk_cell BK104.out 9).trans rfl, (blk_cell BK104.out 10).trans rfl, (blk_cell BK104.out 11).trans rfl⟩ (fun hHeld => ?_)
              clear hK K
              refine norm_ (a' := ?_) ?_ ?_
              rotate_left
              · show Act.put _ (some 12) _ = _
                simp only [Act.put, List.setIfInBounds_toArray, List.set_cons_zero, List.set_cons_succ, i64_w, i32_w]
                rfl
              refine one_ (i := 6) (N := some 15) #[true, true, true, true, true, true, true, false, false, true, true, false, false, false, true, true, false, false, false] rfl rfl (one_of HT_.out (by kernel_rfl)) (by decide) (fun K hK => ?_)
              refine goes_ Try.func58 (by kernel_rfl) rfl #[.int .i64 a0_0] (by rfl) rfl rfl (by (try simp only [List.map_toArray, List.map_cons, List.map_nil]); first | done | rfl | (simp only [List.length_drop, List.length_take]; rfl)) ?_
              with_reducible refine (spec_ioTwo.calls a0_0 t106 _ A3.out).mono ?_
              rintro e w16 ⟨rfl, hb⟩
              refine ⟨_, rfl, ?_⟩
              have n0_ := Aside0.mk (blk_below (g := gb104) (o := .cells #[.int .i64 a0_0, .int .i64 a0_1, .int .i64 a0_2, .int .i64 a0_3, .int .i64 a0_4, .int .i64 a0_5, .bool a0_6, .bool true, .int .i64 a0_8, .int .i64 a0_9, .int .i64 a0_10, .int .i64 a0_11] 50 (0, 0)) (by (with_reducible repeat (first | refine blk_drewN ?_ _ | refine blk_drew ?_ | refine blk_alloc ?_ _)); exact BK104.out) hb)
              have n1_ := Aside0.mk (below_step (by repeat (first | (with_reducible first | exact HB.out | apply below_alloc | apply pw_below_drewN | apply below_drew1 | refine below_set ?_ GE104.out) | exact HB.out)) hb)
              clear BK104
              clear HB
              have BK104 := n0_
              have HB := n1_
              clear n0_ n1_
              (try clear hb)
              (try clear hb2)
              (try clear hk)
              (try clear hi)
              refine hK.out _ _ ⟨(blk_cell BK104.out 0).trans rfl, (blk_cell BK104.out 1).trans rfl, (blk_cell BK104.out 2).trans rfl, (blk_cell BK104.out 3).trans rfl, (blk_cell BK104.out 4).trans rfl, (blk_cell BK104.out 5).trans rfl, (blk_cell BK104.out 6).trans rfl, (blk_cell BK104.out 7).trans rfl, (blk_cell BK104.out 8).trans rfl, (blk_cell BK104.out 9).trans rfl, (blk_cell BK104.out 10).trans rfl, (blk_cell BK104.out 11).trans rfl⟩ (fun hHeld => ?_)
              clear hK K
              refine norm_ (a' := ?_) ?_ ?_
              rotate_left
              · show Act.put _ (some 15) _ = _
                simp only [Act.put, List.setIfInBounds_toArray, List.set_cons_zero, List.set_cons_succ, i64_w, i32_w]
                rfl
              refine pure_ (i := 7) (N := some 16) (v := ?_) (a' := ?_) #[true, true, true, true, true, true, true, true, false, true, true, false, false, false, true, true, false, false, false] rfl rfl (any_of HT_.out (by kernel_rfl)) (fun _ _ _ h => h) (Or.inl ⟨by rfl, ?_⟩) ?_ ?_
              rotate_left
              · intro w'
                go_simp
                with_reducible rfl
              rotate_left
              · simp only [Act.put, List.setIfInBounds_toArray, List.set_cons_zero, List.set_cons_succ, i64_w, i32_w]
                rfl
              refine pure_ (i := 8) (N := some 17) (v := ?_) (a' := ?_) #[true, true, true, true, true, true, true, true, true, true, true, false, false, false, true, true, false, false, false] rfl rfl (any_of HT_.out (by kernel_rfl)) (fun _ _ _ h => h) (Or.inl ⟨by rfl, ?_⟩) ?_ ?_
              rotate_left
              · intro w'
                go_simp
                with_reducible rfl
              rotate_left
              · simp only [Act.put, List.setIfInBounds_toArray, List.set_cons_zero, List.set_cons_succ, i64_w, i32_w]
                rfl
              refine one_ (i := 11) (N := some 20) #[true, true, true, true, true, true, true, true, true, true, true, true, false, false, true, true, false, false, false] rfl rfl (one_of HT_.out (by kernel_rfl)) (by decide) (fun K hK => ?_)
              refine goes_ Try.func58 (by kernel_rfl) rfl #[.int .i64 a0_1] (by rfl) rfl rfl (by (try simp only [List.map_toArray, List.map_cons, List.map_nil]); first | done | rfl | (simp only [List.length_drop, List.length_take]; rfl)) ?_
              with_reducible refine (spec_ioTwo.calls a0_1 t107 _ A6.out).mono ?_
              rintro e w17 ⟨rfl, hb⟩
              refine ⟨_, rfl, ?_⟩
              have n0_ := Aside0.mk (blk_below (g := gb104) (o := .cells #[.int .i64 a0_0, .int .i64 a0_1, .int .i64 a0_2, .int .i64 a0_3, .int .i64 a0_4, .int .i64 a0_5, .bool a0_6, .bool true, .int .i64 a0_8, .int .i64 a0_9, .int .i64 a0_10, .int .i64 a0_11] 50 (0, 0)) (by (with_reducible repeat (first | refine blk_drewN ?_ _ | refine blk_drew ?_ | refine blk_alloc ?_ _)); exact BK104.out) hb)
              have n1_ := Aside0.mk (below_step (by repeat (first | (with_reducible first | exact HB.out | apply below_alloc | apply pw_below_drewN | apply below_drew1 | refine below_set ?_ GE104.out) | exact HB.out)) hb)
              clear BK104
              clear HB
              have BK104 := n0_
              have HB := n1_
              clear n0_ n1_
              (try clear hb)
              (try clear hb2)
              (try clear hk)
              (try clear hi)
              refine hK.out _ _ ⟨(blk_cell BK104.out 0).trans rfl, (blk_cell BK104.out 1).trans rfl, (blk_cell BK104.out 2).trans rfl, (blk_cell BK104.out 3).trans rfl, (blk_cell BK104.out 4).trans rfl, (blk_cell BK104.out 5).trans rfl, (blk_cell BK104.out 6).trans rfl, (blk_cell BK104.out 7).trans rfl, (blk_cell BK104.out 8).trans rfl, (blk_cell BK104.out 9).trans rfl, (blk_cell BK104.out 10).trans rfl, (blk_cell BK104.out 11).trans rfl⟩ (fun hHeld => ?_)
              clear hK K
              refine norm_ (a' := ?_) ?_ ?_
              rotate_left
              · show Act.put _ (some 20) _ = _
                simp only [Act.put, List.setIfInBounds_toArray, List.set_cons_zero, List.set_cons_succ, i64_w, i32_w]
                rfl
              refine pure_ (i := 12) (N := some 21) (v := ?_) (a' := ?_) #[true, true, true, true, true, true, true, true, true, true, true, true, true, false, true, true, false, false, false] rfl rfl (any_of HT_.out (by kernel_rfl)) (fun _ _ _ h => h) (Or.inl ⟨by rfl, ?_⟩) ?_ ?_
              rotate_left
              · intro w'
                go_simp
                with_reducible rfl
              rotate_left
              · simp only [Act.put, List.setIfInBounds_toArray, List.set_cons_zero, List.set_cons_succ, i64_w, i32_w]
                rfl
              refine pure_ (i := 13) (N := some 22) (v := ?_) (a' := ?_) #[true, true, true, true, true, true, true, true, true, true, true, true, true, true, true, true, false, false, false] rfl rfl (any_of HT_.out (by kernel_rfl)) (fun _ _ _ h => h) (Or.inl ⟨by rfl, ?_⟩) ?_ ?_
              rotate_left
              · intro w'
                go_simp
                with_reducible rfl
              rotate_left
              · simp only [Act.put, List.setIfInBounds_toArray, List.set_cons_zero, List.set_cons_succ, i64_w, i32_w]
                rfl
              refine one_ (i := 16) (N := some 25) #[true, true, true, true, true, true, true, true, true, true, true, true, true, true, true, true, true, false, false] rfl rfl (one_of HT_.out (by kernel_rfl)) (by decide) (fun K hK => ?_)
              refine goes_ Try.func58 (by kernel_rfl) rfl #[.int .i64 a0_2] (by rfl) rfl rfl (by (try simp only [List.map_toArray, List.map_cons, List.map_nil]); first | done | rfl | (simp only [List.length_drop, List.length_take]; rfl)) ?_
              with_reducible refine (spec_ioTwo.calls a0_2 t108 _ A9.out).mono ?_
              rintro e w18 ⟨rfl, hb⟩
              refine ⟨_, rfl, ?_⟩
              have n0_ := Aside0.mk (blk_below (g := gb104) (o := .cells #[.int .i64 a0_0, .int .i64 a0_1, .int .i64 a0_2, .int .i64 a0_3, .int .i64 a0_4, .int .i64 a0_5, .bool a0_6, .bool true, .int .i64 a0_8, .int .i64 a0_9, .int .i64 a0_10, .int .i64 a0_11] 50 (0, 0)) (by (with_reducible repeat (first | refine blk_drewN ?_ _ | refine blk_drew ?_ | refine blk_alloc ?_ _)); exact BK104.out) hb)
              have n1_ := Aside0.mk (below_step (by repeat (first | (with_reducible first | exact HB.out | apply below_alloc | apply pw_below_drewN | apply below_drew1 | refine below_set ?_ GE104.out) | exact HB.out)) hb)
              clear BK104
              clear HB
              have BK104 := n0_
              have HB := n1_
              clear n0_ n1_
              (try clear hb)
              (try clear hb2)
              (try clear hk)
              (try clear hi)
              refine hK.out _ _ ⟨(blk_cell BK104.out 0).trans rfl, (blk_cell BK104.out 1).trans rfl, (blk_cell BK104.out 2).trans rfl, (blk_cell BK104.out 3).trans rfl, (blk_cell BK104.out 4).trans rfl, (blk_cell BK104.out 5).trans rfl, (blk_cell BK104.out 6).trans rfl, (blk_cell BK104.out 7).trans rfl, (blk_cell BK104.out 8).trans rfl, (blk_cell BK104.out 9).trans rfl, (blk_cell BK104.out 10).trans rfl, (blk_cell BK104.out 11).trans rfl⟩ (fun hHeld => ?_)
              clear hK K
              refine norm_ (a' := ?_) ?_ ?_
              rotate_left
              · show Act.put _ (some 25) _ = _
                simp only [Act.put, List.setIfInBounds_toArray, List.set_cons_zero, List.set_cons_succ, i64_w, i32_w]
                rfl
              refine pure_ (i := 17) (N := some 26) (v := ?_) (a' := ?_) #[true, true, true, true, true, true, true, true, true, true, true, true, true, true, true, true, true, true, false] rfl rfl (any_of HT_.out (by kernel_rfl)) (fun _ _ _ h => h) (Or.inl ⟨by rfl, ?_⟩) ?_ ?_
              rotate_left
              · intro w'
                go_simp
                with_reducible rfl
              rotate_left
              · simp only [Act.put, List.setIfInBounds_toArray, List.set_cons_zero, List.set_cons_succ, i64_w, i32_w]
                rfl
              refine pure_ (i := 18) (N := some 3) (v := ?_) (a' := ?_) #[true, true, true, true, true, true, true, true, true, true, true, true, true, true, true, true, true, true, true] rfl rfl (any_of HT_.out (by kernel_rfl)) (fun _ _ _ h => h) (Or.inl ⟨by rfl, ?_⟩) ?_ ?_
              rotate_left
              · intro w'
                go_simp
                with_reducible rfl
              rotate_left
              · simp only [Act.put, List.setIfInBounds_toArray, List.set_cons_zero, List.set_cons_succ, i64_w, i32_w]
                rfl
              refine done_ (done_of HT_.out (by kernel_rfl)) ?_
              have hcz19_0 : w18.cell? ⟨gb104, 0, none⟩ = some (.int .i64 a0_0) := (blk_cell BK104.out 0).trans rfl
              have hcz19_1 : w18.cell? ⟨gb104, 1, none⟩ = some (.int .i64 a0_1) := (blk_cell BK104.out 1).trans rfl
              have hcz19_2 : w18.cell? ⟨gb104, 2, none⟩ = some (.int .i64 a0_2) := (blk_cell BK104.out 2).trans rfl
              have hcz19_3 : w18.cell? ⟨gb104, 3, none⟩ = some (.int .i64 a0_3) := (blk_cell BK104.out 3).trans rfl
              have hcz19_4 : w18.cell? ⟨gb104, 4, none⟩ = some (.int .i64 a0_4) := (blk_cell BK104.out 4).trans rfl
              have hcz19_5 : w18.cell? ⟨gb104, 5, none⟩ = some (.int .i64 a0_5) := (blk_cell BK104.out 5).trans rfl
              have hcz19_6 : w18.cell? ⟨gb104, 6, none⟩ = some (.bool a0_6) := (blk_cell BK104.out 6).trans rfl
              have hcz19_7 : w18.cell? ⟨gb104, 7, none⟩ = some (.bool true) := (blk_cell BK104.out 7).trans rfl
              have hcz19_8 : w18.cell? ⟨gb104, 8, none⟩ = some (.int .i64 a0_8) := (blk_cell BK104.out 8).trans rfl
              have hcz19_9 : w18.cell? ⟨gb104, 9, none⟩ = some (.int .i64 a0_9) := (blk_cell BK104.out 9).trans rfl
              have hcz19_10 : w18.cell? ⟨gb104, 10, none⟩ = some (.int .i64 a0_10) := (blk_cell BK104.out 10).trans rfl
              have hcz19_11 : w18.cell? ⟨gb104, 11, none⟩ = some (.int .i64 a0_11) := (blk_cell BK104.out 11).trans rfl
              have hfz19_0 := blk_frozen BK104.out 0
              have hfz19_1 := blk_frozen BK104.out 1
              have hfz19_2 := blk_frozen BK104.out 2
              have hfz19_3 := blk_frozen BK104.out 3
              have hfz19_4 := blk_frozen BK104.out 4
              have hfz19_5 := blk_frozen BK104.out 5
              have hfz19_6 := blk_frozen BK104.out 6
              have hfz19_7 := blk_frozen BK104.out 7
              have hfz19_8 := blk_frozen BK104.out 8
              have hfz19_9 := blk_frozen BK104.out 9
              have hfz19_10 := blk_frozen BK104.out 10
              have hfz19_11 := blk_frozen BK104.out 11
              go_upto_if 32 with (fail)
              go_cut [3] (fun v3 wc => ∃ (kq : Nat) (x3_11 : ByteArray), v3 = .string x3_11 ∧ Aside0 (spec_IOText.j0 kq x3_11 a0_0 a0_1 a0_2 a0_3 a0_4 a0_5 a0_6 true a0_8 a0_9 a0_10 a0_11 = some r) ∧ Aside0 (kq ≤ k) ∧ Aside0 (wc.heap[gb104]? = some (.cells #[.int .i64 a0_0, .int .i64 a0_1, .int .i64 a0_2, .int .i64 a0_3, .int .i64 a0_4, .int .i64 a0_5, .bool a0_6, .bool true, .int .i64 a0_8, .int .i64 a0_9, .int .i64 a0_10, .int .i64 a0_11] 50 (0, 0))) ∧ Aside0 (Below w.heap.size w wc))
              case first =>
                have H := HC12.out
                clear HC12
                by_cases c20 : a0_6 = true
                · subst c20
                  have H1 : (if (((((t105 ++ t106) ++ (⟨#[45]⟩ : ByteArray)) ++ t107) ++ (⟨#[45]⟩ : ByteArray)) ++ t108).size + 1 ≤ 9223372036854775807 then (spec_IOText.j0 k ((((((t105 ++ t106) ++ (⟨#[45]⟩ : ByteArray)) ++ t107) ++ (⟨#[45]⟩ : ByteArray)) ++ t108) ++ (⟨#[32]⟩ : ByteArray)) a0_0 a0_1 a0_2 a0_3 a0_4 a0_5 true true a0_8 a0_9 a0_10 a0_11) else (none)) = some r := by rw [if_pos rfl] at H; exact H
                  clear H
                  have H := H1
                  clear H1
                  by_cases c21 : (((((t105 ++ t106) ++ (⟨#[45]⟩ : ByteArray)) ++ t107) ++ (⟨#[45]⟩ : ByteArray)) ++ t108).size + 1 ≤ 9223372036854775807
                  · rw [if_pos c21] at H
                    have c21z := c21
                    try simp only [ByteArray.size_append, sz_one] at c21z
                    have c21y := Nat.not_lt.mpr c21z
                    have c21b0 := eq_true c21
                    have c21b1 : decide ((((((t105 ++ t106) ++ (⟨#[45]⟩ : ByteArray)) ++ t107) ++ (⟨#[45]⟩ : ByteArray)) ++ t108).size + 1 ≤ 9223372036854775807) = true := decide_eq_true c21
                    try have c21b2 : (9223372036854775807 < (((((t105 ++ t106) ++ (⟨#[45]⟩ : ByteArray)) ++ t107) ++ (⟨#[45]⟩ : ByteArray)) ++ t108).size + 1) = False := eq_false (Nat.not_lt.2 c21)
                    have H' := Aside0.mk H
                    clear H
                    go_wp2
                    go_meet
                    case rel => exact ⟨_, ((((((t105 ++ t106) ++ (⟨#[45]⟩ : ByteArray)) ++ t107) ++ (⟨#[45]⟩ : ByteArray)) ++ t108) ++ (⟨#[32]⟩ : ByteArray)), (by first | rfl | (simp; done) | (simp [*]; done)), H', ⟨by first | omega | exact Nat.le_refl _⟩, ⟨by (with_reducible repeat (first | refine blk_drewN ?_ _ | refine blk_drew ?_ | refine blk_alloc ?_ _)); exact BK104.out⟩, ⟨by repeat (first | (with_reducible first | exact HB.out | apply below_alloc | apply pw_below_drewN | apply below_drew1 | refine below_set ?_ GE104.out) | exact HB.out)⟩⟩
                  · rw [if_neg c21] at H
                    exact absurd H (by simp)
                · replace c20 := Bool.eq_false_iff.mpr c20
                  subst c20
                  have H1 : (if (((((t105 ++ t106) ++ (⟨#[45]⟩ : ByteArray)) ++ t107) ++ (⟨#[45]⟩ : ByteArray)) ++ t108).size + 1 ≤ 9223372036854775807 then (spec_IOText.j0 k ((((((t105 ++ t106) ++ (⟨#[45]⟩ : ByteArray)) ++ t107) ++ (⟨#[45]⟩ : ByteArray)) ++ t108) ++ (⟨#[84]⟩ : ByteArray)) a0_0 a0_1 a0_2 a0_3 a0_4 a0_5 false true a0_8 a0_9 a0_10 a0_11) else (none)) = some r := by rw [if_neg (show ¬ (false = true) by decide)] at H; exact H
                  clear H
                  have H := H1
                  clear H1
                  by_cases c22 : (((((t105 ++ t106) ++ (⟨#[45]⟩ : ByteArray)) ++ t107) ++ (⟨#[45]⟩ : ByteArray)) ++ t108).size + 1 ≤ 9223372036854775807
                  · rw [if_pos c22] at H
                    have c22z := c22
                    try simp only [ByteArray.size_append, sz_one] at c22z
                    have c22y := Nat.not_lt.mpr c22z
                    have c22b0 := eq_true c22
                    have c22b1 : decide ((((((t105 ++ t106) ++ (⟨#[45]⟩ : ByteArray)) ++ t107) ++ (⟨#[45]⟩ : ByteArray)) ++ t108).size + 1 ≤ 9223372036854775807) = true := decide_eq_true c22
                    try have c22b2 : (9223372036854775807 < (((((t105 ++ t106) ++ (⟨#[45]⟩ : ByteArray)) ++ t107) ++ (⟨#[45]⟩ : ByteArray)) ++ t108).size + 1) = False := eq_false (Nat.not_lt.2 c22)
                    have H' := Aside0.mk H
                    clear H
                    go_wp2
                    go_meet
                    case rel => exact ⟨_, ((((((t105 ++ t106) ++ (⟨#[45]⟩ : ByteArray)) ++ t107) ++ (⟨#[45]⟩ : ByteArray)) ++ t108) ++ (⟨#[84]⟩ : ByteArray)), (by first | rfl | (simp; done) | (simp [*]; done)), H', ⟨by first | omega | exact Nat.le_refl _⟩, ⟨by (with_reducible repeat (first | refine blk_drewN ?_ _ | refine blk_drew ?_ | refine blk_alloc ?_ _)); exact BK104.out⟩, ⟨by repeat (first | (with_reducible first | exact HB.out | apply below_alloc | apply pw_below_drewN | apply below_drew1 | refine below_set ?_ GE104.out) | exact HB.out)⟩⟩
                  · rw [if_neg c22] at H
                    exact absurd H (by simp)
              case rest =>
                clear HC12
                try clear c1
                try clear c2
                try clear p2
                try clear c3
                try clear c4
                try clear c4b0
                try clear c4b1
                try clear c4b2
                try clear c5
                try clear c5b0
                try clear c5b1
                try clear c5b2
                try clear p6
                try clear c7
                try clear c7b0
                try clear c7b1
                try clear c7b2
                try clear c8
                try clear c8b0
                try clear c8b1
                try clear c8b2
                try clear c10
                try clear c10b0
                try clear c10b1
                try clear c10b2
                try clear c11
                try clear c20
                try clear c21
                try clear c21b0
                try clear c21b1
                try clear c21b2
                try clear c22
                try clear c22b0
                try clear c22b1
                try clear c22b2
                try clear hcz19_0
                try clear hcz19_1
                try clear hcz19_10
                try clear hcz19_11
                try clear hcz19_2
                try clear hcz19_3
                try clear hcz19_4
                try clear hcz19_5
                try clear hcz19_6
                try clear hcz19_7
                try clear hcz19_8
                try clear hcz19_9
                try clear hfz19_0
                try clear hfz19_1
                try clear hfz19_10
                try clear hfz19_11
                try clear hfz19_2
                try clear hfz19_3
                try clear hfz19_4
                try clear hfz19_5
                try clear hfz19_6
                try clear hfz19_7
                try clear hfz19_8
                try clear hfz19_9
                obtain ⟨kq, x3_11, rfl, HA, HJ11, BK104, HB⟩ := hcut
                cases kq with
                | zero => exact absurd HA.out (by simp [spec_IOText.j0])
                | succ kj11 =>
                  have H := HA.out
                  clear HA
                  simp only [spec_IOText.j0] at H
                  replace H := Option.bind_eq_some_iff.mp H
                  obtain ⟨t109, A230, H⟩ := H
                  replace H : (if t109.size + 1 ≤ 9223372036854775807 then ((spec_ioTwo.f a0_4).bind fun t110 => (if (t109 ++ (⟨#[58]⟩ : ByteArray)).size + t110.size ≤ 9223372036854775807 then (if ((t109 ++ (⟨#[58]⟩ : ByteArray)) ++ t110).size + 1 ≤ 9223372036854775807 then ((spec_ioTwo.f a0_5).bind fun t111 => (if (((t109 ++ (⟨#[58]⟩ : ByteArray)) ++ t110) ++ (⟨#[58]⟩ : ByteArray)).size + t111.size ≤ 9223372036854775807 then (if x3_11.size + ((((t109 ++ (⟨#[58]⟩ : ByteArray)) ++ t110) ++ (⟨#[58]⟩ : ByteArray)) ++ t111).size ≤ 9223372036854775807 then (if a0_8 > 0 then (if (x3_11 ++ ((((t109 ++ (⟨#[58]⟩ : ByteArray)) ++ t110) ++ (⟨#[58]⟩ : ByteArray)) ++ t111)).size + 1 ≤ 9223372036854775807 then (spec_IOText.l0 kj11 ((x3_11 ++ ((((t109 ++ (⟨#[58]⟩ : ByteArray)) ++ t110) ++ (⟨#[58]⟩ : ByteArray)) ++ t111)) ++ (⟨#[46]⟩ : ByteArray)) (⟨#[]⟩ : ByteArray) 0 a0_9 a0_0 a0_1 a0_2 a0_3 a0_4 a0_5 a0_6 true a0_8 a0_9 a0_10 a0_11) else (none)) else (spec_IOText.j2 kj11 (x3_11 ++ ((((t109 ++ (⟨#[58]⟩ : ByteArray)) ++ t110) ++ (⟨#[58]⟩ : ByteArray)) ++ t111)) a0_0 a0_1 a0_2 a0_3 a0_4 a0_5 a0_6 true a0_8 a0_9 a0_10 a0_11)) else (none)) else (none))) else (none)) else (none))) else (none)) = some r := H
                  have A23 := Aside0.mk A230
                  clear A230
                  by_cases c24 : t109.size + 1 ≤ 9223372036854775807
                  · rw [if_pos c24] at H
                    have c24z := c24
                    try simp only [ByteArray.size_append, sz_one] at c24z
                    have c24y := Nat.not_lt.mpr c24z
                    have c24b0 := eq_true c24
                    have c24b1 : decide (t109.size + 1 ≤ 9223372036854775807) = true := decide_eq_true c24
                    try have c24b2 : (9223372036854775807 < t109.size + 1) = False := eq_false (Nat.not_lt.2 c24)
                    replace H := Option.bind_eq_some_iff.mp H
                    obtain ⟨t110, A250, H⟩ := H
                    replace H : (if (t109 ++ (⟨#[58]⟩ : ByteArray)).size + t110.size ≤ 9223372036854775807 then (if ((t109 ++ (⟨#[58]⟩ : ByteArray)) ++ t110).size + 1 ≤ 9223372036854775807 then ((spec_ioTwo.f a0_5).bind fun t111 => (if (((t109 ++ (⟨#[58]⟩ : ByteArray)) ++ t110) ++ (⟨#[58]⟩ : ByteArray)).size + t111.size ≤ 9223372036854775807 then (if x3_11.size + ((((t109 ++ (⟨#[58]⟩ : ByteArray)) ++ t110) ++ (⟨#[58]⟩ : ByteArray)) ++ t111).size ≤ 9223372036854775807 then (if a0_8 > 0 then (if (x3_11 ++ ((((t109 ++ (⟨#[58]⟩ : ByteArray)) ++ t110) ++ (⟨#[58]⟩ : ByteArray)) ++ t111)).size + 1 ≤ 9223372036854775807 then (spec_IOText.l0 kj11 ((x3_11 ++ ((((t109 ++ (⟨#[58]⟩ : ByteArray)) ++ t110) ++ (⟨#[58]⟩ : ByteArray)) ++ t111)) ++ (⟨#[46]⟩ : ByteArray)) (⟨#[]⟩ : ByteArray) 0 a0_9 a0_0 a0_1 a0_2 a0_3 a0_4 a0_5 a0_6 true a0_8 a0_9 a0_10 a0_11) else (none)) else (spec_IOText.j2 kj11 (x3_11 ++ ((((t109 ++ (⟨#[58]⟩ : ByteArray)) ++ t110) ++ (⟨#[58]⟩ : ByteArray)) ++ t111)) a0_0 a0_1 a0_2 a0_3 a0_4 a0_5 a0_6 true a0_8 a0_9 a0_10 a0_11)) else (none)) else (none))) else (none)) else (none)) = some r := H
                    have A25 := Aside0.mk A250
                    clear A250
                    by_cases c26 : (t109 ++ (⟨#[58]⟩ : ByteArray)).size + t110.size ≤ 9223372036854775807
                    · rw [if_pos c26] at H
                      have c26z := c26
                      try simp only [ByteArray.size_append, sz_one] at c26z
                      have c26y := Nat.not_lt.mpr c26z
                      have c26b0 := eq_true c26
                      have c26b1 : decide ((t109 ++ (⟨#[58]⟩ : ByteArray)).size + t110.size ≤ 9223372036854775807) = true := decide_eq_true c26
                      try have c26b2 : (9223372036854775807 < (t109 ++ (⟨#[58]⟩ : ByteArray)).size + t110.size) = False := eq_false (Nat.not_lt.2 c26)
                      by_cases c27 : ((t109 ++ (⟨#[58]⟩ : ByteArray)) ++ t110).size + 1 ≤ 9223372036854775807
                      · rw [if_pos c27] at H
                        have c27z := c27
                        try simp only [ByteArray.size_append, sz_one] at c27z
                        have c27y := Nat.not_lt.mpr c27z
                        have c27b0 := eq_true c27
                        have c27b1 : decide (((t109 ++ (⟨#[58]⟩ : ByteArray)) ++ t110).size + 1 ≤ 9223372036854775807) = true := decide_eq_true c27
                        try have c27b2 : (9223372036854775807 < ((t109 ++ (⟨#[58]⟩ : ByteArray)) ++ t110).size + 1) = False := eq_false (Nat.not_lt.2 c27)
                        replace H := Option.bind_eq_some_iff.mp H
                        obtain ⟨t111, A280, H⟩ := H
                        replace H : (if (((t109 ++ (⟨#[58]⟩ : ByteArray)) ++ t110) ++ (⟨#[58]⟩ : ByteArray)).size + t111.size ≤ 9223372036854775807 then (if x3_11.size + ((((t109 ++ (⟨#[58]⟩ : ByteArray)) ++ t110) ++ (⟨#[58]⟩ : ByteArray)) ++ t111).size ≤ 9223372036854775807 then (if a0_8 > 0 then (if (x3_11 ++ ((((t109 ++ (⟨#[58]⟩ : ByteArray)) ++ t110) ++ (⟨#[58]⟩ : ByteArray)) ++ t111)).size + 1 ≤ 9223372036854775807 then (spec_IOText.l0 kj11 ((x3_11 ++ ((((t109 ++ (⟨#[58]⟩ : ByteArray)) ++ t110) ++ (⟨#[58]⟩ : ByteArray)) ++ t111)) ++ (⟨#[46]⟩ : ByteArray)) (⟨#[]⟩ : ByteArray) 0 a0_9 a0_0 a0_1 a0_2 a0_3 a0_4 a0_5 a0_6 true a0_8 a0_9 a0_10 a0_11) else (none)) else (spec_IOText.j2 kj11 (x3_11 ++ ((((t109 ++ (⟨#[58]⟩ : ByteArray)) ++ t110) ++ (⟨#[58]⟩ : ByteArray)) ++ t111)) a0_0 a0_1 a0_2 a0_3 a0_4 a0_5 a0_6 true a0_8 a0_9 a0_10 a0_11)) else (none)) else (none)) = some r := H
                        have A28 := Aside0.mk A280
                        clear A280
                        by_cases c29 : (((t109 ++ (⟨#[58]⟩ : ByteArray)) ++ t110) ++ (⟨#[58]⟩ : ByteArray)).size + t111.size ≤ 9223372036854775807
                        · rw [if_pos c29] at H
                          have c29z := c29
                          try simp only [ByteArray.size_append, sz_one] at c29z
                          have c29y := Nat.not_lt.mpr c29z
                          have c29b0 := eq_true c29
                          have c29b1 : decide ((((t109 ++ (⟨#[58]⟩ : ByteArray)) ++ t110) ++ (⟨#[58]⟩ : ByteArray)).size + t111.size ≤ 9223372036854775807) = true := decide_eq_true c29
                          try have c29b2 : (9223372036854775807 < (((t109 ++ (⟨#[58]⟩ : ByteArray)) ++ t110) ++ (⟨#[58]⟩ : ByteArray)).size + t111.size) = False := eq_false (Nat.not_lt.2 c29)
                          by_cases c30 : x3_11.size + ((((t109 ++ (⟨#[58]⟩ : ByteArray)) ++ t110) ++ (⟨#[58]⟩ : ByteArray)) ++ t111).size ≤ 9223372036854775807
                          · rw [if_pos c30] at H
                            have c30z := c30
                            try simp only [ByteArray.size_append, sz_one] at c30z
                            have c30y := Nat.not_lt.mpr c30z
                            have c30b0 := eq_true c30
                            have c30b1 : decide (x3_11.size + ((((t109 ++ (⟨#[58]⟩ : ByteArray)) ++ t110) ++ (⟨#[58]⟩ : ByteArray)) ++ t111).size ≤ 9223372036854775807) = true := decide_eq_true c30
                            try have c30b2 : (9223372036854775807 < x3_11.size + ((((t109 ++ (⟨#[58]⟩ : ByteArray)) ++ t110) ++ (⟨#[58]⟩ : ByteArray)) ++ t111).size) = False := eq_false (Nat.not_lt.2 c30)
                            have HC31 := Aside0.mk H
                            clear H
                            try go_wp2
                            have n0_ := Aside0.mk (blk_drew BK104.out)
                            have n1_ := Aside0.mk (below_drew1 HB.out)
                            clear BK104
                            clear HB
                            have BK104 := n0_
                            have HB := n1_
                            clear n0_ n1_
                            refine start_ (n := 16) (S := fun w' => w'.cell? ⟨gb104, 0, none⟩ = some (.int .i64 a0_0) ∧ w'.cell? ⟨gb104, 1, none⟩ = some (.int .i64 a0_1) ∧ w'.cell? ⟨gb104, 2, none⟩ = some (.int .i64 a0_2) ∧ w'.cell? ⟨gb104, 3, none⟩ = some (.int .i64 a0_3) ∧ w'.cell? ⟨gb104, 4, none⟩ = some (.int .i64 a0_4) ∧ w'.cell? ⟨gb104, 5, none⟩ = some (.int .i64 a0_5) ∧ w'.cell? ⟨gb104, 6, none⟩ = some (.bool a0_6) ∧ w'.cell? ⟨gb104, 7, none⟩ = some (.bool true) ∧ w'.cell? ⟨gb104, 8, none⟩ = some (.int .i64 a0_8) ∧ w'.cell? ⟨gb104, 9, none⟩ = some (.int .i64 a0_9) ∧ w'.cell? ⟨gb104, 10, none⟩ = some (.int .i64 a0_10) ∧ w'.cell? ⟨gb104, 11, none⟩ = some (.int .i64 a0_11)) (ds := []) #[false, false, false, false, false, false, false, false, false, false, false, false, false, false, false, false] (by kernel_rfl) rfl rfl ⟨(blk_cell BK104.out 0).trans rfl, (blk_cell BK104.out 1).trans rfl, (blk_cell BK104.out 2).trans rfl, (blk_cell BK104.out 3).trans rfl, (blk_cell BK104.out 4).trans rfl, (blk_cell BK104.out 5).trans rfl, (blk_cell BK104.out 6).trans rfl, (blk_cell BK104.out 7).trans rfl, (blk_cell BK104.out 8).trans rfl, (blk_cell BK104.out 9).trans rfl, (blk_cell BK104.out 10).trans rfl, (blk_cell BK104.out 11).trans rfl⟩ (fun hHeld => ?_); refine with_tabW spec_IOText.tab7 spec_IOText.bits7 (fun HT_ HW_ => ?_)
                            generalize wc.drew = w32 at BK104 HB hHeld ⊢
                            refine pure_ (i := 0) (N := some 37) (v := ?_) (a' := ?_) #[true, false, false, false, false, false, false, false, false, false, false, false, false, false, false, false] rfl rfl (any_of HT_.out (by kernel_rfl)) (fun _ _ _ h => h) (Or.inl ⟨by rfl, ?_⟩) ?_ ?_
                            rotate_left
                            · intro w'
                              go_simp
                              with_reducible rfl
                            rotate_left
                            · simp only [Act.put, List.setIfInBounds_toArray, List.set_cons_zero, List.set_cons_succ, i64_w, i32_w]
                              rfl
                            refine pure_ (i := 1) (N := some 38) (v := ?_) (a' := ?_) #[true, true, false, false, false, false, false, false, false, false, false, false, false, false, false, false] rfl rfl (any_of HT_.out (by kernel_rfl)) (fun _ _ _ h => h) (Or.inl ⟨by rfl, ?_⟩) ?_ ?_
                            rotate_left
                            · intro w'
                              go_simp
                              with_reducible rfl
                            rotate_left
                            · simp only [Act.put, List.setIfInBounds_toArray, List.set_cons_zero, List.set_cons_succ, i64_w, i32_w]
                              rfl
                            refine pure_ (i := 5) (N := some 42) (v := ?_) (a' := ?_) #[true, true, false, false, false, true, false, false, false, false, false, false, false, false, false, false] rfl rfl (any_of HT_.out (by kernel_rfl)) (fun _ _ _ h => h) (Or.inl ⟨by rfl, ?_⟩) ?_ ?_
                            rotate_left
                            · intro w'
                              go_simp
                              with_reducible rfl
                            rotate_left
                            · simp only [Act.put, List.setIfInBounds_toArray, List.set_cons_zero, List.set_cons_succ, i64_w, i32_w]
                              rfl
                            refine pure_ (i := 10) (N := some 47) (v := ?_) (a' := ?_) #[true, true, false, false, false, true, false, false, false, false, true, false, false, false, false, false] rfl rfl (any_of HT_.out (by kernel_rfl)) (fun _ _ _ h => h) (Or.inl ⟨by rfl, ?_⟩) ?_ ?_
                            rotate_left
                            · intro w'
                              go_simp
                              with_reducible rfl
                            rotate_left
                            · simp only [Act.put, List.setIfInBounds_toArray, List.set_cons_zero, List.set_cons_succ, i64_w, i32_w]
                              rfl
                            refine take_ (i := 2) (N := some 39) (v := ?_) (a' := ?_) #[true, true, true, false, false, true, false, false, false, false, true, false, false, false, false, false] rfl rfl (take_ofW HT_.out HW_.out (by kernel_rfl)) (fun _ _ _ h => h) (Or.inl ⟨by rfl, ?_⟩) hHeld ?_ ?_
                            rotate_left
                            · rintro w' ⟨s0, s1, s2, s3, s4, s5, s6, s7, s8, s9, s10, s11⟩
                              go_simp
                              with_reducible rfl
                            rotate_left
                            · simp only [Act.put, List.setIfInBounds_toArray, List.set_cons_zero, List.set_cons_succ, i64_w, i32_w]
                              rfl
                            refine take_ (i := 6) (N := some 43) (v := ?_) (a' := ?_) #[true, true, true, false, false, true, true, false, false, false, true, false, false, false, false, false] rfl rfl (take_ofW HT_.out HW_.out (by kernel_rfl)) (fun _ _ _ h => h) (Or.inl ⟨by rfl, ?_⟩) hHeld ?_ ?_
                            rotate_left
                            · rintro w' ⟨s0, s1, s2, s3, s4, s5, s6, s7, s8, s9, s10, s11⟩
                              go_simp
                              with_reducible rfl
                            rotate_left
                            · simp only [Act.put, List.setIfInBounds_toArray, List.set_cons_zero, List.set_cons_succ, i64_w, i32_w]
                              rfl
                            refine take_ (i := 11) (N := some 48) (v := ?_) (a' := ?_) #[true, true, true, false, false, true, true, false, false, false, true, true, false, false, false, false] rfl rfl (take_ofW HT_.out HW_.out (by kernel_rfl)) (fun _ _ _ h => h) (Or.inl ⟨by rfl, ?_⟩) hHeld ?_ ?_
                            rotate_left
                            · rintro w' ⟨s0, s1, s2, s3, s4, s5, s6, s7, s8, s9, s10, s11⟩
                              go_simp
                              with_reducible rfl
                            rotate_left
                            · simp only [Act.put, List.setIfInBounds_toArray, List.set_cons_zero, List.set_cons_succ, i64_w, i32_w]
                              rfl
                            refine one_ (i := 3) (N := some 40) #[true, true, true, true, false, true, true, false, false, false, true, true, false, false, false, false] rfl rfl (one_of HT_.out (by kernel_rfl)) (by decide) (fun K hK => ?_)
                            refine goes_ Try.func58 (by kernel_rfl) rfl #[.int .i64 a0_3] (by rfl) rfl rfl (by (try simp only [List.map_toArray, List.map_cons, List.map_nil]); first | done | rfl | (simp only [List.length_drop, List.length_take]; rfl)) ?_
                            with_reducible refine (spec_ioTwo.calls a0_3 t109 _ A23.out).mono ?_
                            rintro e w33 ⟨rfl, hb⟩
                            refine ⟨_, rfl, ?_⟩
                            have n0_ := Aside0.mk (blk_below (g := gb104) (o := .cells #[.int .i64 a0_0, .int .i64 a0_1, .int .i64 a0_2, .int .i64 a0_3, .int .i64 a0_4, .int .i64 a0_5, .bool a0_6, .bool true, .int .i64 a0_8, .int .i64 a0_9, .int .i64 a0_10, .int .i64 a0_11] 50 (0, 0)) (by (with_reducible repeat (first | refine blk_drewN ?_ _ | refine blk_drew ?_ | refine blk_alloc ?_ _)); exact BK104.out) hb)
                            have n1_ := Aside0.mk (below_step (by repeat (first | (with_reducible first | exact HB.out | apply below_alloc | apply pw_below_drewN | apply below_drew1 | refine below_set ?_ GE104.out) | exact HB.out)) hb)
                            clear BK104
                            clear HB
                            have BK104 := n0_
                            have HB := n1_
                            clear n0_ n1_
                            (try clear hb)
                            (try clear hb2)
                            (try clear hk)
                            (try clear hi)
                            refine hK.out _ _ ⟨(blk_cell BK104.out 0).trans rfl, (blk_cell BK104.out 1).trans rfl, (blk_cell BK104.out 2).trans rfl, (blk_cell BK104.out 3).trans rfl, (blk_cell BK104.out 4).trans rfl, (blk_cell BK104.out 5).trans rfl, (blk_cell BK104.out 6).trans rfl, (blk_cell BK104.out 7).trans rfl, (blk_cell BK104.out 8).trans rfl, (blk_cell BK104.out 9).trans rfl, (blk_cell BK104.out 10).trans rfl, (blk_cell BK104.out 11).trans rfl⟩ (fun hHeld => ?_)
                            clear hK K
                            refine norm_ (a' := ?_) ?_ ?_
                            rotate_left
                            · show Act.put _ (some 40) _ = _
                              simp only [Act.put, List.setIfInBounds_toArray, List.set_cons_zero, List.set_cons_succ, i64_w, i32_w]
                              rfl
                            refine pure_ (i := 4) (N := some 41) (v := ?_) (a' := ?_) #[true, true, true, true, true, true, true, false, false, false, true, true, false, false, false, false] rfl rfl (any_of HT_.out (by kernel_rfl)) (fun _ _ _ h => h) (Or.inl ⟨by rfl, ?_⟩) ?_ ?_
                            rotate_left
                            · intro w'
                              go_simp
                              with_reducible rfl
                            rotate_left
                            · simp only [Act.put, List.setIfInBounds_toArray, List.set_cons_zero, List.set_cons_succ, i64_w, i32_w]
                              rfl
                            refine one_ (i := 7) (N := some 44) #[true, true, true, true, true, true, true, true, false, false, true, true, false, false, false, false] rfl rfl (one_of HT_.out (by kernel_rfl)) (by decide) (fun K hK => ?_)
                            refine goes_ Try.func58 (by kernel_rfl) rfl #[.int .i64 a0_4] (by rfl) rfl rfl (by (try simp only [List.map_toArray, List.map_cons, List.map_nil]); first | done | rfl | (simp only [List.length_drop, List.length_take]; rfl)) ?_
                            with_reducible refine (spec_ioTwo.calls a0_4 t110 _ A25.out).mono ?_
                            rintro e w34 ⟨rfl, hb⟩
                            refine ⟨_, rfl, ?_⟩
                            have n0_ := Aside0.mk (blk_below (g := gb104) (o := .cells #[.int .i64 a0_0, .int .i64 a0_1, .int .i64 a0_2, .int .i64 a0_3, .int .i64 a0_4, .int .i64 a0_5, .bool a0_6, .bool true, .int .i64 a0_8, .int .i64 a0_9, .int .i64 a0_10, .int .i64 a0_11] 50 (0, 0)) (by (with_reducible repeat (first | refine blk_drewN ?_ _ | refine blk_drew ?_ | refine blk_alloc ?_ _)); exact BK104.out) hb)
                            have n1_ := Aside0.mk (below_step (by repeat (first | (with_reducible first | exact HB.out | apply below_alloc | apply pw_below_drewN | apply below_drew1 | refine below_set ?_ GE104.out) | exact HB.out)) hb)
                            clear BK104
                            clear HB
                            have BK104 := n0_
                            have HB := n1_
                            clear n0_ n1_
                            (try clear hb)
                            (try clear hb2)
                            (try clear hk)
                            (try clear hi)
                            refine hK.out _ _ ⟨(blk_cell BK104.out 0).trans rfl, (blk_cell BK104.out 1).trans rfl, (blk_cell BK104.out 2).trans rfl, (blk_cell BK104.out 3).trans rfl, (blk_cell BK104.out 4).trans rfl, (blk_cell BK104.out 5).trans rfl, (blk_cell BK104.out 6).trans rfl, (blk_cell BK104.out 7).trans rfl, (blk_cell BK104.out 8).trans rfl, (blk_cell BK104.out 9).trans rfl, (blk_cell BK104.out 10).trans rfl, (blk_cell BK104.out 11).trans rfl⟩ (fun hHeld => ?_)
                            clear hK K
                            refine norm_ (a' := ?_) ?_ ?_
                            rotate_left
                            · show Act.put _ (some 44) _ = _
                              simp only [Act.put, List.setIfInBounds_toArray, List.set_cons_zero, List.set_cons_succ, i64_w, i32_w]
                              rfl
                            refine pure_ (i := 8) (N := some 45) (v := ?_) (a' := ?_) #[true, true, true, true, true, true, true, true, true, false, true, true, false, false, false, false] rfl rfl (any_of HT_.out (by kernel_rfl)) (fun _ _ _ h => h) (Or.inl ⟨by rfl, ?_⟩) ?_ ?_
                            rotate_left
                            · intro w'
                              go_simp
                              with_reducible rfl
                            rotate_left
                            · simp only [Act.put, List.setIfInBounds_toArray, List.set_cons_zero, List.set_cons_succ, i64_w, i32_w]
                              rfl
                            refine pure_ (i := 9) (N := some 46) (v := ?_) (a' := ?_) #[true, true, true, true, true, true, true, true, true, true, true, true, false, false, false, false] rfl rfl (any_of HT_.out (by kernel_rfl)) (fun _ _ _ h => h) (Or.inl ⟨by rfl, ?_⟩) ?_ ?_
                            rotate_left
                            · intro w'
                              go_simp
                              with_reducible rfl
                            rotate_left
                            · simp only [Act.put, List.setIfInBounds_toArray, List.set_cons_zero, List.set_cons_succ, i64_w, i32_w]
                              rfl
                            refine one_ (i := 12) (N := some 49) #[true, true, true, true, true, true, true, true, true, true, true, true, true, false, false, false] rfl rfl (one_of HT_.out (by kernel_rfl)) (by decide) (fun K hK => ?_)
                            refine goes_ Try.func58 (by kernel_rfl) rfl #[.int .i64 a0_5] (by rfl) rfl rfl (by (try simp only [List.map_toArray, List.map_cons, List.map_nil]); first | done | rfl | (simp only [List.length_drop, List.length_take]; rfl)) ?_
                            with_reducible refine (spec_ioTwo.calls a0_5 t111 _ A28.out).mono ?_
                            rintro e w35 ⟨rfl, hb⟩
                            refine ⟨_, rfl, ?_⟩
                            have n0_ := Aside0.mk (blk_below (g := gb104) (o := .cells #[.int .i64 a0_0, .int .i64 a0_1, .int .i64 a0_2, .int .i64 a0_3, .int .i64 a0_4, .int .i64 a0_5, .bool a0_6, .bool true, .int .i64 a0_8, .int .i64 a0_9, .int .i64 a0_10, .int .i64 a0_11] 50 (0, 0)) (by (with_reducible repeat (first | refine blk_drewN ?_ _ | refine blk_drew ?_ | refine blk_alloc ?_ _)); exact BK104.out) hb)
                            have n1_ := Aside0.mk (below_step (by repeat (first | (with_reducible first | exact HB.out | apply below_alloc | apply pw_below_drewN | apply below_drew1 | refine below_set ?_ GE104.out) | exact HB.out)) hb)
                            clear BK104
                            clear HB
                            have BK104 := n0_
                            have HB := n1_
                            clear n0_ n1_
                            (try clear hb)
                            (try clear hb2)
                            (try clear hk)
                            (try clear hi)
                            refine hK.out _ _ ⟨(blk_cell BK104.out 0).trans rfl, (blk_cell BK104.out 1).trans rfl, (blk_cell BK104.out 2).trans rfl, (blk_cell BK104.out 3).trans rfl, (blk_cell BK104.out 4).trans rfl, (blk_cell BK104.out 5).trans rfl, (blk_cell BK104.out 6).trans rfl, (blk_cell BK104.out 7).trans rfl, (blk_cell BK104.out 8).trans rfl, (blk_cell BK104.out 9).trans rfl, (blk_cell BK104.out 10).trans rfl, (blk_cell BK104.out 11).trans rfl⟩ (fun hHeld => ?_)
                            clear hK K
                            refine norm_ (a' := ?_) ?_ ?_
                            rotate_left
                            · show Act.put _ (some 49) _ = _
                              simp only [Act.put, List.setIfInBounds_toArray, List.set_cons_zero, List.set_cons_succ, i64_w, i32_w]
                              rfl
                            refine pure_ (i := 13) (N := some 50) (v := ?_) (a' := ?_) #[true, true, true, true, true, true, true, true, true, true, true, true, true, true, false, false] rfl rfl (any_of HT_.out (by kernel_rfl)) (fun _ _ _ h => h) (Or.inl ⟨by rfl, ?_⟩) ?_ ?_
                            rotate_left
                            · intro w'
                              go_simp
                              with_reducible rfl
                            rotate_left
                            · simp only [Act.put, List.setIfInBounds_toArray, List.set_cons_zero, List.set_cons_succ, i64_w, i32_w]
                              rfl
                            refine pure_ (i := 14) (N := some 51) (v := ?_) (a' := ?_) #[true, true, true, true, true, true, true, true, true, true, true, true, true, true, true, false] rfl rfl (any_of HT_.out (by kernel_rfl)) (fun _ _ _ h => h) (Or.inl ⟨by rfl, ?_⟩) ?_ ?_
                            rotate_left
                            · intro w'
                              go_simp
                              with_reducible rfl
                            rotate_left
                            · simp only [Act.put, List.setIfInBounds_toArray, List.set_cons_zero, List.set_cons_succ, i64_w, i32_w]
                              rfl
                            refine pure_ (i := 15) (N := some 3) (v := ?_) (a' := ?_) #[true, true, true, true, true, true, true, true, true, true, true, true, true, true, true, true] rfl rfl (any_of HT_.out (by kernel_rfl)) (fun _ _ _ h => h) (Or.inl ⟨by rfl, ?_⟩) ?_ ?_
                            rotate_left
                            · intro w'
                              go_simp
                              with_reducible rfl
                            rotate_left
                            · simp only [Act.put, List.setIfInBounds_toArray, List.set_cons_zero, List.set_cons_succ, i64_w, i32_w]
                              rfl
                            refine done_ (done_of HT_.out (by kernel_rfl)) ?_
                            have hcz36_0 : w35.cell? ⟨gb104, 0, none⟩ = some (.int .i64 a0_0) := (blk_cell BK104.out 0).trans rfl
                            have hcz36_1 : w35.cell? ⟨gb104, 1, none⟩ = some (.int .i64 a0_1) := (blk_cell BK104.out 1).trans rfl
                            have hcz36_2 : w35.cell? ⟨gb104, 2, none⟩ = some (.int .i64 a0_2) := (blk_cell BK104.out 2).trans rfl
                            have hcz36_3 : w35.cell? ⟨gb104, 3, none⟩ = some (.int .i64 a0_3) := (blk_cell BK104.out 3).trans rfl
                            have hcz36_4 : w35.cell? ⟨gb104, 4, none⟩ = some (.int .i64 a0_4) := (blk_cell BK104.out 4).trans rfl
                            have hcz36_5 : w35.cell? ⟨gb104, 5, none⟩ = some (.int .i64 a0_5) := (blk_cell BK104.out 5).trans rfl
                            have hcz36_6 : w35.cell? ⟨gb104, 6, none⟩ = some (.bool a0_6) := (blk_cell BK104.out 6).trans rfl
                            have hcz36_7 : w35.cell? ⟨gb104, 7, none⟩ = some (.bool true) := (blk_cell BK104.out 7).trans rfl
                            have hcz36_8 : w35.cell? ⟨gb104, 8, none⟩ = some (.int .i64 a0_8) := (blk_cell BK104.out 8).trans rfl
                            have hcz36_9 : w35.cell? ⟨gb104, 9, none⟩ = some (.int .i64 a0_9) := (blk_cell BK104.out 9).trans rfl
                            have hcz36_10 : w35.cell? ⟨gb104, 10, none⟩ = some (.int .i64 a0_10) := (blk_cell BK104.out 10).trans rfl
                            have hcz36_11 : w35.cell? ⟨gb104, 11, none⟩ = some (.int .i64 a0_11) := (blk_cell BK104.out 11).trans rfl
                            have hfz36_0 := blk_frozen BK104.out 0
                            have hfz36_1 := blk_frozen BK104.out 1
                            have hfz36_2 := blk_frozen BK104.out 2
                            have hfz36_3 := blk_frozen BK104.out 3
                            have hfz36_4 := blk_frozen BK104.out 4
                            have hfz36_5 := blk_frozen BK104.out 5
                            have hfz36_6 := blk_frozen BK104.out 6
                            have hfz36_7 := blk_frozen BK104.out 7
                            have hfz36_8 := blk_frozen BK104.out 8
                            have hfz36_9 := blk_frozen BK104.out 9
                            have hfz36_10 := blk_frozen BK104.out 10
                            have hfz36_11 := blk_frozen BK104.out 11
                            go_upto_if 54 with (fail)
                            go_cut [3] (fun v3 wc => ∃ (kq : Nat) (x3_30 : ByteArray), v3 = .string x3_30 ∧ Aside0 (spec_IOText.j2 kq x3_30 a0_0 a0_1 a0_2 a0_3 a0_4 a0_5 a0_6 true a0_8 a0_9 a0_10 a0_11 = some r) ∧ Aside0 (kq ≤ kj11) ∧ Aside0 (wc.heap[gb104]? = some (.cells #[.int .i64 a0_0, .int .i64 a0_1, .int .i64 a0_2, .int .i64 a0_3, .int .i64 a0_4, .int .i64 a0_5, .bool a0_6, .bool true, .int .i64 a0_8, .int .i64 a0_9, .int .i64 a0_10, .int .i64 a0_11] 50 (0, 0))) ∧ Aside0 (Below w.heap.size w wc))
                            case first =>
                              have H := HC31.out
                              clear HC31
                              by_cases c37 : a0_8 > 0
                              · rw [if_pos c37] at H
                                have c37b0 : decide (0 < a0_8) = true := decide_eq_true c37
                                clear c37
                                (first | rw [c37b0] | (simp only [i64_w, i32_w]; rw [c37b0]) | skip)
                                by_cases c38 : (x3_11 ++ ((((t109 ++ (⟨#[58]⟩ : ByteArray)) ++ t110) ++ (⟨#[58]⟩ : ByteArray)) ++ t111)).size + 1 ≤ 9223372036854775807
                                · rw [if_pos c38] at H
                                  have c38z := c38
                                  try simp only [ByteArray.size_append, sz_one] at c38z
                                  have c38y := Nat.not_lt.mpr c38z
                                  have c38b0 := eq_true c38
                                  have c38b1 : decide ((x3_11 ++ ((((t109 ++ (⟨#[58]⟩ : ByteArray)) ++ t110) ++ (⟨#[58]⟩ : ByteArray)) ++ t111)).size + 1 ≤ 9223372036854775807) = true := decide_eq_true c38
                                  try have c38b2 : (9223372036854775807 < (x3_11 ++ ((((t109 ++ (⟨#[58]⟩ : ByteArray)) ++ t110) ++ (⟨#[58]⟩ : ByteArray)) ++ t111)).size + 1) = False := eq_false (Nat.not_lt.2 c38)
                                  have H' := Aside0.mk H
                                  clear H
                                  try go_wp2
                                  have n0_ := Aside0.mk (blk_drew BK104.out)
                                  have n1_ := Aside0.mk (below_drew1 HB.out)
                                  clear BK104
                                  clear HB
                                  have BK104 := n0_
                                  have HB := n1_
                                  clear n0_ n1_
                                  refine start_ (n := 4) (S := fun w' => w'.cell? ⟨gb104, 0, none⟩ = some (.int .i64 a0_0) ∧ w'.cell? ⟨gb104, 1, none⟩ = some (.int .i64 a0_1) ∧ w'.cell? ⟨gb104, 2, none⟩ = some (.int .i64 a0_2) ∧ w'.cell? ⟨gb104, 3, none⟩ = some (.int .i64 a0_3) ∧ w'.cell? ⟨gb104, 4, none⟩ = some (.int .i64 a0_4) ∧ w'.cell? ⟨gb104, 5, none⟩ = some (.int .i64 a0_5) ∧ w'.cell? ⟨gb104, 6, none⟩ = some (.bool a0_6) ∧ w'.cell? ⟨gb104, 7, none⟩ = some (.bool true) ∧ w'.cell? ⟨gb104, 8, none⟩ = some (.int .i64 a0_8) ∧ w'.cell? ⟨gb104, 9, none⟩ = some (.int .i64 a0_9) ∧ w'.cell? ⟨gb104, 10, none⟩ = some (.int .i64 a0_10) ∧ w'.cell? ⟨gb104, 11, none⟩ = some (.int .i64 a0_11)) (ds := []) #[false, false, false, false] (by kernel_rfl) rfl rfl ⟨(blk_cell BK104.out 0).trans rfl, (blk_cell BK104.out 1).trans rfl, (blk_cell BK104.out 2).trans rfl, (blk_cell BK104.out 3).trans rfl, (blk_cell BK104.out 4).trans rfl, (blk_cell BK104.out 5).trans rfl, (blk_cell BK104.out 6).trans rfl, (blk_cell BK104.out 7).trans rfl, (blk_cell BK104.out 8).trans rfl, (blk_cell BK104.out 9).trans rfl, (blk_cell BK104.out 10).trans rfl, (blk_cell BK104.out 11).trans rfl⟩ (fun hHeld => ?_)
                                  generalize w35.drew = w39 at BK104 HB hHeld ⊢
                                  refine pure_ (i := 0) (N := some 57) (v := ?_) (a' := ?_) #[true, false, false, false] rfl rfl (by kernel_rfl) (fun _ _ _ h => h) (Or.inl ⟨by rfl, ?_⟩) ?_ ?_
                                  rotate_left
                                  · intro w'
                                    go_simp
                                    with_reducible rfl
                                  rotate_left
                                  · simp only [Act.put, List.setIfInBounds_toArray, List.set_cons_zero, List.set_cons_succ, i64_w, i32_w]
                                    rfl
                                  refine pure_ (i := 2) (N := some 5) (v := ?_) (a' := ?_) #[true, false, true, false] rfl rfl (by kernel_rfl) (fun _ _ _ h => h) (Or.inl ⟨by rfl, ?_⟩) ?_ ?_
                                  rotate_left
                                  · intro w'
                                    go_simp
                                    with_reducible rfl
                                  rotate_left
                                  · simp only [Act.put, List.setIfInBounds_toArray, List.set_cons_zero, List.set_cons_succ, i64_w, i32_w]
                                    rfl
                                  refine take_ (i := 1) (N := some 58) (v := ?_) (a' := ?_) #[true, true, true, false] rfl rfl (by kernel_rfl) (fun _ _ _ h => h) (Or.inl ⟨by rfl, ?_⟩) hHeld ?_ ?_
                                  rotate_left
                                  · rintro w' ⟨s0, s1, s2, s3, s4, s5, s6, s7, s8, s9, s10, s11⟩
                                    go_simp
                                    with_reducible rfl
                                  rotate_left
                                  · simp only [Act.put, List.setIfInBounds_toArray, List.set_cons_zero, List.set_cons_succ, i64_w, i32_w]
                                    rfl
                                  refine pure_ (i := 3) (N := some 6) (v := ?_) (a' := ?_) #[true, true, true, true] rfl rfl (by kernel_rfl) (fun _ _ _ h => h) (Or.inl ⟨by rfl, ?_⟩) ?_ ?_
                                  rotate_left
                                  · intro w'
                                    go_simp
                                    with_reducible rfl
                                  rotate_left
                                  · simp only [Act.put, List.setIfInBounds_toArray, List.set_cons_zero, List.set_cons_succ, i64_w, i32_w]
                                    rfl
                                  refine done_ (by kernel_rfl) ?_
                                  try go_wp2
                                  go_loopg [4, 5, 6] kj11 (fun kq v4 v5 v6 w' => ∃ (x4_2 : ByteArray) (x5_2 : Int) (x6_2 : Int), v4 = .string x4_2 ∧ v5 = .int .i64 x5_2 ∧ v6 = .int .i64 x6_2 ∧ Aside0 (spec_IOText.l0 kq ((x3_11 ++ ((((t109 ++ (⟨#[58]⟩ : ByteArray)) ++ t110) ++ (⟨#[58]⟩ : ByteArray)) ++ t111)) ++ (⟨#[46]⟩ : ByteArray)) x4_2 x5_2 x6_2 a0_0 a0_1 a0_2 a0_3 a0_4 a0_5 a0_6 true a0_8 a0_9 a0_10 a0_11 = some r) ∧ Aside0 (kq ≤ kj11) ∧ Aside0 (w'.heap[gb104]? = some (.cells #[.int .i64 a0_0, .int .i64 a0_1, .int .i64 a0_2, .int .i64 a0_3, .int .i64 a0_4, .int .i64 a0_5, .bool a0_6, .bool true, .int .i64 a0_8, .int .i64 a0_9, .int .i64 a0_10, .int .i64 a0_11] 50 (0, 0))) ∧ Aside0 (Below w.heap.size w w'))
                                  case atStart => exact ⟨((⟨#[]⟩ : ByteArray)), (0), (a0_9), (by first | rfl | (simp; done) | (simp [*]; done)), (by first | rfl | (simp; done) | (simp [*]; done)), (by first | rfl | (simp; done) | (simp [*]; done)), H', ⟨Nat.le_refl _⟩, ⟨by (with_reducible repeat (first | refine blk_drewN ?_ _ | refine blk_drew ?_ | refine blk_alloc ?_ _)); exact BK104.out⟩, ⟨by repeat (first | (with_reducible first | exact HB.out | apply below_alloc | apply pw_below_drewN | apply below_drew1 | refine below_set ?_ GE104.out) | exact HB.out)⟩⟩
                                  case round =>
                                    clear H'
                                    try clear c1
                                    try clear c2
                                    try clear p2
                                    try clear c3
                                    try clear c4
                                    try clear c4b0
                                    try clear c4b1
                                    try clear c4b2
                                    try clear c5
                                    try clear c5b0
                                    try clear c5b1
                                    try clear c5b2
                                    try clear p6
                                    try clear c7
                                    try clear c7b0
                                    try clear c7b1
                                    try clear c7b2
                                    try clear c8
                                    try clear c8b0
                                    try clear c8b1
                                    try clear c8b2
                                    try clear c10
                                    try clear c10b0
                                    try clear c10b1
                                    try clear c10b2
                                    try clear c11
                                    try clear c20
                                    try clear c21
                                    try clear c21b0
                                    try clear c21b1
                                    try clear c21b2
                                    try clear c22
                                    try clear c22b0
                                    try clear c22b1
                                    try clear c22b2
                                    try clear c24
                                    try clear c24b0
                                    try clear c24b1
                                    try clear c24b2
                                    try clear c26
                                    try clear c26b0
                                    try clear c26b1
                                    try clear c26b2
                                    try clear c27
                                    try clear c27b0
                                    try clear c27b1
                                    try clear c27b2
                                    try clear c29
                                    try clear c29b0
                                    try clear c29b1
                                    try clear c29b2
                                    try clear c30
                                    try clear c30b0
                                    try clear c30b1
                                    try clear c30b2
                                    try clear c37
                                    try clear c37b0
                                    try clear c38
                                    try clear c38b0
                                    try clear c38b1
                                    try clear c38b2
                                    try clear hcz19_0
                                    try clear hcz19_1
                                    try clear hcz19_10
                                    try clear hcz19_11
                                    try clear hcz19_2
                                    try clear hcz19_3
                                    try clear hcz19_4
                                    try clear hcz19_5
                                    try clear hcz19_6
                                    try clear hcz19_7
                                    try clear hcz19_8
                                    try clear hcz19_9
                                    try clear hcz36_0
                                    try clear hcz36_1
                                    try clear hcz36_10
                                    try clear hcz36_11
                                    try clear hcz36_2
                                    try clear hcz36_3
                                    try clear hcz36_4
                                    try clear hcz36_5
                                    try clear hcz36_6
                                    try clear hcz36_7
                                    try clear hcz36_8
                                    try clear hcz36_9
                                    try clear hfz19_0
                                    try clear hfz19_1
                                    try clear hfz19_10
                                    try clear hfz19_11
                                    try clear hfz19_2
                                    try clear hfz19_3
                                    try clear hfz19_4
                                    try clear hfz19_5
                                    try clear hfz19_6
                                    try clear hfz19_7
                                    try clear hfz19_8
                                    try clear hfz19_9
                                    try clear hfz36_0
                                    try clear hfz36_1
                                    try clear hfz36_10
                                    try clear hfz36_11
                                    try clear hfz36_2
                                    try clear hfz36_3
                                    try clear hfz36_4
                                    try clear hfz36_5
                                    try clear hfz36_6
                                    try clear hfz36_7
                                    try clear hfz36_8
                                    try clear hfz36_9
                                    try clear p2
                                    try clear p6
                                    obtain ⟨x4_2, x5_2, x6_2, rfl, rfl, rfl, HA, HK2, BK104, HB⟩ := hrel
                                    cases gk with
                                    | zero => exact absurd HA.out (by simp [spec_IOText.l0])
                                    | succ k2 =>
                                      have H := HA.out
                                      clear HA
                                      simp only [spec_IOText.l0] at H
                                      by_cases c40 : x5_2 < a0_8
                                      · rw [if_pos c40] at H
                                        have c40b0 : decide (x5_2 < a0_8) = true := decide_eq_true c40
                                        clear c40
                                        obtain ⟨y112, hy112⟩ : ∃ y_ : List Int, y_ = (([(wrap64 (48 + (Int.tmod x6_2 10))) % 256] : List Int)) := ⟨_, rfl⟩
                                        replace H : (if (strOfNums y112).size + x4_2.size ≤ 9223372036854775807 then (spec_IOText.l0 k2 ((x3_11 ++ ((((t109 ++ (⟨#[58]⟩ : ByteArray)) ++ t110) ++ (⟨#[58]⟩ : ByteArray)) ++ t111)) ++ (⟨#[46]⟩ : ByteArray)) ((strOfNums y112) ++ x4_2) (wrap64 (x5_2 + 1)) (wrap64 (Int.tdiv x6_2 10)) a0_0 a0_1 a0_2 a0_3 a0_4 a0_5 a0_6 true a0_8 a0_9 a0_10 a0_11) else (none)) = some r := by first | (rw [hy112]; with_reducible exact H) | (have H2_ := (Option.bind_some _ _).symm.trans H; rw [hy112]; with_reducible exact H2_) | (have H2_ := (Option.bind_some _ _).symm.trans H; with_reducible exact H2_) | with_reducible exact H | (rw [hy112]; exact H) | exact H
                                        have Ny112 := Aside0.mk hy112
                                        clear hy112
                                        by_cases c41 : (strOfNums y112).size + x4_2.size ≤ 9223372036854775807
                                        · rw [if_pos c41] at H
                                          have c41z := c41
                                          try simp only [ByteArray.size_append, sz_one] at c41z
                                          have c41y := Nat.not_lt.mpr c41z
                                          have c41b0 := eq_true c41
                                          have c41b1 : decide ((strOfNums y112).size + x4_2.size ≤ 9223372036854775807) = true := decide_eq_true c41
                                          try have c41b2 : (9223372036854775807 < (strOfNums y112).size + x4_2.size) = False := eq_false (Nat.not_lt.2 c41)
                                          have H' := Aside0.mk H
                                          clear H
                                          have hcz42_0 : wr.cell? ⟨gb104, 0, none⟩ = some (.int .i64 a0_0) := (blk_cell BK104.out 0).trans rfl
                                          have hcz42_1 : wr.cell? ⟨gb104, 1, none⟩ = some (.int .i64 a0_1) := (blk_cell BK104.out 1).trans rfl
                                          have hcz42_2 : wr.cell? ⟨gb104, 2, none⟩ = some (.int .i64 a0_2) := (blk_cell BK104.out 2).trans rfl
                                          have hcz42_3 : wr.cell? ⟨gb104, 3, none⟩ = some (.int .i64 a0_3) := (blk_cell BK104.out 3).trans rfl
                                          have hcz42_4 : wr.cell? ⟨gb104, 4, none⟩ = some (.int .i64 a0_4) := (blk_cell BK104.out 4).trans rfl
                                          have hcz42_5 : wr.cell? ⟨gb104, 5, none⟩ = some (.int .i64 a0_5) := (blk_cell BK104.out 5).trans rfl
                                          have hcz42_6 : wr.cell? ⟨gb104, 6, none⟩ = some (.bool a0_6) := (blk_cell BK104.out 6).trans rfl
                                          have hcz42_7 : wr.cell? ⟨gb104, 7, none⟩ = some (.bool true) := (blk_cell BK104.out 7).trans rfl
                                          have hcz42_8 : wr.cell? ⟨gb104, 8, none⟩ = some (.int .i64 a0_8) := (blk_cell BK104.out 8).trans rfl
                                          have hcz42_9 : wr.cell? ⟨gb104, 9, none⟩ = some (.int .i64 a0_9) := (blk_cell BK104.out 9).trans rfl
                                          have hcz42_10 : wr.cell? ⟨gb104, 10, none⟩ = some (.int .i64 a0_10) := (blk_cell BK104.out 10).trans rfl
                                          have hcz42_11 : wr.cell? ⟨gb104, 11, none⟩ = some (.int .i64 a0_11) := (blk_cell BK104.out 11).trans rfl
                                          have hfz42_0 := blk_frozen BK104.out 0
                                          have hfz42_1 := blk_frozen BK104.out 1
                                          have hfz42_2 := blk_frozen BK104.out 2
                                          have hfz42_3 := blk_frozen BK104.out 3
                                          have hfz42_4 := blk_frozen BK104.out 4
                                          have hfz42_5 := blk_frozen BK104.out 5
                                          have hfz42_6 := blk_frozen BK104.out 6
                                          have hfz42_7 := blk_frozen BK104.out 7
                                          have hfz42_8 := blk_frozen BK104.out 8
                                          have hfz42_9 := blk_frozen BK104.out 9
                                          have hfz42_10 := blk_frozen BK104.out 10
                                          have hfz42_11 := blk_frozen BK104.out 11
                                          go_wp2_with (first | ((with_reducible refine gate_dst (N := 71) rfl ?_); refine Kd.R_lit (Kd.int .u8) _ 5 ?hg (N := 71) ?hd (xs := ([(wrap64 (48 + (Int.tmod x6_2 10))) % 256] : List Int)) (inner := [.int .u8 ((wrap64 (48 + (Int.tmod x6_2 10))) % 256)]) (ok := fun _ => True) (okp := fun _ => True) ?hr ?hp (fun _ hk => hk) trivial (Below.refl _ _) (Nat.le_refl _) (by simp) ?_; (case hd => rfl); (case hg => rfl); (case hr => first | (go_simp; done) | (go_simp; rfl)); (case hp => exact (Reps.one (show Kd.M (Kd.int .u8) _ _ _ ((wrap64 (48 + (Int.tmod x6_2 10))) % 256) [.int .u8 ((wrap64 (48 + (Int.tmod x6_2 10))) % 256)] from rfl) (Reps.none _ _))); intro v113 w43 ho44 hb hg_ hnew_; clear hg_ hnew_; (first | rw [← Ny112.out] at ho44 | (simp only [Int.reduceToNat] at ho44; rw [← Ny112.out] at ho44)); have n0_ := Aside0.mk (Kd.R_lower ho44 (below_size (by repeat (first | (with_reducible first | exact HB.out | apply below_alloc | apply pw_below_drewN | apply below_drew1 | refine below_set ?_ GE104.out) | exact HB.out)))); have n1_ := Aside0.mk (blk_below (g := gb104) (o := .cells #[.int .i64 a0_0, .int .i64 a0_1, .int .i64 a0_2, .int .i64 a0_3, .int .i64 a0_4, .int .i64 a0_5, .bool a0_6, .bool true, .int .i64 a0_8, .int .i64 a0_9, .int .i64 a0_10, .int .i64 a0_11] 50 (0, 0)) (by (with_reducible repeat (first | refine blk_drewN ?_ _ | refine blk_drew ?_ | refine blk_alloc ?_ _)); exact BK104.out) hb); have n2_ := Aside0.mk (below_step (by repeat (first | (with_reducible first | exact HB.out | apply below_alloc | apply pw_below_drewN | apply below_drew1 | refine below_set ?_ GE104.out) | exact HB.out)) hb); clear BK104; clear HB; have HO114 := n0_; have BK104 := n1_; have HB := n2_; clear n0_ n1_ n2_; clear hb ho44; have hcv45 := own_string (P := Try.prog) Try.underlying31 Try.underlying5 Try.underlying9 (Kd.own_of_R HO114.out)))
                                          go_roundg k2
                                          case measure => have := HJ11.out; have := HK2.out; omega
                                          case rel => exact ⟨((strOfNums y112) ++ x4_2), (wrap64 (x5_2 + 1)), (wrap64 (Int.tdiv x6_2 10)), (by first | rfl | (simp; done) | (simp [*]; done)), (by first | rfl | (simp; done) | (simp [*]; done)), (by first | rfl | (simp; done) | (simp [*]; done)), H', ⟨by have := HJ11.out; have := HK2.out; omega⟩, ⟨by (with_reducible repeat (first | refine blk_drewN ?_ _ | refine blk_drew ?_ | refine blk_alloc ?_ _)); exact BK104.out⟩, ⟨by repeat (first | (with_reducible first | exact HB.out | apply below_alloc | apply pw_below_drewN | apply below_drew1 | refine below_set ?_ GE104.out) | exact HB.out)⟩⟩
                                        · rw [if_neg c41] at H
                                          exact absurd H (by simp)
                                      · rw [if_neg c40] at H
                                        have c40b0 : decide (x5_2 < a0_8) = false := decide_eq_false c40
                                        clear c40
                                        by_cases c46 : ((x3_11 ++ ((((t109 ++ (⟨#[58]⟩ : ByteArray)) ++ t110) ++ (⟨#[58]⟩ : ByteArray)) ++ t111)) ++ (⟨#[46]⟩ : ByteArray)).size + x4_2.size ≤ 9223372036854775807
                                        · rw [if_pos c46] at H
                                          have c46z := c46
                                          try simp only [ByteArray.size_append, sz_one] at c46z
                                          have c46y := Nat.not_lt.mpr c46z
                                          have c46b0 := eq_true c46
                                          have c46b1 : decide (((x3_11 ++ ((((t109 ++ (⟨#[58]⟩ : ByteArray)) ++ t110) ++ (⟨#[58]⟩ : ByteArray)) ++ t111)) ++ (⟨#[46]⟩ : ByteArray)).size + x4_2.size ≤ 9223372036854775807) = true := decide_eq_true c46
                                          try have c46b2 : (9223372036854775807 < ((x3_11 ++ ((((t109 ++ (⟨#[58]⟩ : ByteArray)) ++ t110) ++ (⟨#[58]⟩ : ByteArray)) ++ t111)) ++ (⟨#[46]⟩ : ByteArray)).size + x4_2.size) = False := eq_false (Nat.not_lt.2 c46)
                                          have H' := Aside0.mk H
                                          clear H
                                          have hcz47_0 : wr.cell? ⟨gb104, 0, none⟩ = some (.int .i64 a0_0) := (blk_cell BK104.out 0).trans rfl
                                          have hcz47_1 : wr.cell? ⟨gb104, 1, none⟩ = some (.int .i64 a0_1) := (blk_cell BK104.out 1).trans rfl
                                          have hcz47_2 : wr.cell? ⟨gb104, 2, none⟩ = some (.int .i64 a0_2) := (blk_cell BK104.out 2).trans rfl
                                          have hcz47_3 : wr.cell? ⟨gb104, 3, none⟩ = some (.int .i64 a0_3) := (blk_cell BK104.out 3).trans rfl
                                          have hcz47_4 : wr.cell? ⟨gb104, 4, none⟩ = some (.int .i64 a0_4) := (blk_cell BK104.out 4).trans rfl
                                          have hcz47_5 : wr.cell? ⟨gb104, 5, none⟩ = some (.int .i64 a0_5) := (blk_cell BK104.out 5).trans rfl
                                          have hcz47_6 : wr.cell? ⟨gb104, 6, none⟩ = some (.bool a0_6) := (blk_cell BK104.out 6).trans rfl
                                          have hcz47_7 : wr.cell? ⟨gb104, 7, none⟩ = some (.bool true) := (blk_cell BK104.out 7).trans rfl
                                          have hcz47_8 : wr.cell? ⟨gb104, 8, none⟩ = some (.int .i64 a0_8) := (blk_cell BK104.out 8).trans rfl
                                          have hcz47_9 : wr.cell? ⟨gb104, 9, none⟩ = some (.int .i64 a0_9) := (blk_cell BK104.out 9).trans rfl
                                          have hcz47_10 : wr.cell? ⟨gb104, 10, none⟩ = some (.int .i64 a0_10) := (blk_cell BK104.out 10).trans rfl
                                          have hcz47_11 : wr.cell? ⟨gb104, 11, none⟩ = some (.int .i64 a0_11) := (blk_cell BK104.out 11).trans rfl
                                          have hfz47_0 := blk_frozen BK104.out 0
                                          have hfz47_1 := blk_frozen BK104.out 1
                                          have hfz47_2 := blk_frozen BK104.out 2
                                          have hfz47_3 := blk_frozen BK104.out 3
                                          have hfz47_4 := blk_frozen BK104.out 4
                                          have hfz47_5 := blk_frozen BK104.out 5
                                          have hfz47_6 := blk_frozen BK104.out 6
                                          have hfz47_7 := blk_frozen BK104.out 7
                                          have hfz47_8 := blk_frozen BK104.out 8
                                          have hfz47_9 := blk_frozen BK104.out 9
                                          have hfz47_10 := blk_frozen BK104.out 10
                                          have hfz47_11 := blk_frozen BK104.out 11
                                          go_wp2
                                          go_meet
                                          case rel => exact ⟨_, (((x3_11 ++ ((((t109 ++ (⟨#[58]⟩ : ByteArray)) ++ t110) ++ (⟨#[58]⟩ : ByteArray)) ++ t111)) ++ (⟨#[46]⟩ : ByteArray)) ++ x4_2), (by first | rfl | (simp; done) | (simp [*]; done)), H', ⟨by have := HJ11.out; have := HK2.out; first | omega | exact Nat.le_refl _⟩, ⟨by (with_reducible repeat (first | refine blk_drewN ?_ _ | refine blk_drew ?_ | refine blk_alloc ?_ _)); exact BK104.out⟩, ⟨by repeat (first | (with_reducible first | exact HB.out | apply below_alloc | apply pw_below_drewN | apply below_drew1 | refine below_set ?_ GE104.out) | exact HB.out)⟩⟩
                                        · rw [if_neg c46] at H
                                          exact absurd H (by simp)
                                · rw [if_neg c38] at H
                                  exact absurd H (by simp)
                              · rw [if_neg c37] at H
                                have c37b0 : decide (0 < a0_8) = false := decide_eq_false c37
                                clear c37
                                (first | rw [c37b0] | (simp only [i64_w, i32_w]; rw [c37b0]) | skip)
                                have H' := Aside0.mk H
                                clear H
                                go_wp2
                                go_meet
                                case rel => exact ⟨_, (x3_11 ++ ((((t109 ++ (⟨#[58]⟩ : ByteArray)) ++ t110) ++ (⟨#[58]⟩ : ByteArray)) ++ t111)), (by first | rfl | (simp; done) | (simp [*]; done)), H', ⟨by have := HJ11.out; first | omega | exact Nat.le_refl _⟩, ⟨by (with_reducible repeat (first | refine blk_drewN ?_ _ | refine blk_drew ?_ | refine blk_alloc ?_ _)); exact BK104.out⟩, ⟨by repeat (first | (with_reducible first | exact HB.out | apply below_alloc | apply pw_below_drewN | apply below_drew1 | refine below_set ?_ GE104.out) | exact HB.out)⟩⟩
                            case rest =>
                              clear HC31
                              try clear c1
                              try clear c2
                              try clear p2
                              try clear c3
                              try clear c4
                              try clear c4b0
                              try clear c4b1
                              try clear c4b2
                              try clear hcv4
                              try clear c5
                              try clear c5b0
                              try clear c5b1
                              try clear c5b2
                              try clear p6
                              try clear c7
                              try clear c7b0
                              try clear c7b1
                              try clear c7b2
                              try clear c8
                              try clear c8b0
                              try clear c8b1
                              try clear c8b2
                              try clear c10
                              try clear c10b0
                              try clear c10b1
                              try clear c10b2
                              try clear c11
                              try clear c20
                              try clear c21
                              try clear c21b0
                              try clear c21b1
                              try clear c21b2
                              try clear c22
                              try clear c22b0
                              try clear c22b1
                              try clear c22b2
                              try clear c24
                              try clear c24b0
                              try clear c24b1
                              try clear c24b2
                              try clear c26
                              try clear c26b0
                              try clear c26b1
                              try clear c26b2
                              try clear c27
                              try clear c27b0
                              try clear c27b1
                              try clear c27b2
                              try clear c29
                              try clear c29b0
                              try clear c29b1
                              try clear c29b2
                              try clear c30
                              try clear c30b0
                              try clear c30b1
                              try clear c30b2
                              try clear c37
                              try clear c37b0
                              try clear c38
                              try clear c38b0
                              try clear c38b1
                              try clear c38b2
                              try clear c40
                              try clear c40b0
                              try clear c41
                              try clear c41b0
                              try clear c41b1
                              try clear c41b2
                              try clear hcv45
                              try clear c46
                              try clear c46b0
                              try clear c46b1
                              try clear c46b2
                              try clear hcz19_0
                              try clear hcz19_1
                              try clear hcz19_10
                              try clear hcz19_11
                              try clear hcz19_2
                              try clear hcz19_3
                              try clear hcz19_4
                              try clear hcz19_5
                              try clear hcz19_6
                              try clear hcz19_7
                              try clear hcz19_8
                              try clear hcz19_9
                              try clear hcz36_0
                              try clear hcz36_1
                              try clear hcz36_10
                              try clear hcz36_11
                              try clear hcz36_2
                              try clear hcz36_3
                              try clear hcz36_4
                              try clear hcz36_5
                              try clear hcz36_6
                              try clear hcz36_7
                              try clear hcz36_8
                              try clear hcz36_9
                              try clear hcz42_0
                              try clear hcz42_1
                              try clear hcz42_10
                              try clear hcz42_11
                              try clear hcz42_2
                              try clear hcz42_3
                              try clear hcz42_4
                              try clear hcz42_5
                              try clear hcz42_6
                              try clear hcz42_7
                              try clear hcz42_8
                              try clear hcz42_9
                              try clear hcz47_0
                              try clear hcz47_1
                              try clear hcz47_10
                              try clear hcz47_11
                              try clear hcz47_2
                              try clear hcz47_3
                              try clear hcz47_4
                              try clear hcz47_5
                              try clear hcz47_6
                              try clear hcz47_7
                              try clear hcz47_8
                              try clear hcz47_9
                              try clear hfz19_0
                              try clear hfz19_1
                              try clear hfz19_10
                              try clear hfz19_11
                              try clear hfz19_2
                              try clear hfz19_3
                              try clear hfz19_4
                              try clear hfz19_5
                              try clear hfz19_6
                              try clear hfz19_7
                              try clear hfz19_8
                              try clear hfz19_9
                              try clear hfz36_0
                              try clear hfz36_1
                              try clear hfz36_10
                              try clear hfz36_11
                              try clear hfz36_2
                              try clear hfz36_3
                              try clear hfz36_4
                              try clear hfz36_5
                              try clear hfz36_6
                              try clear hfz36_7
                              try clear hfz36_8
                              try clear hfz36_9
                              try clear hfz42_0
                              try clear hfz42_1
                              try clear hfz42_10
                              try clear hfz42_11
                              try clear hfz42_2
                              try clear hfz42_3
                              try clear hfz42_4
                              try clear hfz42_5
                              try clear hfz42_6
                              try clear hfz42_7
                              try clear hfz42_8
                              try clear hfz42_9
                              try clear hfz47_0
                              try clear hfz47_1
                              try clear hfz47_10
                              try clear hfz47_11
                              try clear hfz47_2
                              try clear hfz47_3
                              try clear hfz47_4
                              try clear hfz47_5
                              try clear hfz47_6
                              try clear hfz47_7
                              try clear hfz47_8
                              try clear hfz47_9
                              try clear p2
                              try clear p6
                              obtain ⟨kq, x3_30, rfl, HA, HJ30, BK104, HB⟩ := hcut
                              cases kq with
                              | zero => exact absurd HA.out (by simp [spec_IOText.j2])
                              | succ kj30 =>
                                have H := HA.out
                                clear HA
                                simp only [spec_IOText.j2] at H
                                by_cases c48 : a0_10 = 1
                                · rw [if_pos c48] at H
                                  have c48b0 : (a0_10 == 1) = true := beq_iff_eq.mpr c48
                                  have c48b1 : (a0_10 != 1) = false := bne_eq_false_iff_eq.mpr c48
                                  clear c48
                                  by_cases c49 : x3_30.size + 1 ≤ 9223372036854775807
                                  · rw [if_pos c49] at H
                                    have c49z := c49
                                    try simp only [ByteArray.size_append, sz_one] at c49z
                                    have c49y := Nat.not_lt.mpr c49z
                                    have c49b0 := eq_true c49
                                    have c49b1 : decide (x3_30.size + 1 ≤ 9223372036854775807) = true := decide_eq_true c49
                                    try have c49b2 : (9223372036854775807 < x3_30.size + 1) = False := eq_false (Nat.not_lt.2 c49)
                                    obtain rfl := Option.some.inj H
                                    have hcz50_0 : wc.cell? ⟨gb104, 0, none⟩ = some (.int .i64 a0_0) := (blk_cell BK104.out 0).trans rfl
                                    have hcz50_1 : wc.cell? ⟨gb104, 1, none⟩ = some (.int .i64 a0_1) := (blk_cell BK104.out 1).trans rfl
                                    have hcz50_2 : wc.cell? ⟨gb104, 2, none⟩ = some (.int .i64 a0_2) := (blk_cell BK104.out 2).trans rfl
                                    have hcz50_3 : wc.cell? ⟨gb104, 3, none⟩ = some (.int .i64 a0_3) := (blk_cell BK104.out 3).trans rfl
                                    have hcz50_4 : wc.cell? ⟨gb104, 4, none⟩ = some (.int .i64 a0_4) := (blk_cell BK104.out 4).trans rfl
                                    have hcz50_5 : wc.cell? ⟨gb104, 5, none⟩ = some (.int .i64 a0_5) := (blk_cell BK104.out 5).trans rfl
                                    have hcz50_6 : wc.cell? ⟨gb104, 6, none⟩ = some (.bool a0_6) := (blk_cell BK104.out 6).trans rfl
                                    have hcz50_7 : wc.cell? ⟨gb104, 7, none⟩ = some (.bool true) := (blk_cell BK104.out 7).trans rfl
                                    have hcz50_8 : wc.cell? ⟨gb104, 8, none⟩ = some (.int .i64 a0_8) := (blk_cell BK104.out 8).trans rfl
                                    have hcz50_9 : wc.cell? ⟨gb104, 9, none⟩ = some (.int .i64 a0_9) := (blk_cell BK104.out 9).trans rfl
                                    have hcz50_10 : wc.cell? ⟨gb104, 10, none⟩ = some (.int .i64 a0_10) := (blk_cell BK104.out 10).trans rfl
                                    have hcz50_11 : wc.cell? ⟨gb104, 11, none⟩ = some (.int .i64 a0_11) := (blk_cell BK104.out 11).trans rfl
                                    have hfz50_0 := blk_frozen BK104.out 0
                                    have hfz50_1 := blk_frozen BK104.out 1
                                    have hfz50_2 := blk_frozen BK104.out 2
                                    have hfz50_3 := blk_frozen BK104.out 3
                                    have hfz50_4 := blk_frozen BK104.out 4
                                    have hfz50_5 := blk_frozen BK104.out 5
                                    have hfz50_6 := blk_frozen BK104.out 6
                                    have hfz50_7 := blk_frozen BK104.out 7
                                    have hfz50_8 := blk_frozen BK104.out 8
                                    have hfz50_9 := blk_frozen BK104.out 9
                                    have hfz50_10 := blk_frozen BK104.out 10
                                    have hfz50_11 := blk_frozen BK104.out 11
                                    go_wp2
                                    go_ret
                                    exact ⟨by first | rfl | (simp [errW_none, errW_some] <;> rfl) | (simp [*, errW_none, errW_some] <;> rfl), by repeat (first | (with_reducible first | exact HB.out | apply below_alloc | apply pw_below_drewN | apply below_drew1 | refine below_set ?_ GE104.out) | exact HB.out)⟩
                                  · rw [if_neg c49] at H
                                    exact absurd H (by simp)
                                · rw [if_neg c48] at H
                                  have c48b0 : (a0_10 == 1) = false := beq_eq_false_iff_ne.mpr c48
                                  have c48b1 : (a0_10 != 1) = true := bne_iff_ne.mpr c48
                                  have HC51 := Aside0.mk H
                                  clear H
                                  have hcz52_0 : wc.cell? ⟨gb104, 0, none⟩ = some (.int .i64 a0_0) := (blk_cell BK104.out 0).trans rfl
                                  have hcz52_1 : wc.cell? ⟨gb104, 1, none⟩ = some (.int .i64 a0_1) := (blk_cell BK104.out 1).trans rfl
                                  have hcz52_2 : wc.cell? ⟨gb104, 2, none⟩ = some (.int .i64 a0_2) := (blk_cell BK104.out 2).trans rfl
                                  have hcz52_3 : wc.cell? ⟨gb104, 3, none⟩ = some (.int .i64 a0_3) := (blk_cell BK104.out 3).trans rfl
                                  have hcz52_4 : wc.cell? ⟨gb104, 4, none⟩ = some (.int .i64 a0_4) := (blk_cell BK104.out 4).trans rfl
                                  have hcz52_5 : wc.cell? ⟨gb104, 5, none⟩ = some (.int .i64 a0_5) := (blk_cell BK104.out 5).trans rfl
                                  have hcz52_6 : wc.cell? ⟨gb104, 6, none⟩ = some (.bool a0_6) := (blk_cell BK104.out 6).trans rfl
                                  have hcz52_7 : wc.cell? ⟨gb104, 7, none⟩ = some (.bool true) := (blk_cell BK104.out 7).trans rfl
                                  have hcz52_8 : wc.cell? ⟨gb104, 8, none⟩ = some (.int .i64 a0_8) := (blk_cell BK104.out 8).trans rfl
                                  have hcz52_9 : wc.cell? ⟨gb104, 9, none⟩ = some (.int .i64 a0_9) := (blk_cell BK104.out 9).trans rfl
                                  have hcz52_10 : wc.cell? ⟨gb104, 10, none⟩ = some (.int .i64 a0_10) := (blk_cell BK104.out 10).trans rfl
                                  have hcz52_11 : wc.cell? ⟨gb104, 11, none⟩ = some (.int .i64 a0_11) := (blk_cell BK104.out 11).trans rfl
                                  have hfz52_0 := blk_frozen BK104.out 0
                                  have hfz52_1 := blk_frozen BK104.out 1
                                  have hfz52_2 := blk_frozen BK104.out 2
                                  have hfz52_3 := blk_frozen BK104.out 3
                                  have hfz52_4 := blk_frozen BK104.out 4
                                  have hfz52_5 := blk_frozen BK104.out 5
                                  have hfz52_6 := blk_frozen BK104.out 6
                                  have hfz52_7 := blk_frozen BK104.out 7
                                  have hfz52_8 := blk_frozen BK104.out 8
                                  have hfz52_9 := blk_frozen BK104.out 9
                                  have hfz52_10 := blk_frozen BK104.out 10
                                  have hfz52_11 := blk_frozen BK104.out 11
                                  go_upto_if 84 with (fail)
                                  go_cut [84] (fun v84 wc => ∃ (kq : Nat) (x84_50 : Bool), v84 = .bool x84_50 ∧ Aside0 (spec_IOText.j3 kq x3_30 x84_50 a0_0 a0_1 a0_2 a0_3 a0_4 a0_5 a0_6 true a0_8 a0_9 a0_10 a0_11 = some r) ∧ Aside0 (kq ≤ kj30) ∧ Aside0 (wc.heap[gb104]? = some (.cells #[.int .i64 a0_0, .int .i64 a0_1, .int .i64 a0_2, .int .i64 a0_3, .int .i64 a0_4, .int .i64 a0_5, .bool a0_6, .bool true, .int .i64 a0_8, .int .i64 a0_9, .int .i64 a0_10, .int .i64 a0_11] 50 (0, 0))) ∧ Aside0 (Below w.heap.size w wc))
                                  case first =>
                                    have H := HC51.out
                                    clear HC51
                                    by_cases c53 : a0_10 = 2
                                    · rw [if_pos c53] at H
                                      have c53b0 : (a0_10 == 2) = true := beq_iff_eq.mpr c53
                                      have c53b1 : (a0_10 != 2) = false := bne_eq_false_iff_eq.mpr c53
                                      clear c53
                                      (first | rw [c53b0] | (simp only [i64_w, i32_w]; rw [c53b0]) | skip)
                                      have H' := Aside0.mk H
                                      clear H
                                      go_wp2
                                      go_meet
                                      case rel => exact ⟨_, ((a0_10 == 2)), (by first | rfl | (simp; done) | (simp [*]; done)), H', ⟨by have := HJ11.out; have := HJ30.out; first | omega | exact Nat.le_refl _⟩, ⟨by (with_reducible repeat (first | refine blk_drewN ?_ _ | refine blk_drew ?_ | refine blk_alloc ?_ _)); exact BK104.out⟩, ⟨by repeat (first | (with_reducible first | exact HB.out | apply below_alloc | apply pw_below_drewN | apply below_drew1 | refine below_set ?_ GE104.out) | exact HB.out)⟩⟩
                                    · rw [if_neg c53] at H
                                      have c53b0 : (a0_10 == 2) = false := beq_eq_false_iff_ne.mpr c53
                                      have c53b1 : (a0_10 != 2) = true := bne_iff_ne.mpr c53
                                      (first | rw [c53b0] | (simp only [i64_w, i32_w]; rw [c53b0]) | skip)
                                      have H' := Aside0.mk H
                                      clear H
                                      go_wp2
                                      go_meet
                                      case rel => exact ⟨_, ((a0_10 == 3)), (by first | rfl | (simp; done) | (simp [*]; done)), H', ⟨by have := HJ11.out; have := HJ30.out; first | omega | exact Nat.le_refl _⟩, ⟨by (with_reducible repeat (first | refine blk_drewN ?_ _ | refine blk_drew ?_ | refine blk_alloc ?_ _)); exact BK104.out⟩, ⟨by repeat (first | (with_reducible first | exact HB.out | apply below_alloc | apply pw_below_drewN | apply below_drew1 | refine below_set ?_ GE104.out) | exact HB.out)⟩⟩
                                  case rest =>
                                    clear HC51
                                    try clear c1
                                    try clear c2
                                    try clear p2
                                    try clear c3
                                    try clear c4
                                    try clear c4b0
                                    try clear c4b1
                                    try clear c4b2
                                    try clear hcv4
                                    try clear c5
                                    try clear c5b0
                                    try clear c5b1
                                    try clear c5b2
                                    try clear p6
                                    try clear c7
                                    try clear c7b0
                                    try clear c7b1
                                    try clear c7b2
                                    try clear c8
                                    try clear c8b0
                                    try clear c8b1
                                    try clear c8b2
                                    try clear c10
                                    try clear c10b0
                                    try clear c10b1
                                    try clear c10b2
                                    try clear c11
                                    try clear c20
                                    try clear c21
                                    try clear c21b0
                                    try clear c21b1
                                    try clear c21b2
                                    try clear c22
                                    try clear c22b0
                                    try clear c22b1
                                    try clear c22b2
                                    try clear c24
                                    try clear c24b0
                                    try clear c24b1
                                    try clear c24b2
                                    try clear c26
                                    try clear c26b0
                                    try clear c26b1
                                    try clear c26b2
                                    try clear c27
                                    try clear c27b0
                                    try clear c27b1
                                    try clear c27b2
                                    try clear c29
                                    try clear c29b0
                                    try clear c29b1
                                    try clear c29b2
                                    try clear c30
                                    try clear c30b0
                                    try clear c30b1
                                    try clear c30b2
                                    try clear c37
                                    try clear c37b0
                                    try clear c38
                                    try clear c38b0
                                    try clear c38b1
                                    try clear c38b2
                                    try clear c40
                                    try clear c40b0
                                    try clear c41
                                    try clear c41b0
                                    try clear c41b1
                                    try clear c41b2
                                    try clear hcv45
                                    try clear c46
                                    try clear c46b0
                                    try clear c46b1
                                    try clear c46b2
                                    try clear c48
                                    try clear c48b0
                                    try clear c48b1
                                    try clear c49
                                    try clear c49b0
                                    try clear c49b1
                                    try clear c49b2
                                    try clear c53
                                    try clear c53b0
                                    try clear c53b1
                                    try clear hcz19_0
                                    try clear hcz19_1
                                    try clear hcz19_10
                                    try clear hcz19_11
                                    try clear hcz19_2
                                    try clear hcz19_3
                                    try clear hcz19_4
                                    try clear hcz19_5
                                    try clear hcz19_6
                                    try clear hcz19_7
                                    try clear hcz19_8
                                    try clear hcz19_9
                                    try clear hcz36_0
                                    try clear hcz36_1
                                    try clear hcz36_10
                                    try clear hcz36_11
                                    try clear hcz36_2
                                    try clear hcz36_3
                                    try clear hcz36_4
                                    try clear hcz36_5
                                    try clear hcz36_6
                                    try clear hcz36_7
                                    try clear hcz36_8
                                    try clear hcz36_9
                                    try clear hcz42_0
                                    try clear hcz42_1
                                    try clear hcz42_10
                                    try clear hcz42_11
                                    try clear hcz42_2
                                    try clear hcz42_3
                                    try clear hcz42_4
                                    try clear hcz42_5
                                    try clear hcz42_6
                                    try clear hcz42_7
                                    try clear hcz42_8
                                    try clear hcz42_9
                                    try clear hcz47_0
                                    try clear hcz47_1
                                    try clear hcz47_10
                                    try clear hcz47_11
                                    try clear hcz47_2
                                    try clear hcz47_3
                                    try clear hcz47_4
                                    try clear hcz47_5
                                    try clear hcz47_6
                                    try clear hcz47_7
                                    try clear hcz47_8
                                    try clear hcz47_9
                                    try clear hcz50_0
                                    try clear hcz50_1
                                    try clear hcz50_10
                                    try clear hcz50_11
                                    try clear hcz50_2
                                    try clear hcz50_3
                                    try clear hcz50_4
                                    try clear hcz50_5
                                    try clear hcz50_6
                                    try clear hcz50_7
                                    try clear hcz50_8
                                    try clear hcz50_9
                                    try clear hcz52_0
                                    try clear hcz52_1
                                    try clear hcz52_10
                                    try clear hcz52_11
                                    try clear hcz52_2
                                    try clear hcz52_3
                                    try clear hcz52_4
                                    try clear hcz52_5
                                    try clear hcz52_6
                                    try clear hcz52_7
                                    try clear hcz52_8
                                    try clear hcz52_9
                                    try clear hfz19_0
                                    try clear hfz19_1
                                    try clear hfz19_10
                                    try clear hfz19_11
                                    try clear hfz19_2
                                    try clear hfz19_3
                                    try clear hfz19_4
                                    try clear hfz19_5
                                    try clear hfz19_6
                                    try clear hfz19_7
                                    try clear hfz19_8
                                    try clear hfz19_9
                                    try clear hfz36_0
                                    try clear hfz36_1
                                    try clear hfz36_10
                                    try clear hfz36_11
                                    try clear hfz36_2
                                    try clear hfz36_3
                                    try clear hfz36_4
                                    try clear hfz36_5
                                    try clear hfz36_6
                                    try clear hfz36_7
                                    try clear hfz36_8
                                    try clear hfz36_9
                                    try clear hfz42_0
                                    try clear hfz42_1
                                    try clear hfz42_10
                                    try clear hfz42_11
                                    try clear hfz42_2
                                    try clear hfz42_3
                                    try clear hfz42_4
                                    try clear hfz42_5
                                    try clear hfz42_6
                                    try clear hfz42_7
                                    try clear hfz42_8
                                    try clear hfz42_9
                                    try clear hfz47_0
                                    try clear hfz47_1
                                    try clear hfz47_10
                                    try clear hfz47_11
                                    try clear hfz47_2
                                    try clear hfz47_3
                                    try clear hfz47_4
                                    try clear hfz47_5
                                    try clear hfz47_6
                                    try clear hfz47_7
                                    try clear hfz47_8
                                    try clear hfz47_9
                                    try clear hfz50_0
                                    try clear hfz50_1
                                    try clear hfz50_10
                                    try clear hfz50_11
                                    try clear hfz50_2
                                    try clear hfz50_3
                                    try clear hfz50_4
                                    try clear hfz50_5
                                    try clear hfz50_6
                                    try clear hfz50_7
                                    try clear hfz50_8
                                    try clear hfz50_9
                                    try clear hfz52_0
                                    try clear hfz52_1
                                    try clear hfz52_10
                                    try clear hfz52_11
                                    try clear hfz52_2
                                    try clear hfz52_3
                                    try clear hfz52_4
                                    try clear hfz52_5
                                    try clear hfz52_6
                                    try clear hfz52_7
                                    try clear hfz52_8
                                    try clear hfz52_9
                                    try clear p2
                                    try clear p6
                                    obtain ⟨kq, x84_50, rfl, HA, HJ50, BK104, HB⟩ := hcut
                                    cases kq with
                                    | zero => exact absurd HA.out (by simp [spec_IOText.j3])
                                    | succ kj50 =>
                                      have H := HA.out
                                      clear HA
                                      simp only [spec_IOText.j3] at H
                                      by_cases c54 : x84_50 = true
                                      · subst c54
                                        have H1 : (if a0_11 < 0 then (spec_IOText.j4 kj50 x3_30 (wrap64 (-a0_11)) (⟨#[45]⟩ : ByteArray) a0_0 a0_1 a0_2 a0_3 a0_4 a0_5 a0_6 true a0_8 a0_9 a0_10 a0_11) else (spec_IOText.j4 kj50 x3_30 a0_11 (⟨#[43]⟩ : ByteArray) a0_0 a0_1 a0_2 a0_3 a0_4 a0_5 a0_6 true a0_8 a0_9 a0_10 a0_11)) = some r := by rw [if_pos rfl] at H; exact H
                                        clear H
                                        have H := H1
                                        clear H1
                                        have HC55 := Aside0.mk H
                                        clear H
                                        have hcz56_0 : wc.cell? ⟨gb104, 0, none⟩ = some (.int .i64 a0_0) := (blk_cell BK104.out 0).trans rfl
                                        have hcz56_1 : wc.cell? ⟨gb104, 1, none⟩ = some (.int .i64 a0_1) := (blk_cell BK104.out 1).trans rfl
                                        have hcz56_2 : wc.cell? ⟨gb104, 2, none⟩ = some (.int .i64 a0_2) := (blk_cell BK104.out 2).trans rfl
                                        have hcz56_3 : wc.cell? ⟨gb104, 3, none⟩ = some (.int .i64 a0_3) := (blk_cell BK104.out 3).trans rfl
                                        have hcz56_4 : wc.cell? ⟨gb104, 4, none⟩ = some (.int .i64 a0_4) := (blk_cell BK104.out 4).trans rfl
                                        have hcz56_5 : wc.cell? ⟨gb104, 5, none⟩ = some (.int .i64 a0_5) := (blk_cell BK104.out 5).trans rfl
                                        have hcz56_6 : wc.cell? ⟨gb104, 6, none⟩ = some (.bool a0_6) := (blk_cell BK104.out 6).trans rfl
                                        have hcz56_7 : wc.cell? ⟨gb104, 7, none⟩ = some (.bool true) := (blk_cell BK104.out 7).trans rfl
                                        have hcz56_8 : wc.cell? ⟨gb104, 8, none⟩ = some (.int .i64 a0_8) := (blk_cell BK104.out 8).trans rfl
                                        have hcz56_9 : wc.cell? ⟨gb104, 9, none⟩ = some (.int .i64 a0_9) := (blk_cell BK104.out 9).trans rfl
                                        have hcz56_10 : wc.cell? ⟨gb104, 10, none⟩ = some (.int .i64 a0_10) := (blk_cell BK104.out 10).trans rfl
                                        have hcz56_11 : wc.cell? ⟨gb104, 11, none⟩ = some (.int .i64 a0_11) := (blk_cell BK104.out 11).trans rfl
                                        have hfz56_0 := blk_frozen BK104.out 0
                                        have hfz56_1 := blk_frozen BK104.out 1
                                        have hfz56_2 := blk_frozen BK104.out 2
                                        have hfz56_3 := blk_frozen BK104.out 3
                                        have hfz56_4 := blk_frozen BK104.out 4
                                        have hfz56_5 := blk_frozen BK104.out 5
                                        have hfz56_6 := blk_frozen BK104.out 6
                                        have hfz56_7 := blk_frozen BK104.out 7
                                        have hfz56_8 := blk_frozen BK104.out 8
                                        have hfz56_9 := blk_frozen BK104.out 9
                                        have hfz56_10 := blk_frozen BK104.out 10
                                        have hfz56_11 := blk_frozen BK104.out 11
                                        go_upto_if 90 with (fail)
                                        go_cut [7, 8] (fun v7 v8 wc => ∃ (kq : Nat) (x7_54 : Int) (x8_54 : ByteArray), v7 = .int .i64 x7_54 ∧ v8 = .string x8_54 ∧ Aside0 (spec_IOText.j4 kq x3_30 x7_54 x8_54 a0_0 a0_1 a0_2 a0_3 a0_4 a0_5 a0_6 true a0_8 a0_9 a0_10 a0_11 = some r) ∧ Aside0 (kq ≤ kj50) ∧ Aside0 (wc.heap[gb104]? = some (.cells #[.int .i64 a0_0, .int .i64 a0_1, .int .i64 a0_2, .int .i64 a0_3, .int .i64 a0_4, .int .i64 a0_5, .bool a0_6, .bool true, .int .i64 a0_8, .int .i64 a0_9, .int .i64 a0_10, .int .i64 a0_11] 50 (0, 0))) ∧ Aside0 (Below w.heap.size w wc))
                                        case first =>
                                          have H := HC55.out
                                          clear HC55
                                          by_cases c57 : a0_11 < 0
                                          · rw [if_pos c57] at H
                                            have c57b0 : decide (a0_11 < 0) = true := decide_eq_true c57
                                            clear c57
                                            (first | rw [c57b0] | (simp only [i64_w, i32_w]; rw [c57b0]) | skip)
                                            have H' := Aside0.mk H
                                            clear H
                                            go_wp2
                                            go_meet
                                            case rel => exact ⟨_, (wrap64 (-a0_11)), ((⟨#[45]⟩ : ByteArray)), (by first | rfl | (simp; done) | (simp [*]; done)), (by first | rfl | (simp; done) | (simp [*]; done)), H', ⟨by have := HJ11.out; have := HJ30.out; have := HJ50.out; first | omega | exact Nat.le_refl _⟩, ⟨by (with_reducible repeat (first | refine blk_drewN ?_ _ | refine blk_drew ?_ | refine blk_alloc ?_ _)); exact BK104.out⟩, ⟨by repeat (first | (with_reducible first | exact HB.out | apply below_alloc | apply pw_below_drewN | apply below_drew1 | refine below_set ?_ GE104.out) | exact HB.out)⟩⟩
                                          · rw [if_neg c57] at H
                                            have c57b0 : decide (a0_11 < 0) = false := decide_eq_false c57
                                            clear c57
                                            (first | rw [c57b0] | (simp only [i64_w, i32_w]; rw [c57b0]) | skip)
                                            have H' := Aside0.mk H
                                            clear H
                                            go_wp2
                                            go_meet
                                            case rel => exact ⟨_, (a0_11), ((⟨#[43]⟩ : ByteArray)), (by first | rfl | (simp; done) | (simp [*]; done)), (by first | rfl | (simp; done) | (simp [*]; done)), H', ⟨by have := HJ11.out; have := HJ30.out; have := HJ50.out; first | omega | exact Nat.le_refl _⟩, ⟨by (with_reducible repeat (first | refine blk_drewN ?_ _ | refine blk_drew ?_ | refine blk_alloc ?_ _)); exact BK104.out⟩, ⟨by repeat (first | (with_reducible first | exact HB.out | apply below_alloc | apply pw_below_drewN | apply below_drew1 | refine below_set ?_ GE104.out) | exact HB.out)⟩⟩
                                        case rest =>
                                          clear HC55
                                          try clear c1
                                          try clear c2
                                          try clear p2
                                          try clear c3
                                          try clear c4
                                          try clear c4b0
                                          try clear c4b1
                                          try clear c4b2
                                          try clear hcv4
                                          try clear c5
                                          try clear c5b0
                                          try clear c5b1
                                          try clear c5b2
                                          try clear p6
                                          try clear c7
                                          try clear c7b0
                                          try clear c7b1
                                          try clear c7b2
                                          try clear c8
                                          try clear c8b0
                                          try clear c8b1
                                          try clear c8b2
                                          try clear c10
                                          try clear c10b0
                                          try clear c10b1
                                          try clear c10b2
                                          try clear c11
                                          try clear c20
                                          try clear c21
                                          try clear c21b0
                                          try clear c21b1
                                          try clear c21b2
                                          try clear c22
                                          try clear c22b0
                                          try clear c22b1
                                          try clear c22b2
                                          try clear c24
                                          try clear c24b0
                                          try clear c24b1
                                          try clear c24b2
                                          try clear c26
                                          try clear c26b0
                                          try clear c26b1
                                          try clear c26b2
                                          try clear c27
                                          try clear c27b0
                                          try clear c27b1
                                          try clear c27b2
                                          try clear c29
                                          try clear c29b0
                                          try clear c29b1
                                          try clear c29b2
                                          try clear c30
                                          try clear c30b0
                                          try clear c30b1
                                          try clear c30b2
                                          try clear c37
                                          try clear c37b0
                                          try clear c38
                                          try clear c38b0
                                          try clear c38b1
                                          try clear c38b2
                                          try clear c40
                                          try clear c40b0
                                          try clear c41
                                          try clear c41b0
                                          try clear c41b1
                                          try clear c41b2
                                          try clear hcv45
                                          try clear c46
                                          try clear c46b0
                                          try clear c46b1
                                          try clear c46b2
                                          try clear c48
                                          try clear c48b0
                                          try clear c48b1
                                          try clear c49
                                          try clear c49b0
                                          try clear c49b1
                                          try clear c49b2
                                          try clear c53
                                          try clear c53b0
                                          try clear c53b1
                                          try clear c54
                                          try clear c57
                                          try clear c57b0
                                          try clear hcz19_0
                                          try clear hcz19_1
                                          try clear hcz19_10
                                          try clear hcz19_11
                                          try clear hcz19_2
                                          try clear hcz19_3
                                          try clear hcz19_4
                                          try clear hcz19_5
                                          try clear hcz19_6
                                          try clear hcz19_7
                                          try clear hcz19_8
                                          try clear hcz19_9
                                          try clear hcz36_0
                                          try clear hcz36_1
                                          try clear hcz36_10
                                          try clear hcz36_11
                                          try clear hcz36_2
                                          try clear hcz36_3
                                          try clear hcz36_4
                                          try clear hcz36_5
                                          try clear hcz36_6
                                          try clear hcz36_7
                                          try clear hcz36_8
                                          try clear hcz36_9
                                          try clear hcz42_0
                                          try clear hcz42_1
                                          try clear hcz42_10
                                          try clear hcz42_11
                                          try clear hcz42_2
                                          try clear hcz42_3
                                          try clear hcz42_4
                                          try clear hcz42_5
                                          try clear hcz42_6
                                          try clear hcz42_7
                                          try clear hcz42_8
                                          try clear hcz42_9
                                          try clear hcz47_0
                                          try clear hcz47_1
                                          try clear hcz47_10
                                          try clear hcz47_11
                                          try clear hcz47_2
                                          try clear hcz47_3
                                          try clear hcz47_4
                                          try clear hcz47_5
                                          try clear hcz47_6
                                          try clear hcz47_7
                                          try clear hcz47_8
                                          try clear hcz47_9
                                          try clear hcz50_0
                                          try clear hcz50_1
                                          try clear hcz50_10
                                          try clear hcz50_11
                                          try clear hcz50_2
                                          try clear hcz50_3
                                          try clear hcz50_4
                                          try clear hcz50_5
                                          try clear hcz50_6
                                          try clear hcz50_7
                                          try clear hcz50_8
                                          try clear hcz50_9
                                          try clear hcz52_0
                                          try clear hcz52_1
                                          try clear hcz52_10
                                          try clear hcz52_11
                                          try clear hcz52_2
                                          try clear hcz52_3
                                          try clear hcz52_4
                                          try clear hcz52_5
                                          try clear hcz52_6
                                          try clear hcz52_7
                                          try clear hcz52_8
                                          try clear hcz52_9
                                          try clear hcz56_0
                                          try clear hcz56_1
                                          try clear hcz56_10
                                          try clear hcz56_11
                                          try clear hcz56_2
                                          try clear hcz56_3
                                          try clear hcz56_4
                                          try clear hcz56_5
                                          try clear hcz56_6
                                          try clear hcz56_7
                                          try clear hcz56_8
                                          try clear hcz56_9
                                          try clear hfz19_0
                                          try clear hfz19_1
                                          try clear hfz19_10
                                          try clear hfz19_11
                                          try clear hfz19_2
                                          try clear hfz19_3
                                          try clear hfz19_4
                                          try clear hfz19_5
                                          try clear hfz19_6
                                          try clear hfz19_7
                                          try clear hfz19_8
                                          try clear hfz19_9
                                          try clear hfz36_0
                                          try clear hfz36_1
                                          try clear hfz36_10
                                          try clear hfz36_11
                                          try clear hfz36_2
                                          try clear hfz36_3
                                          try clear hfz36_4
                                          try clear hfz36_5
                                          try clear hfz36_6
                                          try clear hfz36_7
                                          try clear hfz36_8
                                          try clear hfz36_9
                                          try clear hfz42_0
                                          try clear hfz42_1
                                          try clear hfz42_10
                                          try clear hfz42_11
                                          try clear hfz42_2
                                          try clear hfz42_3
                                          try clear hfz42_4
                                          try clear hfz42_5
                                          try clear hfz42_6
                                          try clear hfz42_7
                                          try clear hfz42_8
                                          try clear hfz42_9
                                          try clear hfz47_0
                                          try clear hfz47_1
                                          try clear hfz47_10
                                          try clear hfz47_11
                                          try clear hfz47_2
                                          try clear hfz47_3
                                          try clear hfz47_4
                                          try clear hfz47_5
                                          try clear hfz47_6
                                          try clear hfz47_7
                                          try clear hfz47_8
                                          try clear hfz47_9
                                          try clear hfz50_0
                                          try clear hfz50_1
                                          try clear hfz50_10
                                          try clear hfz50_11
                                          try clear hfz50_2
                                          try clear hfz50_3
                                          try clear hfz50_4
                                          try clear hfz50_5
                                          try clear hfz50_6
                                          try clear hfz50_7
                                          try clear hfz50_8
                                          try clear hfz50_9
                                          try clear hfz52_0
                                          try clear hfz52_1
                                          try clear hfz52_10
                                          try clear hfz52_11
                                          try clear hfz52_2
                                          try clear hfz52_3
                                          try clear hfz52_4
                                          try clear hfz52_5
                                          try clear hfz52_6
                                          try clear hfz52_7
                                          try clear hfz52_8
                                          try clear hfz52_9
                                          try clear hfz56_0
                                          try clear hfz56_1
                                          try clear hfz56_10
                                          try clear hfz56_11
                                          try clear hfz56_2
                                          try clear hfz56_3
                                          try clear hfz56_4
                                          try clear hfz56_5
                                          try clear hfz56_6
                                          try clear hfz56_7
                                          try clear hfz56_8
                                          try clear hfz56_9
                                          try clear p2
                                          try clear p6
                                          obtain ⟨kq, x7_54, x8_54, rfl, rfl, HA, HJ54, BK104, HB⟩ := hcut
                                          cases kq with
                                          | zero => exact absurd HA.out (by simp [spec_IOText.j4])
                                          | succ kj54 =>
                                            have H := HA.out
                                            clear HA
                                            simp only [spec_IOText.j4] at H
                                            replace H := Option.bind_eq_some_iff.mp H
                                            obtain ⟨t115, A580, H⟩ := H
                                            replace H : (if x8_54.size + t115.size ≤ 9223372036854775807 then (if x3_30.size + (x8_54 ++ t115).size ≤ 9223372036854775807 then (if a0_10 = 2 then (if (x3_30 ++ (x8_54 ++ t115)).size + 1 ≤ 9223372036854775807 then ((spec_ioTwo.f (Int.tmod x7_54 60)).bind fun t116 => (if ((x3_30 ++ (x8_54 ++ t115)) ++ (⟨#[58]⟩ : ByteArray)).size + t116.size ≤ 9223372036854775807 then (some (((x3_30 ++ (x8_54 ++ t115)) ++ (⟨#[58]⟩ : ByteArray)) ++ t116)) else (none))) else (none)) else ((spec_ioTwo.f (Int.tmod x7_54 60)).bind fun t117 => (if (x3_30 ++ (x8_54 ++ t115)).size + t117.size ≤ 9223372036854775807 then (some ((x3_30 ++ (x8_54 ++ t115)) ++ t117)) else (none)))) else (none)) else (none)) = some r := H
                                            have A58 := Aside0.mk A580
                                            clear A580
                                            by_cases c59 : x8_54.size + t115.size ≤ 9223372036854775807
                                            · rw [if_pos c59] at H
                                              have c59z := c59
                                              try simp only [ByteArray.size_append, sz_one] at c59z
                                              have c59y := Nat.not_lt.mpr c59z
                                              have c59b0 := eq_true c59
                                              have c59b1 : decide (x8_54.size + t115.size ≤ 9223372036854775807) = true := decide_eq_true c59
                                              try have c59b2 : (9223372036854775807 < x8_54.size + t115.size) = False := eq_false (Nat.not_lt.2 c59)
                                              by_cases c60 : x3_30.size + (x8_54 ++ t115).size ≤ 9223372036854775807
                                              · rw [if_pos c60] at H
                                                have c60z := c60
                                                try simp only [ByteArray.size_append, sz_one] at c60z
                                                have c60y := Nat.not_lt.mpr c60z
                                                have c60b0 := eq_true c60
                                                have c60b1 : decide (x3_30.size + (x8_54 ++ t115).size ≤ 9223372036854775807) = true := decide_eq_true c60
                                                try have c60b2 : (9223372036854775807 < x3_30.size + (x8_54 ++ t115).size) = False := eq_false (Nat.not_lt.2 c60)
                                                by_cases c61 : a0_10 = 2
                                                · rw [if_pos c61] at H
                                                  have c61b0 : (a0_10 == 2) = true := beq_iff_eq.mpr c61
                                                  have c61b1 : (a0_10 != 2) = false := bne_eq_false_iff_eq.mpr c61
                                                  clear c61
                                                  by_cases c62 : (x3_30 ++ (x8_54 ++ t115)).size + 1 ≤ 9223372036854775807
                                                  · rw [if_pos c62] at H
                                                    have c62z := c62
                                                    try simp only [ByteArray.size_append, sz_one] at c62z
                                                    have c62y := Nat.not_lt.mpr c62z
                                                    have c62b0 := eq_true c62
                                                    have c62b1 : decide ((x3_30 ++ (x8_54 ++ t115)).size + 1 ≤ 9223372036854775807) = true := decide_eq_true c62
                                                    try have c62b2 : (9223372036854775807 < (x3_30 ++ (x8_54 ++ t115)).size + 1) = False := eq_false (Nat.not_lt.2 c62)
                                                    replace H := Option.bind_eq_some_iff.mp H
                                                    obtain ⟨t116, A630, H⟩ := H
                                                    replace H : (if ((x3_30 ++ (x8_54 ++ t115)) ++ (⟨#[58]⟩ : ByteArray)).size + t116.size ≤ 9223372036854775807 then (some (((x3_30 ++ (x8_54 ++ t115)) ++ (⟨#[58]⟩ : ByteArray)) ++ t116)) else (none)) = some r := H
                                                    have A63 := Aside0.mk A630
                                                    clear A630
                                                    by_cases c64 : ((x3_30 ++ (x8_54 ++ t115)) ++ (⟨#[58]⟩ : ByteArray)).size + t116.size ≤ 9223372036854775807
                                                    · rw [if_pos c64] at H
                                                      have c64z := c64
                                                      try simp only [ByteArray.size_append, sz_one] at c64z
                                                      have c64y := Nat.not_lt.mpr c64z
                                                      have c64b0 := eq_true c64
                                                      have c64b1 : decide (((x3_30 ++ (x8_54 ++ t115)) ++ (⟨#[58]⟩ : ByteArray)).size + t116.size ≤ 9223372036854775807) = true := decide_eq_true c64
                                                      try have c64b2 : (9223372036854775807 < ((x3_30 ++ (x8_54 ++ t115)) ++ (⟨#[58]⟩ : ByteArray)).size + t116.size) = False := eq_false (Nat.not_lt.2 c64)
                                                      obtain rfl := Option.some.inj H
                                                      go_wp2_with (first | ((with_reducible refine gate_callee (f := 58) rfl ?_); refine goesL_ (some 97) rfl rfl Try.func58 (by kernel_rfl) rfl #[.int .i64 (wrap64 (Int.tdiv x7_54 60))] rfl (by (try simp only [List.map_toArray, List.map_cons, List.map_nil]); first | done | rfl | (simp only [List.length_drop, List.length_take]; rfl)) ?_; (with_reducible refine (spec_ioTwo.calls (wrap64 (Int.tdiv x7_54 60)) t115 _ A58.out).mono ?_); rintro e w65 ⟨rfl, hb⟩; refine ⟨_, rfl, ?_⟩; have n0_ := Aside0.mk (blk_below (g := gb104) (o := .cells #[.int .i64 a0_0, .int .i64 a0_1, .int .i64 a0_2, .int .i64 a0_3, .int .i64 a0_4, .int .i64 a0_5, .bool a0_6, .bool true, .int .i64 a0_8, .int .i64 a0_9, .int .i64 a0_10, .int .i64 a0_11] 50 (0, 0)) (by (with_reducible repeat (first | refine blk_drewN ?_ _ | refine blk_drew ?_ | refine blk_alloc ?_ _)); exact BK104.out) hb); have n1_ := Aside0.mk (below_step (by repeat (first | (with_reducible first | exact HB.out | apply below_alloc | apply pw_below_drewN | apply below_drew1 | refine below_set ?_ GE104.out) | exact HB.out)) hb); clear BK104; clear HB; have BK104 := n0_; have HB := n1_; clear n0_ n1_; (try clear hb); (try clear hb2); (try clear hk); (try clear hi); have hcz66_0 : w65.cell? ⟨gb104, 0, none⟩ = some (.int .i64 a0_0) := (blk_cell BK104.out 0).trans rfl; have hcz66_1 : w65.cell? ⟨gb104, 1, none⟩ = some (.int .i64 a0_1) := (blk_cell BK104.out 1).trans rfl; have hcz66_2 : w65.cell? ⟨gb104, 2, none⟩ = some (.int .i64 a0_2) := (blk_cell BK104.out 2).trans rfl; have hcz66_3 : w65.cell? ⟨gb104, 3, none⟩ = some (.int .i64 a0_3) := (blk_cell BK104.out 3).trans rfl; have hcz66_4 : w65.cell? ⟨gb104, 4, none⟩ = some (.int .i64 a0_4) := (blk_cell BK104.out 4).trans rfl; have hcz66_5 : w65.cell? ⟨gb104, 5, none⟩ = some (.int .i64 a0_5) := (blk_cell BK104.out 5).trans rfl; have hcz66_6 : w65.cell? ⟨gb104, 6, none⟩ = some (.bool a0_6) := (blk_cell BK104.out 6).trans rfl; have hcz66_7 : w65.cell? ⟨gb104, 7, none⟩ = some (.bool true) := (blk_cell BK104.out 7).trans rfl; have hcz66_8 : w65.cell? ⟨gb104, 8, none⟩ = some (.int .i64 a0_8) := (blk_cell BK104.out 8).trans rfl; have hcz66_9 : w65.cell? ⟨gb104, 9, none⟩ = some (.int .i64 a0_9) := (blk_cell BK104.out 9).trans rfl; have hcz66_10 : w65.cell? ⟨gb104, 10, none⟩ = some (.int .i64 a0_10) := (blk_cell BK104.out 10).trans rfl; have hcz66_11 : w65.cell? ⟨gb104, 11, none⟩ = some (.int .i64 a0_11) := (blk_cell BK104.out 11).trans rfl; have hfz66_0 := blk_frozen BK104.out 0; have hfz66_1 := blk_frozen BK104.out 1; have hfz66_2 := blk_frozen BK104.out 2; have hfz66_3 := blk_frozen BK104.out 3; have hfz66_4 := blk_frozen BK104.out 4; have hfz66_5 := blk_frozen BK104.out 5; have hfz66_6 := blk_frozen BK104.out 6; have hfz66_7 := blk_frozen BK104.out 7; have hfz66_8 := blk_frozen BK104.out 8; have hfz66_9 := blk_frozen BK104.out 9; have hfz66_10 := blk_frozen BK104.out 10; have hfz66_11 := blk_frozen BK104.out 11) | ((with_reducible refine gate_callee (f := 58) rfl ?_); refine goesL_ (some 108) rfl rfl Try.func58 (by kernel_rfl) rfl #[.int .i64 (Int.tmod x7_54 60)] rfl (by (try simp only [List.map_toArray, List.map_cons, List.map_nil]); first | done | rfl | (simp only [List.length_drop, List.length_take]; rfl)) ?_; (with_reducible refine (spec_ioTwo.calls (Int.tmod x7_54 60) t116 _ A63.out).mono ?_); rintro e w67 ⟨rfl, hb⟩; refine ⟨_, rfl, ?_⟩; have n0_ := Aside0.mk (blk_below (g := gb104) (o := .cells #[.int .i64 a0_0, .int .i64 a0_1, .int .i64 a0_2, .int .i64 a0_3, .int .i64 a0_4, .int .i64 a0_5, .bool a0_6, .bool true, .int .i64 a0_8, .int .i64 a0_9, .int .i64 a0_10, .int .i64 a0_11] 50 (0, 0)) (by (with_reducible repeat (first | refine blk_drewN ?_ _ | refine blk_drew ?_ | refine blk_alloc ?_ _)); exact BK104.out) hb); have n1_ := Aside0.mk (below_step (by repeat (first | (with_reducible first | exact HB.out | apply below_alloc | apply pw_below_drewN | apply below_drew1 | refine below_set ?_ GE104.out) | exact HB.out)) hb); clear BK104; clear HB; have BK104 := n0_; have HB := n1_; clear n0_ n1_; (try clear hb); (try clear hb2); (try clear hk); (try clear hi)))
                                                      go_ret
                                                      exact ⟨by first | rfl | (simp [errW_none, errW_some] <;> rfl) | (simp [*, errW_none, errW_some] <;> rfl), by repeat (first | (with_reducible first | exact HB.out | apply below_alloc | apply pw_below_drewN | apply below_drew1 | refine below_set ?_ GE104.out) | exact HB.out)⟩
                                                    · rw [if_neg c64] at H
                                                      exact absurd H (by simp)
                                                  · rw [if_neg c62] at H
                                                    exact absurd H (by simp)
                                                · rw [if_neg c61] at H
                                                  have c61b0 : (a0_10 == 2) = false := beq_eq_false_iff_ne.mpr c61
                                                  have c61b1 : (a0_10 != 2) = true := bne_iff_ne.mpr c61
                                                  replace H := Option.bind_eq_some_iff.mp H
                                                  obtain ⟨t117, A680, H⟩ := H
                                                  replace H : (if (x3_30 ++ (x8_54 ++ t115)).size + t117.size ≤ 9223372036854775807 then (some ((x3_30 ++ (x8_54 ++ t115)) ++ t117)) else (none)) = some r := H
                                                  have A68 := Aside0.mk A680
                                                  clear A680
                                                  by_cases c69 : (x3_30 ++ (x8_54 ++ t115)).size + t117.size ≤ 9223372036854775807
                                                  · rw [if_pos c69] at H
                                                    have c69z := c69
                                                    try simp only [ByteArray.size_append, sz_one] at c69z
                                                    have c69y := Nat.not_lt.mpr c69z
                                                    have c69b0 := eq_true c69
                                                    have c69b1 : decide ((x3_30 ++ (x8_54 ++ t115)).size + t117.size ≤ 9223372036854775807) = true := decide_eq_true c69
                                                    try have c69b2 : (9223372036854775807 < (x3_30 ++ (x8_54 ++ t115)).size + t117.size) = False := eq_false (Nat.not_lt.2 c69)
                                                    obtain rfl := Option.some.inj H
                                                    go_wp2_with (first | ((with_reducible refine gate_callee (f := 58) rfl ?_); refine goesL_ (some 97) rfl rfl Try.func58 (by kernel_rfl) rfl #[.int .i64 (wrap64 (Int.tdiv x7_54 60))] rfl (by (try simp only [List.map_toArray, List.map_cons, List.map_nil]); first | done | rfl | (simp only [List.length_drop, List.length_take]; rfl)) ?_; (with_reducible refine (spec_ioTwo.calls (wrap64 (Int.tdiv x7_54 60)) t115 _ A58.out).mono ?_); rintro e w70 ⟨rfl, hb⟩; refine ⟨_, rfl, ?_⟩; have n0_ := Aside0.mk (blk_below (g := gb104) (o := .cells #[.int .i64 a0_0, .int .i64 a0_1, .int .i64 a0_2, .int .i64 a0_3, .int .i64 a0_4, .int .i64 a0_5, .bool a0_6, .bool true, .int .i64 a0_8, .int .i64 a0_9, .int .i64 a0_10, .int .i64 a0_11] 50 (0, 0)) (by (with_reducible repeat (first | refine blk_drewN ?_ _ | refine blk_drew ?_ | refine blk_alloc ?_ _)); exact BK104.out) hb); have n1_ := Aside0.mk (below_step (by repeat (first | (with_reducible first | exact HB.out | apply below_alloc | apply pw_below_drewN | apply below_drew1 | refine below_set ?_ GE104.out) | exact HB.out)) hb); clear BK104; clear HB; have BK104 := n0_; have HB := n1_; clear n0_ n1_; (try clear hb); (try clear hb2); (try clear hk); (try clear hi); have hcz71_0 : w70.cell? ⟨gb104, 0, none⟩ = some (.int .i64 a0_0) := (blk_cell BK104.out 0).trans rfl; have hcz71_1 : w70.cell? ⟨gb104, 1, none⟩ = some (.int .i64 a0_1) := (blk_cell BK104.out 1).trans rfl; have hcz71_2 : w70.cell? ⟨gb104, 2, none⟩ = some (.int .i64 a0_2) := (blk_cell BK104.out 2).trans rfl; have hcz71_3 : w70.cell? ⟨gb104, 3, none⟩ = some (.int .i64 a0_3) := (blk_cell BK104.out 3).trans rfl; have hcz71_4 : w70.cell? ⟨gb104, 4, none⟩ = some (.int .i64 a0_4) := (blk_cell BK104.out 4).trans rfl; have hcz71_5 : w70.cell? ⟨gb104, 5, none⟩ = some (.int .i64 a0_5) := (blk_cell BK104.out 5).trans rfl; have hcz71_6 : w70.cell? ⟨gb104, 6, none⟩ = some (.bool a0_6) := (blk_cell BK104.out 6).trans rfl; have hcz71_7 : w70.cell? ⟨gb104, 7, none⟩ = some (.bool true) := (blk_cell BK104.out 7).trans rfl; have hcz71_8 : w70.cell? ⟨gb104, 8, none⟩ = some (.int .i64 a0_8) := (blk_cell BK104.out 8).trans rfl; have hcz71_9 : w70.cell? ⟨gb104, 9, none⟩ = some (.int .i64 a0_9) := (blk_cell BK104.out 9).trans rfl; have hcz71_10 : w70.cell? ⟨gb104, 10, none⟩ = some (.int .i64 a0_10) := (blk_cell BK104.out 10).trans rfl; have hcz71_11 : w70.cell? ⟨gb104, 11, none⟩ = some (.int .i64 a0_11) := (blk_cell BK104.out 11).trans rfl; have hfz71_0 := blk_frozen BK104.out 0; have hfz71_1 := blk_frozen BK104.out 1; have hfz71_2 := blk_frozen BK104.out 2; have hfz71_3 := blk_frozen BK104.out 3; have hfz71_4 := blk_frozen BK104.out 4; have hfz71_5 := blk_frozen BK104.out 5; have hfz71_6 := blk_frozen BK104.out 6; have hfz71_7 := blk_frozen BK104.out 7; have hfz71_8 := blk_frozen BK104.out 8; have hfz71_9 := blk_frozen BK104.out 9; have hfz71_10 := blk_frozen BK104.out 10; have hfz71_11 := blk_frozen BK104.out 11) | ((with_reducible refine gate_callee (f := 58) rfl ?_); refine goesL_ (some 108) rfl rfl Try.func58 (by kernel_rfl) rfl #[.int .i64 (Int.tmod x7_54 60)] rfl (by (try simp only [List.map_toArray, List.map_cons, List.map_nil]); first | done | rfl | (simp only [List.length_drop, List.length_take]; rfl)) ?_; (with_reducible refine (spec_ioTwo.calls (Int.tmod x7_54 60) t117 _ A68.out).mono ?_); rintro e w72 ⟨rfl, hb⟩; refine ⟨_, rfl, ?_⟩; have n0_ := Aside0.mk (blk_below (g := gb104) (o := .cells #[.int .i64 a0_0, .int .i64 a0_1, .int .i64 a0_2, .int .i64 a0_3, .int .i64 a0_4, .int .i64 a0_5, .bool a0_6, .bool true, .int .i64 a0_8, .int .i64 a0_9, .int .i64 a0_10, .int .i64 a0_11] 50 (0, 0)) (by (with_reducible repeat (first | refine blk_drewN ?_ _ | refine blk_drew ?_ | refine blk_alloc ?_ _)); exact BK104.out) hb); have n1_ := Aside0.mk (below_step (by repeat (first | (with_reducible first | exact HB.out | apply below_alloc | apply pw_below_drewN | apply below_drew1 | refine below_set ?_ GE104.out) | exact HB.out)) hb); clear BK104; clear HB; have BK104 := n0_; have HB := n1_; clear n0_ n1_; (try clear hb); (try clear hb2); (try clear hk); (try clear hi)))
                                                    go_ret
                                                    exact ⟨by first | rfl | (simp [errW_none, errW_some] <;> rfl) | (simp [*, errW_none, errW_some] <;> rfl), by repeat (first | (with_reducible first | exact HB.out | apply below_alloc | apply pw_below_drewN | apply below_drew1 | refine below_set ?_ GE104.out) | exact HB.out)⟩
                                                  · rw [if_neg c69] at H
                                                    exact absurd H (by simp)
                                              · rw [if_neg c60] at H
                                                exact absurd H (by simp)
                                            · rw [if_neg c59] at H
                                              exact absurd H (by simp)
                                      · replace c54 := Bool.eq_false_iff.mpr c54
                                        subst c54
                                        have H1 : (some x3_30) = some r := by rw [if_neg (show ¬ (false = true) by decide)] at H; exact H
                                        clear H
                                        have H := H1
                                        clear H1
                                        obtain rfl := Option.some.inj H
                                        go_wp2
                                        go_ret
                                        exact ⟨by first | rfl | (simp [errW_none, errW_some] <;> rfl) | (simp [*, errW_none, errW_some] <;> rfl), by repeat (first | (with_reducible first | exact HB.out | apply below_alloc | apply pw_below_drewN | apply below_drew1 | refine below_set ?_ GE104.out) | exact HB.out)⟩
                          · rw [if_neg c30] at H
                            exact absurd H (by simp)
                        · rw [if_neg c29] at H
                          exact absurd H (by simp)
                      · rw [if_neg c27] at H
                        exact absurd H (by simp)
                    · rw [if_neg c26] at H
                      exact absurd H (by simp)
                  · rw [if_neg c24] at H
                    exact absurd H (by simp)
            · replace c11 := Bool.eq_false_iff.mpr c11
              subst c11
              have H1 : (some (((((t105 ++ t106) ++ (⟨#[45]⟩ : ByteArray)) ++ t107) ++ (⟨#[45]⟩ : ByteArray)) ++ t108)) = some r := by rw [if_neg (show ¬ (false = true) by decide)] at H; exact H
              clear H
              have H := H1
              clear H1
              obtain rfl := Option.some.inj H
              go_enter Try.func34, Try.ntmps34
              try go_wp2_with (first | ((with_reducible refine gate_dst (N := 1) rfl ?_); refine box_event ?hg (N := 1) ?hd (cs := #[.int .i64 a0_0, .int .i64 a0_1, .int .i64 a0_2, .int .i64 a0_3, .int .i64 a0_4, .int .i64 a0_5, .bool a0_6, .bool false, .int .i64 a0_8, .int .i64 a0_9, .int .i64 a0_10, .int .i64 a0_11]) (t := 50) ?hr ?_; (case hd => rfl); (case hg => rfl); (case hr => first | (go_simp; done) | (go_simp; rfl)); intro gb104 hg w73 hbox hb; have n0_ := Aside0.mk (below_step (by repeat (first | (with_reducible first | exact HB.out | apply below_alloc | apply pw_below_drewN | apply below_drew1) | exact HB.out)) hb); have n1_ := Aside0.mk (hbox); have n2_ := Aside0.mk ((by rw [hg]; exact (below_size (by repeat (first | (with_reducible first | exact HB.out | apply below_alloc | apply pw_below_drewN | apply below_drew1) | exact HB.out))) : w.heap.size ≤ gb104)); have n3_ := Aside0.mk ((by rw [hg]; exact (below_size (by repeat (first | (with_reducible first | exact HB.out | apply below_alloc | apply pw_below_drewN | apply below_drew1) | exact HB.out))) : w.heap.size ≤ gb104)); clear HB; have HB := n0_; have BK104 := n1_; have GW104 := n2_; have GE104 := n3_; clear n0_ n1_ n2_ n3_; clear hb hbox hg))
              have n0_ := Aside0.mk (blk_drew BK104.out)
              have n1_ := Aside0.mk (below_drew1 HB.out)
              clear BK104
              clear HB
              have BK104 := n0_
              have HB := n1_
              clear n0_ n1_
              refine start_ (n := 19) (S := fun w' => w'.cell? ⟨gb104, 0, none⟩ = some (.int .i64 a0_0) ∧ w'.cell? ⟨gb104, 1, none⟩ = some (.int .i64 a0_1) ∧ w'.cell? ⟨gb104, 2, none⟩ = some (.int .i64 a0_2) ∧ w'.cell? ⟨gb104, 3, none⟩ = some (.int .i64 a0_3) ∧ w'.cell? ⟨gb104, 4, none⟩ = some (.int .i64 a0_4) ∧ w'.cell? ⟨gb104, 5, none⟩ = some (.int .i64 a0_5) ∧ w'.cell? ⟨gb104, 6, none⟩ = some (.bool a0_6) ∧ w'.cell? ⟨gb104, 7, none⟩ = some (.bool false) ∧ w'.cell? ⟨gb104, 8, none⟩ = some (.int .i64 a0_8) ∧ w'.cell? ⟨gb104, 9, none⟩ = some (.int .i64 a0_9) ∧ w'.cell? ⟨gb104, 10, none⟩ = some (.int .i64 a0_10) ∧ w'.cell? ⟨gb104, 11, none⟩ = some (.int .i64 a0_11)) (ds := []) #[false, false, false, false, false, false, false, false, false, false, false, false, false, false, false, false, false, false, false] (by kernel_rfl) rfl rfl ⟨(blk_cell BK104.out 0).trans rfl, (blk_cell BK104.out 1).trans rfl, (blk_cell BK104.out 2).trans rfl, (blk_cell BK104.out 3).trans rfl, (blk_cell BK104.out 4).trans rfl, (blk_cell BK104.out 5).trans rfl, (blk_cell BK104.out 6).trans rfl, (blk_cell BK104.out 7).trans rfl, (blk_cell BK104.out 8).trans rfl, (blk_cell BK104.out 9).trans rfl, (blk_cell BK104.out 10).trans rfl, (blk_cell BK104.out 11).trans rfl⟩ (fun hHeld => ?_); refine with_tabW spec_IOText.tab1 spec_IOText.bits1 (fun HT_ HW_ => ?_)
              generalize w73.drew = w74 at BK104 HB hHeld ⊢
              refine pure_ (i := 0) (N := some 9) (v := ?_) (a' := ?_) #[true, false, false, false, false, false, false, false, false, false, false, false, false, false, false, false, false, false, false] rfl rfl (any_of HT_.out (by kernel_rfl)) (fun _ _ _ h => h) (Or.inl ⟨by rfl, ?_⟩) ?_ ?_
              rotate_left
              · intro w'
                go_simp
                with_reducible rfl
              rotate_left
              · simp only [Act.put, List.setIfInBounds_toArray, List.set_cons_zero, List.set_cons_succ, i64_w, i32_w]
                rfl
              refine pure_ (i := 4) (N := some 13) (v := ?_) (a' := ?_) #[true, false, false, false, true, false, false, false, false, false, false, false, false, false, false, false, false, false, false] rfl rfl (any_of HT_.out (by kernel_rfl)) (fun _ _ _ h => h) (Or.inl ⟨by rfl, ?_⟩) ?_ ?_
              rotate_left
              · intro w'
                go_simp
                with_reducible rfl
              rotate_left
              · simp only [Act.put, List.setIfInBounds_toArray, List.set_cons_zero, List.set_cons_succ, i64_w, i32_w]
                rfl
              refine pure_ (i := 9) (N := some 18) (v := ?_) (a' := ?_) #[true, false, false, false, true, false, false, false, false, true, false, false, false, false, false, false, false, false, false] rfl rfl (any_of HT_.out (by kernel_rfl)) (fun _ _ _ h => h) (Or.inl ⟨by rfl, ?_⟩) ?_ ?_
              rotate_left
              · intro w'
                go_simp
                with_reducible rfl
              rotate_left
              · simp only [Act.put, List.setIfInBounds_toArray, List.set_cons_zero, List.set_cons_succ, i64_w, i32_w]
                rfl
              refine pure_ (i := 14) (N := some 23) (v := ?_) (a' := ?_) #[true, false, false, false, true, false, false, false, false, true, false, false, false, false, true, false, false, false, false] rfl rfl (any_of HT_.out (by kernel_rfl)) (fun _ _ _ h => h) (Or.inl ⟨by rfl, ?_⟩) ?_ ?_
              rotate_left
              · intro w'
                go_simp
                with_reducible rfl
              rotate_left
              · simp only [Act.put, List.setIfInBounds_toArray, List.set_cons_zero, List.set_cons_succ, i64_w, i32_w]
                rfl
              refine take_ (i := 1) (N := some 10) (v := ?_) (a' := ?_) #[true, true, false, false, true, false, false, false, false, true, false, false, false, false, true, false, false, false, false] rfl rfl (take_ofW HT_.out HW_.out (by kernel_rfl)) (fun _ _ _ h => h) (Or.inl ⟨by rfl, ?_⟩) hHeld ?_ ?_
              rotate_left
              · rintro w' ⟨s0, s1, s2, s3, s4, s5, s6, s7, s8, s9, s10, s11⟩
                go_simp
                with_reducible rfl
              rotate_left
              · simp only [Act.put, List.setIfInBounds_toArray, List.set_cons_zero, List.set_cons_succ, i64_w, i32_w]
                rfl
              refine pure_ (i := 2) (N := some 11) (v := ?_) (a' := ?_) #[true, true, true, false, true, false, false, false, false, true, false, false, false, false, true, false, false, false, false] rfl rfl (any_of HT_.out (by kernel_rfl)) (fun _ _ _ h => h) (Or.inl ⟨by rfl, ?_⟩) ?_ ?_
              rotate_left
              · intro w'
                go_simp
                with_reducible rfl
              rotate_left
              · simp only [Act.put, List.setIfInBounds_toArray, List.set_cons_zero, List.set_cons_succ, i64_w, i32_w]
                rfl
              refine take_ (i := 5) (N := some 14) (v := ?_) (a' := ?_) #[true, true, true, false, true, true, false, false, false, true, false, false, false, false, true, false, false, false, false] rfl rfl (take_ofW HT_.out HW_.out (by kernel_rfl)) (fun _ _ _ h => h) (Or.inl ⟨by rfl, ?_⟩) hHeld ?_ ?_
              rotate_left
              · rintro w' ⟨s0, s1, s2, s3, s4, s5, s6, s7, s8, s9, s10, s11⟩
                go_simp
                with_reducible rfl
              rotate_left
              · simp only [Act.put, List.setIfInBounds_toArray, List.set_cons_zero, List.set_cons_succ, i64_w, i32_w]
                rfl
              refine take_ (i := 10) (N := some 19) (v := ?_) (a' := ?_) #[true, true, true, false, true, true, false, false, false, true, true, false, false, false, true, false, false, false, false] rfl rfl (take_ofW HT_.out HW_.out (by kernel_rfl)) (fun _ _ _ h => h) (Or.inl ⟨by rfl, ?_⟩) hHeld ?_ ?_
              rotate_left
              · rintro w' ⟨s0, s1, s2, s3, s4, s5, s6, s7, s8, s9, s10, s11⟩
                go_simp
                with_reducible rfl
              rotate_left
              · simp only [Act.put, List.setIfInBounds_toArray, List.set_cons_zero, List.set_cons_succ, i64_w, i32_w]
                rfl
              refine take_ (i := 15) (N := some 24) (v := ?_) (a' := ?_) #[true, true, true, false, true, true, false, false, false, true, true, false, false, false, true, true, false, false, false] rfl rfl (take_ofW HT_.out HW_.out (by kernel_rfl)) (fun _ _ _ h => h) (Or.inl ⟨by rfl, ?_⟩) hHeld ?_ ?_
              rotate_left
              · rintro w' ⟨s0, s1, s2, s3, s4, s5, s6, s7, s8, s9, s10, s11⟩
                go_simp
                with_reducible rfl
              rotate_left
              · simp only [Act.put, List.setIfInBounds_toArray, List.set_cons_zero, List.set_cons_succ, i64_w, i32_w]
                rfl
              refine one_ (i := 3) (N := some 12) #[true, true, true, true, true, true, false, false, false, true, true, false, false, false, true, true, false, false, false] rfl rfl (one_of HT_.out (by kernel_rfl)) (by decide) (fun K hK => ?_)
              refine goes_ Try.func58 (by kernel_rfl) rfl #[.int .i64 (wrap64 (Int.tdiv a0_0 100))] (by rfl) rfl rfl (by (try simp only [List.map_toArray, List.map_cons, List.map_nil]); first | done | rfl | (simp only [List.length_drop, List.length_take]; rfl)) ?_
              with_reducible refine (spec_ioTwo.calls (wrap64 (Int.tdiv a0_0 100)) t105 _ A2.out).mono ?_
              rintro e w75 ⟨rfl, hb⟩
              refine ⟨_, rfl, ?_⟩
              have n0_ := Aside0.mk (blk_below (g := gb104) (o := .cells #[.int .i64 a0_0, .int .i64 a0_1, .int .i64 a0_2, .int .i64 a0_3, .int .i64 a0_4, .int .i64 a0_5, .bool a0_6, .bool false, .int .i64 a0_8, .int .i64 a0_9, .int .i64 a0_10, .int .i64 a0_11] 50 (0, 0)) (by (with_reducible repeat (first | refine blk_drewN ?_ _ | refine blk_drew ?_ | refine blk_alloc ?_ _)); exact BK104.out) hb)
              have n1_ := Aside0.mk (below_step (by repeat (first | (with_reducible first | exact HB.out | apply below_alloc | apply pw_below_drewN | apply below_drew1 | refine below_set ?_ GE104.out) | exact HB.out)) hb)
              clear BK104
              clear HB
              have BK104 := n0_
              have HB := n1_
              clear n0_ n1_
              (try clear hb)
              (try clear hb2)
              (try clear hk)
              (try clear hi)
              refine hK.out _ _ ⟨(blk_cell BK104.out 0).trans rfl, (blk_cell BK104.out 1).trans rfl, (blk_cell BK104.out 2).trans rfl, (blk_cell BK104.out 3).trans rfl, (blk_cell BK104.out 4).trans rfl, (blk_cell BK104.out 5).trans rfl, (blk_cell BK104.out 6).trans rfl, (blk_cell BK104.out 7).trans rfl, (blk_cell BK104.out 8).trans rfl, (blk_cell BK104.out 9).trans rfl, (blk_cell BK104.out 10).trans rfl, (blk_cell BK104.out 11).trans rfl⟩ (fun hHeld => ?_)
              clear hK K
              refine norm_ (a' := ?_) ?_ ?_
              rotate_left
              · show Act.put _ (some 12) _ = _
                simp only [Act.put, List.setIfInBounds_toArray, List.set_cons_zero, List.set_cons_succ, i64_w, i32_w]
                rfl
              refine one_ (i := 6) (N := some 15) #[true, true, true, true, true, true, true, false, false, true, true, false, false, false, true, true, false, false, false] rfl rfl (one_of HT_.out (by kernel_rfl)) (by decide) (fun K hK => ?_)
              refine goes_ Try.func58 (by kernel_rfl) rfl #[.int .i64 a0_0] (by rfl) rfl rfl (by (try simp only [List.map_toArray, List.map_cons, List.map_nil]); first | done | rfl | (simp only [List.length_drop, List.length_take]; rfl)) ?_
              with_reducible refine (spec_ioTwo.calls a0_0 t106 _ A3.out).mono ?_
              rintro e w76 ⟨rfl, hb⟩
              refine ⟨_, rfl, ?_⟩
              have n0_ := Aside0.mk (blk_below (g := gb104) (o := .cells #[.int .i64 a0_0, .int .i64 a0_1, .int .i64 a0_2, .int .i64 a0_3, .int .i64 a0_4, .int .i64 a0_5, .bool a0_6, .bool false, .int .i64 a0_8, .int .i64 a0_9, .int .i64 a0_10, .int .i64 a0_11] 50 (0, 0)) (by (with_reducible repeat (first | refine blk_drewN ?_ _ | refine blk_drew ?_ | refine blk_alloc ?_ _)); exact BK104.out) hb)
              have n1_ := Aside0.mk (below_step (by repeat (first | (with_reducible first | exact HB.out | apply below_alloc | apply pw_below_drewN | apply below_drew1 | refine below_set ?_ GE104.out) | exact HB.out)) hb)
              clear BK104
              clear HB
              have BK104 := n0_
              have HB := n1_
              clear n0_ n1_
              (try clear hb)
              (try clear hb2)
              (try clear hk)
              (try clear hi)
              refine hK.out _ _ ⟨(blk_cell BK104.out 0).trans rfl, (blk_cell BK104.out 1).trans rfl, (blk_cell BK104.out 2).trans rfl, (blk_cell BK104.out 3).trans rfl, (blk_cell BK104.out 4).trans rfl, (blk_cell BK104.out 5).trans rfl, (blk_cell BK104.out 6).trans rfl, (blk_cell BK104.out 7).trans rfl, (blk_cell BK104.out 8).trans rfl, (blk_cell BK104.out 9).trans rfl, (blk_cell BK104.out 10).trans rfl, (blk_cell BK104.out 11).trans rfl⟩ (fun hHeld => ?_)
              clear hK K
              refine norm_ (a' := ?_) ?_ ?_
              rotate_left
              · show Act.put _ (some 15) _ = _
                simp only [Act.put, List.setIfInBounds_toArray, List.set_cons_zero, List.set_cons_succ, i64_w, i32_w]
                rfl
              refine pure_ (i := 7) (N := some 16) (v := ?_) (a' := ?_) #[true, true, true, true, true, true, true, true, false, true, true, false, false, false, true, true, false, false, false] rfl rfl (any_of HT_.out (by kernel_rfl)) (fun _ _ _ h => h) (Or.inl ⟨by rfl, ?_⟩) ?_ ?_
              rotate_left
              · intro w'
                go_simp
                with_reducible rfl
              rotate_left
              · simp only [Act.put, List.setIfInBounds_toArray, List.set_cons_zero, List.set_cons_succ, i64_w, i32_w]
                rfl
              refine pure_ (i := 8) (N := some 17) (v := ?_) (a' := ?_) #[true, true, true, true, true, true, true, true, true, true, true, false, false, false, true, true, false, false, false] rfl rfl (any_of HT_.out (by kernel_rfl)) (fun _ _ _ h => h) (Or.inl ⟨by rfl, ?_⟩) ?_ ?_
              rotate_left
              · intro w'
                go_simp
                with_reducible rfl
              rotate_left
              · simp only [Act.put, List.setIfInBounds_toArray, List.set_cons_zero, List.set_cons_succ, i64_w, i32_w]
                rfl
              refine one_ (i := 11) (N := some 20) #[true, true, true, true, true, true, true, true, true, true, true, true, false, false, true, true, false, false, false] rfl rfl (one_of HT_.out (by kernel_rfl)) (by decide) (fun K hK => ?_)
              refine goes_ Try.func58 (by kernel_rfl) rfl #[.int .i64 a0_1] (by rfl) rfl rfl (by (try simp only [List.map_toArray, List.map_cons, List.map_nil]); first | done | rfl | (simp only [List.length_drop, List.length_take]; rfl)) ?_
              with_reducible refine (spec_ioTwo.calls a0_1 t107 _ A6.out).mono ?_
              rintro e w77 ⟨rfl, hb⟩
              refine ⟨_, rfl, ?_⟩
              have n0_ := Aside0.mk (blk_below (g := gb104) (o := .cells #[.int .i64 a0_0, .int .i64 a0_1, .int .i64 a0_2, .int .i64 a0_3, .int .i64 a0_4, .int .i64 a0_5, .bool a0_6, .bool false, .int .i64 a0_8, .int .i64 a0_9, .int .i64 a0_10, .int .i64 a0_11] 50 (0, 0)) (by (with_reducible repeat (first | refine blk_drewN ?_ _ | refine blk_drew ?_ | refine blk_alloc ?_ _)); exact BK104.out) hb)
              have n1_ := Aside0.mk (below_step (by repeat (first | (with_reducible first | exact HB.out | apply below_alloc | apply pw_below_drewN | apply below_drew1 | refine below_set ?_ GE104.out) | exact HB.out)) hb)
              clear BK104
              clear HB
              have BK104 := n0_
              have HB := n1_
              clear n0_ n1_
              (try clear hb)
              (try clear hb2)
              (try clear hk)
              (try clear hi)
              refine hK.out _ _ ⟨(blk_cell BK104.out 0).trans rfl, (blk_cell BK104.out 1).trans rfl, (blk_cell BK104.out 2).trans rfl, (blk_cell BK104.out 3).trans rfl, (blk_cell BK104.out 4).trans rfl, (blk_cell BK104.out 5).trans rfl, (blk_cell BK104.out 6).trans rfl, (blk_cell BK104.out 7).trans rfl, (blk_cell BK104.out 8).trans rfl, (blk_cell BK104.out 9).trans rfl, (blk_cell BK104.out 10).trans rfl, (blk_cell BK104.out 11).trans rfl⟩ (fun hHeld => ?_)
              clear hK K
              refine norm_ (a' := ?_) ?_ ?_
              rotate_left
              · show Act.put _ (some 20) _ = _
                simp only [Act.put, List.setIfInBounds_toArray, List.set_cons_zero, List.set_cons_succ, i64_w, i32_w]
                rfl
              refine pure_ (i := 12) (N := some 21) (v := ?_) (a' := ?_) #[true, true, true, true, true, true, true, true, true, true, true, true, true, false, true, true, false, false, false] rfl rfl (any_of HT_.out (by kernel_rfl)) (fun _ _ _ h => h) (Or.inl ⟨by rfl, ?_⟩) ?_ ?_
              rotate_left
              · intro w'
                go_simp
                with_reducible rfl
              rotate_left
              · simp only [Act.put, List.setIfInBounds_toArray, List.set_cons_zero, List.set_cons_succ, i64_w, i32_w]
                rfl
              refine pure_ (i := 13) (N := some 22) (v := ?_) (a' := ?_) #[true, true, true, true, true, true, true, true, true, true, true, true, true, true, true, true, false, false, false] rfl rfl (any_of HT_.out (by kernel_rfl)) (fun _ _ _ h => h) (Or.inl ⟨by rfl, ?_⟩) ?_ ?_
              rotate_left
              · intro w'
                go_simp
                with_reducible rfl
              rotate_left
              · simp only [Act.put, List.setIfInBounds_toArray, List.set_cons_zero, List.set_cons_succ, i64_w, i32_w]
                rfl
              refine one_ (i := 16) (N := some 25) #[true, true, true, true, true, true, true, true, true, true, true, true, true, true, true, true, true, false, false] rfl rfl (one_of HT_.out (by kernel_rfl)) (by decide) (fun K hK => ?_)
              refine goes_ Try.func58 (by kernel_rfl) rfl #[.int .i64 a0_2] (by rfl) rfl rfl (by (try simp only [List.map_toArray, List.map_cons, List.map_nil]); first | done | rfl | (simp only [List.length_drop, List.length_take]; rfl)) ?_
              with_reducible refine (spec_ioTwo.calls a0_2 t108 _ A9.out).mono ?_
              rintro e w78 ⟨rfl, hb⟩
              refine ⟨_, rfl, ?_⟩
              have n0_ := Aside0.mk (blk_below (g := gb104) (o := .cells #[.int .i64 a0_0, .int .i64 a0_1, .int .i64 a0_2, .int .i64 a0_3, .int .i64 a0_4, .int .i64 a0_5, .bool a0_6, .bool false, .int .i64 a0_8, .int .i64 a0_9, .int .i64 a0_10, .int .i64 a0_11] 50 (0, 0)) (by (with_reducible repeat (first | refine blk_drewN ?_ _ | refine blk_drew ?_ | refine blk_alloc ?_ _)); exact BK104.out) hb)
              have n1_ := Aside0.mk (below_step (by repeat (first | (with_reducible first | exact HB.out | apply below_alloc | apply pw_below_drewN | apply below_drew1 | refine below_set ?_ GE104.out) | exact HB.out)) hb)
              clear BK104
              clear HB
              have BK104 := n0_
              have HB := n1_
              clear n0_ n1_
              (try clear hb)
              (try clear hb2)
              (try clear hk)
              (try clear hi)
              refine hK.out _ _ ⟨(blk_cell BK104.out 0).trans rfl, (blk_cell BK104.out 1).trans rfl, (blk_cell BK104.out 2).trans rfl, (blk_cell BK104.out 3).trans rfl, (blk_cell BK104.out 4).trans rfl, (blk_cell BK104.out 5).trans rfl, (blk_cell BK104.out 6).trans rfl, (blk_cell BK104.out 7).trans rfl, (blk_cell BK104.out 8).trans rfl, (blk_cell BK104.out 9).trans rfl, (blk_cell BK104.out 10).trans rfl, (blk_cell BK104.out 11).trans rfl⟩ (fun hHeld => ?_)
              clear hK K
              refine norm_ (a' := ?_) ?_ ?_
              rotate_left
              · show Act.put _ (some 25) _ = _
                simp only [Act.put, List.setIfInBounds_toArray, List.set_cons_zero, List.set_cons_succ, i64_w, i32_w]
                rfl
              refine pure_ (i := 17) (N := some 26) (v := ?_) (a' := ?_) #[true, true, true, true, true, true, true, true, true, true, true, true, true, true, true, true, true, true, false] rfl rfl (any_of HT_.out (by kernel_rfl)) (fun _ _ _ h => h) (Or.inl ⟨by rfl, ?_⟩) ?_ ?_
              rotate_left
              · intro w'
                go_simp
                with_reducible rfl
              rotate_left
              · simp only [Act.put, List.setIfInBounds_toArray, List.set_cons_zero, List.set_cons_succ, i64_w, i32_w]
                rfl
              refine pure_ (i := 18) (N := some 3) (v := ?_) (a' := ?_) #[true, true, true, true, true, true, true, true, true, true, true, true, true, true, true, true, true, true, true] rfl rfl (any_of HT_.out (by kernel_rfl)) (fun _ _ _ h => h) (Or.inl ⟨by rfl, ?_⟩) ?_ ?_
              rotate_left
              · intro w'
                go_simp
                with_reducible rfl
              rotate_left
              · simp only [Act.put, List.setIfInBounds_toArray, List.set_cons_zero, List.set_cons_succ, i64_w, i32_w]
                rfl
              refine done_ (done_of HT_.out (by kernel_rfl)) ?_
              have hcz79_0 : w78.cell? ⟨gb104, 0, none⟩ = some (.int .i64 a0_0) := (blk_cell BK104.out 0).trans rfl
              have hcz79_1 : w78.cell? ⟨gb104, 1, none⟩ = some (.int .i64 a0_1) := (blk_cell BK104.out 1).trans rfl
              have hcz79_2 : w78.cell? ⟨gb104, 2, none⟩ = some (.int .i64 a0_2) := (blk_cell BK104.out 2).trans rfl
              have hcz79_3 : w78.cell? ⟨gb104, 3, none⟩ = some (.int .i64 a0_3) := (blk_cell BK104.out 3).trans rfl
              have hcz79_4 : w78.cell? ⟨gb104, 4, none⟩ = some (.int .i64 a0_4) := (blk_cell BK104.out 4).trans rfl
              have hcz79_5 : w78.cell? ⟨gb104, 5, none⟩ = some (.int .i64 a0_5) := (blk_cell BK104.out 5).trans rfl
              have hcz79_6 : w78.cell? ⟨gb104, 6, none⟩ = some (.bool a0_6) := (blk_cell BK104.out 6).trans rfl
              have hcz79_7 : w78.cell? ⟨gb104, 7, none⟩ = some (.bool false) := (blk_cell BK104.out 7).trans rfl
              have hcz79_8 : w78.cell? ⟨gb104, 8, none⟩ = some (.int .i64 a0_8) := (blk_cell BK104.out 8).trans rfl
              have hcz79_9 : w78.cell? ⟨gb104, 9, none⟩ = some (.int .i64 a0_9) := (blk_cell BK104.out 9).trans rfl
              have hcz79_10 : w78.cell? ⟨gb104, 10, none⟩ = some (.int .i64 a0_10) := (blk_cell BK104.out 10).trans rfl
              have hcz79_11 : w78.cell? ⟨gb104, 11, none⟩ = some (.int .i64 a0_11) := (blk_cell BK104.out 11).trans rfl
              have hfz79_0 := blk_frozen BK104.out 0
              have hfz79_1 := blk_frozen BK104.out 1
              have hfz79_2 := blk_frozen BK104.out 2
              have hfz79_3 := blk_frozen BK104.out 3
              have hfz79_4 := blk_frozen BK104.out 4
              have hfz79_5 := blk_frozen BK104.out 5
              have hfz79_6 := blk_frozen BK104.out 6
              have hfz79_7 := blk_frozen BK104.out 7
              have hfz79_8 := blk_frozen BK104.out 8
              have hfz79_9 := blk_frozen BK104.out 9
              have hfz79_10 := blk_frozen BK104.out 10
              have hfz79_11 := blk_frozen BK104.out 11
              try go_wp2
              go_ret
              exact ⟨by first | rfl | (simp [errW_none, errW_some] <;> rfl) | (simp [*, errW_none, errW_some] <;> rfl), by repeat (first | (with_reducible first | exact HB.out | apply below_alloc | apply pw_below_drewN | apply below_drew1 | refine below_set ?_ GE104.out) | exact HB.out)⟩
          · rw [if_neg c10] at H
            exact absurd H (by simp)
        · rw [if_neg c8] at H
          exact absurd H (by simp)
      · rw [if_neg c7] at H
        exact absurd H (by simp)
    · rw [if_neg c5] at H
      exact absurd H (by simp)
  · rw [if_neg c4] at H
    exact absurd H (by simp)

end Go.Proofs.Ytmhngpihkaignaa.PFnIOValid
