/- Texts are told as valid, and as such that can be printed, as the definition says, as bytes and as texts; for every text, with no condition. -/
import Derived.Test.YtmhngpihkaignaaMFnASValidx2
import Derived.Laws.BitsLemmas
import Derived.OpenShut
import Derived.Lib.Strings
namespace Go.Proofs.Ytmhngpihkaignaa.Pure
open Go.RowKit Go.Proofs.Ytmhngpihkaignaa.PFnASValid Go.Proofs.YtmhngpihkaignaaW.PrintWords Go.Proofs.YtmhngpihkaignaaW.PrintLast

set_option linter.unusedVariables false
set_option linter.unusedSimpArgs false
theorem wf8 {a : Int} (h : (Lit.int .u8 a).wf = true) : 0 ≤ a ∧ a < 256 := by
  have := bounds_u8 h
  omega
theorem wrap_up {i : Int} {n : Nat} (h0 : 0 ≤ i) (h : i < (n : Int)) (hn : n ≤ 140737488351232) : wrap64 (i + 1) = i + 1 := by
  unfold wrap64
  omega
theorem byte_str (xs : List Int) (wf : ∀ x ∈ xs, 0 ≤ x ∧ x < 256) (i : Int) (h0 : 0 ≤ i) (h : i < xs.length) : bt (strOfNums xs) i = rd xs i := by
  have hi : i.toNat < xs.length := by omega
  have hsz : i.toNat < (strOfNums xs).size := by rw [strOfNums_size]; exact hi
  unfold bt rd
  rw [dif_pos hsz]
  have e : (strOfNums xs)[i.toNat]'hsz = UInt8.ofNat (xs[i.toNat]).toNat := by
    show (strOfNums xs).data[i.toNat] = _
    simp [strOfNums]
  rw [e]
  have := wf _ (List.getElem_mem hi)
  rw [List.getD_eq_getElem?_getD, List.getElem?_eq_getElem hi, Option.getD_some]
  simp only [UInt8.toNat_ofNat', Nat.reducePow]
  omega

theorem valid_pair (xs : List Int) (wf : ∀ x ∈ xs, 0 ≤ x ∧ x < 256) (hn : xs.length ≤ 140737488351232) (d : Nat) : ∀ (k : Nat) (i : Int), 0 ≤ i → i ≤ xs.length → (xs.length : Int) - i = d → d < k →
    ∃ b, ascii_ValidString_65.l0 k (strOfNums xs) i = some b ∧ spec_ASValid.l0 k xs i = some b := by
  induction d with
  | zero =>
    intro k i h0 h1 hd hk
    obtain ⟨k, rfl⟩ : ∃ m, k = m + 1 := ⟨k - 1, by omega⟩
    refine ⟨true, ?_, ?_⟩
    · simp only [ascii_ValidString_65.l0]; rw [if_neg (by rw [strOfNums_size]; omega)]
    · simp only [spec_ASValid.l0]; rw [if_neg (by omega)]
  | succ d ih =>
    intro k i h0 h1 hd hk
    obtain ⟨k, rfl⟩ : ∃ m, k = m + 1 := ⟨k - 1, by omega⟩
    have hlt : i < (xs.length : Int) := by omega
    have e := byte_str xs wf i h0 hlt
    have hw := wrap_up h0 hlt hn
    obtain ⟨b, hb1, hb2⟩ := ih k (i + 1) (by omega) (by omega) (by omega) (by omega)
    by_cases c : rd xs i ≤ 127
    · refine ⟨b, ?_, ?_⟩
      · simp only [ascii_ValidString_65.l0, ascii_ValidByte.f]; rw [if_pos (by rw [strOfNums_size]; exact hlt), if_pos h0, e]; simp only [Option.bind_some]; rw [if_pos (decide_eq_true c), hw]; exact hb1
      · simp only [spec_ASValid.l0]; rw [if_pos hlt, if_pos h0, if_neg (by omega), hw]; exact hb2
    · refine ⟨false, ?_, ?_⟩
      · simp only [ascii_ValidString_65.l0, ascii_ValidByte.f]; rw [if_pos (by rw [strOfNums_size]; exact hlt), if_pos h0, e]; simp only [Option.bind_some]; rw [if_neg (by simp; omega)]
      · simp only [spec_ASValid.l0]; rw [if_pos hlt, if_pos h0, if_pos (by omega)]
theorem print_pair (xs : List Int) (wf : ∀ x ∈ xs, 0 ≤ x ∧ x < 256) (hn : xs.length ≤ 140737488351232) (d : Nat) : ∀ (k : Nat) (i : Int), 0 ≤ i → i ≤ xs.length → (xs.length : Int) - i = d → d < k →
    ∃ b, ascii_ValidPrintString_67.l0 k (strOfNums xs) i = some b ∧ spec_ASPrint.l0 k xs i = some b := by
  induction d with
  | zero =>
    intro k i h0 h1 hd hk
    obtain ⟨k, rfl⟩ : ∃ m, k = m + 1 := ⟨k - 1, by omega⟩
    refine ⟨true, ?_, ?_⟩
    · simp only [ascii_ValidPrintString_67.l0]; rw [if_neg (by rw [strOfNums_size]; omega)]
    · simp only [spec_ASPrint.l0]; rw [if_neg (by omega)]
  | succ d ih =>
    intro k i h0 h1 hd hk
    obtain ⟨k, rfl⟩ : ∃ m, k = m + 1 := ⟨k - 1, by omega⟩
    have hlt : i < (xs.length : Int) := by omega
    have e := byte_str xs wf i h0 hlt
    have hw := wrap_up h0 hlt hn
    obtain ⟨b, hb1, hb2⟩ := ih k (i + 1) (by omega) (by omega) (by omega) (by omega)
    by_cases c0 : 32 ≤ rd xs i
    · by_cases c : rd xs i ≤ 126
      · refine ⟨b, ?_, ?_⟩
        · simp only [ascii_ValidPrintString_67.l0, ascii_ValidPrintByte.f]; rw [if_pos (by rw [strOfNums_size]; exact hlt), if_pos h0, e, if_pos c0]; simp only [Option.bind_some]; rw [if_pos (decide_eq_true c), hw]; exact hb1
        · simp only [spec_ASPrint.l0]; rw [if_pos hlt, if_pos h0, if_neg (by omega), if_neg (by omega), hw]; exact hb2
      · refine ⟨false, ?_, ?_⟩
        · simp only [ascii_ValidPrintString_67.l0, ascii_ValidPrintByte.f]; rw [if_pos (by rw [strOfNums_size]; exact hlt), if_pos h0, e, if_pos c0]; simp only [Option.bind_some]; rw [if_neg (by simp; omega)]
        · simp only [spec_ASPrint.l0]; rw [if_pos hlt, if_pos h0, if_neg (by omega), if_pos (by omega)]
    · refine ⟨false, ?_, ?_⟩
      · simp only [ascii_ValidPrintString_67.l0, ascii_ValidPrintByte.f]; rw [if_pos (by rw [strOfNums_size]; exact hlt), if_pos h0, e, if_neg c0]; simp
      · simp only [spec_ASPrint.l0]; rw [if_pos hlt, if_pos h0, if_pos (by omega)]

/-- The plain statement: ∀ (l0 : List Int), l0.length ≤ maxLen → l0.length * 1 ≤ 140737488351232 → (∀ x ∈ l0, (Lit.int .u8 x).wf = true) → ∃ k, laws_FnASValid.f k l0 = some true
What it reaches (each with k first where it has rounds; `.mono`: more rounds tell the same; `.l0`, ..: its loops, with `.mono_l`): ascii_lower.f, ascii_EqualFoldString_63.f, ascii_EqualFoldString_42.f, ascii_EqualFold_64.f, ascii_EqualFold_43.f, impl_ASFold.f, ascii_ValidByte.f, ascii_ValidString_65.f, ascii_ValidString_45.f, ascii_Valid_66.f, ascii_Valid_46.f, impl_ASValid.f, ascii_ValidPrintByte.f, ascii_ValidPrintString_67.f, ascii_ValidPrintString_47.f, ascii_ValidPrint_68.f, ascii_ValidPrint_48.f, impl_ASPrint.f, laws_asAwake.f, laws_asFew.f, spec_ASValid.f, spec_ASPrint.f, laws_FnASValid.f -/
theorem FnASValid : laws_FnASValid.Pure := by
  intro l0 _ _ wf
  unfold laws_FnASValid.f
  by_cases big : (l0.length : Int) > 2147483647
  · exact ⟨0, by rw [if_pos big]⟩
  · have hm : 0 ≤ mn (l0.length : Int) 100 ∧ mn (l0.length : Int) 100 ≤ l0.length ∧ mn (l0.length : Int) 100 ≤ 100 := by unfold mn; split <;> omega
    have hfew : laws_asFew.f l0 = some (l0.take (mn (l0.length : Int) 100).toNat) := by
      unfold laws_asFew.f; rw [if_pos hm.1, if_pos hm.2.1]
    obtain ⟨xs, hxs⟩ : ∃ xs, l0.take (mn (l0.length : Int) 100).toNat = xs := ⟨_, rfl⟩
    have hlen : xs.length ≤ 100 := by rw [← hxs, List.length_take]; omega
    have hwf : ∀ x ∈ xs, 0 ≤ x ∧ x < 256 := fun x hx => wf8 (wf x (List.mem_of_mem_take (by rw [hxs]; exact hx)))
    have va : ∀ k, 110 ≤ k → ∃ b, (∀ t, impl_ASValid.f k xs t = some b) ∧ spec_ASValid.f k xs = some b := fun k hk => by
      obtain ⟨b, h1, h2⟩ := valid_pair xs hwf (by omega) xs.length k 0 (by omega) (by omega) (by omega) (by omega)
      refine ⟨b, fun t => ?_, h2⟩
      unfold impl_ASValid.f ascii_ValidString_45.f ascii_Valid_46.f ascii_Valid_66.f ascii_ValidString_65.f
      rw [h1]; cases t <;> rfl
    have pr : ∀ k, 110 ≤ k → ∃ b, (∀ t, impl_ASPrint.f k xs t = some b) ∧ spec_ASPrint.f k xs = some b := fun k hk => by
      obtain ⟨b, h1, h2⟩ := print_pair xs hwf (by omega) xs.length k 0 (by omega) (by omega) (by omega) (by omega)
      refine ⟨b, fun t => ?_, h2⟩
      unfold impl_ASPrint.f ascii_ValidPrintString_47.f ascii_ValidPrint_48.f ascii_ValidPrint_68.f ascii_ValidPrintString_67.f
      rw [h1]; cases t <;> rfl
    have aw : laws_asAwake.f 110 = some true := by decide +kernel
    refine ⟨113, ?_⟩
    rw [if_neg big, hfew, hxs]
    simp only [Option.bind_some]
    obtain ⟨b2, v2, s2⟩ := va 112 (by omega)
    obtain ⟨p2, w2, u2⟩ := pr 112 (by omega)
    obtain ⟨b1, v1, s1⟩ := va 111 (by omega)
    obtain ⟨p1, w1, u1⟩ := pr 111 (by omega)
    have z1 : wrap64 (0 + 1) = 1 := by unfold wrap64; decide
    have z2 : wrap64 (1 + 1) = 2 := by unfold wrap64; decide
    show laws_FnASValid.l0 (112 + 1) xs [false, true] 2 0 = some true
    rw [laws_FnASValid.l0, if_pos (by decide), if_pos (by decide), if_pos (by decide), v2, s2]
    simp only [Option.bind_some]
    rw [if_neg (by simp), w2, u2]
    simp only [Option.bind_some]
    rw [if_neg (by simp), z1]
    show laws_FnASValid.l0 (111 + 1) xs [false, true] 2 1 = some true
    rw [laws_FnASValid.l0, if_pos (by decide), if_pos (by decide), if_pos (by decide), v1, s1]
    simp only [Option.bind_some]
    rw [if_neg (by simp), w1, u1]
    simp only [Option.bind_some]
    rw [if_neg (by simp), z2]
    show laws_FnASValid.l0 (110 + 1) xs [false, true] 2 2 = some true
    rw [laws_FnASValid.l0, if_neg (by decide), aw]
    rfl

end Go.Proofs.Ytmhngpihkaignaa.Pure
