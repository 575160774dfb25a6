/- The plain side of the statements on times: what the definition's text of a time is as a list of bytes, and what the readers of digits and of one byte make of a list; for every time whose parts lie in their ranges. -/
import Derived.Test.YtmhngpihkaignaaPFnIOValidx3
import Derived.Lib.Strings
import Derived.OpenShut
namespace Go.Proofs.Ytmhngpihkaignaa.IoText
open Go.RowKit Go.Proofs.Ytmhngpihkaignaa.PFnIOValid Go.Proofs.YtmhngpihkaignaaW.PrintWords Go.Proofs.YtmhngpihkaignaaW.PrintLast
set_option linter.unusedVariables false
set_option linter.unusedSimpArgs false

theorem str_app (a b : List Int) : strOfNums a ++ strOfNums b = strOfNums (a ++ b) := by
  apply ByteArray.ext
  rw [ByteArray.data_append]
  simp [strOfNums]
theorem str_one (c : Int) (h0 : 0 ≤ c) (h1 : c < 256) : strOfNums [c] = ⟨#[UInt8.ofNat c.toNat]⟩ := rfl
/-- A byte's range. -/
def okB (l : List Int) : Prop := ∀ x ∈ l, 0 ≤ x ∧ x < 256
theorem byte_at (xs : List Int) (wf : okB xs) (i : Int) (h0 : 0 ≤ i) (h : i < xs.length) : bt (strOfNums xs) i = xs.getD i.toNat 0 := by
  have hi : i.toNat < xs.length := by omega
  have hsz : i.toNat < (strOfNums xs).size := by rw [strOfNums_size]; exact hi
  unfold bt
  rw [dif_pos hsz]
  have e : (strOfNums xs)[i.toNat]'hsz = UInt8.ofNat (xs[i.toNat]).toNat := by
    show (strOfNums xs).data[i.toNat] = _
    simp [strOfNums]
  rw [e]
  have := wf _ (List.getElem_mem hi)
  rw [List.getD_eq_getElem?_getD, List.getElem?_eq_getElem hi, Option.getD_some]
  simp only [UInt8.toNat_ofNat', Nat.reducePow]
  omega
theorem str_drop (a : List Int) (n : Nat) : (strOfNums a).extract n (strOfNums a).size = strOfNums (a.drop n) := by
  apply ByteArray.ext
  apply Array.toList_inj.mp
  rw [Lib.extract_data, strOfNums_size]
  simp only [strOfNums, List.map_drop]
  rw [List.take_of_length_le (by simp)]
/-- Is a byte a digit? -/
def dig (c : Int) : Bool := decide (48 ≤ c ∧ c ≤ 57)
theorem isDigit_is (c : Int) : iso8601_isDigit.f c = some (dig c) := by
  unfold iso8601_isDigit.f dig
  by_cases h : 48 ≤ c
  · rw [if_pos h]; simp [h]
  · rw [if_neg h]; simp [h]

/-- One byte is read. -/
theorem rb_ok (c : Int) (l : List Int) (h : okB (c :: l)) : iso8601_readByte.f (strOfNums (c :: l)) c = some (strOfNums l, true) := by
  unfold iso8601_readByte.f
  have hl : ((c :: l).length : Int) = l.length + 1 := by simp
  have e : bt (strOfNums (c :: l)) 0 = c := byte_at (c :: l) h 0 (by omega) (by omega)
  rw [strOfNums_size]
  rw [if_neg (by omega), if_pos (by omega), e, if_pos rfl, if_pos (by omega)]
  have := str_drop (c :: l) 1
  rw [strOfNums_size] at this
  rw [this]
  rfl
theorem rb_no (c c' : Int) (l : List Int) (h : okB (c' :: l)) (hne : c' ≠ c) : iso8601_readByte.f (strOfNums (c' :: l)) c = some (strOfNums (c' :: l), false) := by
  unfold iso8601_readByte.f
  have hl : ((c' :: l).length : Int) = l.length + 1 := by simp
  have e : bt (strOfNums (c' :: l)) 0 = c' := byte_at (c' :: l) h 0 (by omega) (by omega)
  rw [strOfNums_size]
  rw [if_neg (by omega), if_pos (by omega), e, if_neg hne]
theorem rb_nil (c : Int) : iso8601_readByte.f (strOfNums []) c = some (strOfNums [], false) := by
  unfold iso8601_readByte.f
  rw [strOfNums_size, if_pos (by simp)]

theorem wrap_up {i : Int} (h0 : 0 ≤ i) (h : i < 1000) : wrap64 (i + 1) = i + 1 := by
  unfold wrap64
  omega
/-- So many digits are read, from a place on. -/
theorem rd_loop (ds rest : List Int) (hd : ∀ x ∈ ds, dig x = true) (hok : okB (ds ++ rest)) (mn mx : Int) (hmn : mn ≤ ds.length) (hmx : (ds.length : Int) ≤ mx) (hlen : ds.length < 900)
    (hend : (ds.length : Int) = mx ∨ rest = [] ∨ ∃ c r, rest = c :: r ∧ dig c = false) (d : Nat) : ∀ (k : Nat) (i : Int), 0 ≤ i → i ≤ ds.length → (ds.length : Int) - i = d → d + 1 < k →
    iso8601_readDigits.l0 k (strOfNums (ds ++ rest)) mn mx i = some (strOfNums rest, true) := by
  have hdrop : (strOfNums (ds ++ rest)).extract ds.length (strOfNums (ds ++ rest)).size = strOfNums rest := by
    rw [str_drop]; simp
  induction d with
  | zero =>
    intro k i h0 h1 hdd hk
    obtain ⟨k, rfl⟩ : ∃ m, k = m + 1 := ⟨k - 1, by omega⟩
    obtain rfl : i = (ds.length : Int) := by omega
    have hsz : ((strOfNums (ds ++ rest)).size : Int) = (ds.length : Int) + rest.length := by rw [strOfNums_size]; simp
    have en : ((ds.length : Int)).toNat = ds.length := by omega
    rw [iso8601_readDigits.l0, en, hdrop]
    by_cases hm : (ds.length : Int) < mx
    · rw [if_pos hm]
      rcases hend with he | he | ⟨c, r, he, hc⟩
      · omega
      · subst he
        rw [if_neg (by rw [hsz]; simp), if_neg (by omega), if_pos (by omega), if_pos (by rw [hsz]; simp)]
      · subst he
        rw [if_pos (by rw [hsz]; simp; omega), if_pos (by omega)]
        rw [byte_at _ hok _ (by omega) (by simp; omega), en, isDigit_is]
        have : (ds ++ c :: r).getD ds.length 0 = c := by simp
        rw [this, hc]
        simp only [Option.bind_some]
        rw [if_neg (by simp), if_neg (by omega), if_pos (by rw [hsz]; simp; omega)]
    · rw [if_neg hm, if_pos (by omega), if_pos (by rw [hsz]; omega)]
  | succ d ih =>
    intro k i h0 h1 hdd hk
    obtain ⟨k, rfl⟩ : ∃ m, k = m + 1 := ⟨k - 1, by omega⟩
    have hsz : ((strOfNums (ds ++ rest)).size : Int) = (ds.length : Int) + rest.length := by rw [strOfNums_size]; simp
    have hlt : i < (ds.length : Int) := by omega
    rw [iso8601_readDigits.l0, if_pos (by omega), if_pos (by omega), if_pos h0]
    rw [byte_at _ hok _ h0 (by simp; omega), isDigit_is]
    have hg : (ds ++ rest).getD i.toNat 0 ∈ ds := by
      rw [List.getD_eq_getElem?_getD, List.getElem?_append_left (by omega), List.getElem?_eq_getElem (by omega)]
      exact List.getElem_mem _
    rw [hd _ hg]
    simp only [Option.bind_some]
    rw [if_pos trivial, wrap_up h0 (by omega)]
    exact ih k (i + 1) (by omega) (by omega) (by omega) (by omega)
theorem rd_ok (ds rest : List Int) (hd : ∀ x ∈ ds, dig x = true) (hok : okB (ds ++ rest)) (mn mx : Int) (hmn : mn ≤ ds.length) (hmx : (ds.length : Int) ≤ mx) (hlen : ds.length < 900)
    (hend : (ds.length : Int) = mx ∨ rest = [] ∨ ∃ c r, rest = c :: r ∧ dig c = false) (k : Nat) (hk : ds.length + 1 < k) :
    iso8601_readDigits.f k (strOfNums (ds ++ rest)) mn mx = some (strOfNums rest, true) := by
  unfold iso8601_readDigits.f
  rw [if_neg (by rw [strOfNums_size]; simp; omega)]
  exact rd_loop ds rest hd hok mn mx hmn hmx hlen hend ds.length k 0 (by omega) (by omega) (by omega) hk
/-- Too few bytes, or a byte that is no digit too early: nothing is read. -/
theorem rd_short (l : List Int) (mn mx : Int) (h : (l.length : Int) < mn) (k : Nat) : iso8601_readDigits.f k (strOfNums l) mn mx = some (strOfNums l, false) := by
  unfold iso8601_readDigits.f
  rw [if_pos (by rw [strOfNums_size]; exact h)]
theorem rd_bad_loop (ds rest : List Int) (c : Int) (hd : ∀ x ∈ ds, dig x = true) (hc : dig c = false) (hok : okB (ds ++ c :: rest)) (mn mx : Int) (hmn : (ds.length : Int) < mn) (hmx : mn ≤ mx) (hlen : ds.length < 900)
    (d : Nat) : ∀ (k : Nat) (i : Int), 0 ≤ i → i ≤ ds.length → (ds.length : Int) - i = d → d + 1 < k →
    iso8601_readDigits.l0 k (strOfNums (ds ++ c :: rest)) mn mx i = some (strOfNums (ds ++ c :: rest), false) := by
  have hsz : ((strOfNums (ds ++ c :: rest)).size : Int) = (ds.length : Int) + rest.length + 1 := by rw [strOfNums_size]; simp; omega
  induction d with
  | zero =>
    intro k i h0 h1 hdd hk
    obtain ⟨k, rfl⟩ : ∃ m, k = m + 1 := ⟨k - 1, by omega⟩
    obtain rfl : i = (ds.length : Int) := by omega
    have en : ((ds.length : Int)).toNat = ds.length := by omega
    rw [iso8601_readDigits.l0, if_pos (by omega), if_pos (by omega), if_pos (by omega)]
    rw [byte_at _ hok _ (by omega) (by simp; omega), en, isDigit_is]
    have : (ds ++ c :: rest).getD ds.length 0 = c := by simp
    rw [this, hc]
    simp only [Option.bind_some]
    rw [if_neg (by simp), if_pos (by omega)]
  | succ d ih =>
    intro k i h0 h1 hdd hk
    obtain ⟨k, rfl⟩ : ∃ m, k = m + 1 := ⟨k - 1, by omega⟩
    have hlt : i < (ds.length : Int) := by omega
    rw [iso8601_readDigits.l0, if_pos (by omega), if_pos (by omega), if_pos h0]
    rw [byte_at _ hok _ h0 (by simp; omega), isDigit_is]
    have hg : (ds ++ c :: rest).getD i.toNat 0 ∈ ds := by
      rw [List.getD_eq_getElem?_getD, List.getElem?_append_left (by omega), List.getElem?_eq_getElem (by omega)]
      exact List.getElem_mem _
    rw [hd _ hg]
    simp only [Option.bind_some]
    rw [if_pos trivial, wrap_up h0 (by omega)]
    exact ih k (i + 1) (by omega) (by omega) (by omega) (by omega)
theorem rd_bad (ds rest : List Int) (c : Int) (hd : ∀ x ∈ ds, dig x = true) (hc : dig c = false) (hok : okB (ds ++ c :: rest)) (mn mx : Int) (hmn : (ds.length : Int) < mn) (hmx : mn ≤ mx) (hlen : ds.length < 900)
    (k : Nat) (hk : ds.length + 1 < k) : iso8601_readDigits.f k (strOfNums (ds ++ c :: rest)) mn mx = some (strOfNums (ds ++ c :: rest), false) := by
  unfold iso8601_readDigits.f
  by_cases h : ((strOfNums (ds ++ c :: rest)).size : Int) < mn
  · rw [if_pos h]
  · rw [if_neg h]
    exact rd_bad_loop ds rest c hd hc hok mn mx hmn hmx hlen ds.length k 0 (by omega) (by omega) (by omega) hk
end Go.Proofs.Ytmhngpihkaignaa.IoText
