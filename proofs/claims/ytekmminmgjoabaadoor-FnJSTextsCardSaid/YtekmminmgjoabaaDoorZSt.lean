/- What a string's text means, in plain Lean: its runes encoded anew, its escapes as the signs they stand for. A slice of bytes that the call makes itself: it lies in a block of its own; what is appended to it. A text is put behind an own row rune by rune, each encoded anew. utf16.IsSurrogate, utf16.DecodeRune, the prefix of an escape; bytes that are copied; a rune put behind an own row. What stands at the head of a string's inside: the part up to the first backslash, and what is behind it. -/
import Derived.Test.YtekmminmgjoabaaDoorZKa
import Derived.Laws.BytesArg
import Derived.Lib.RuneBytes
import Derived.Test.YtekmminmgjoabaaDoorZSa
import Derived.Test.YtekmminmgjoabaaDoorZJsRune
import Derived.Maps.AppendAt
import Derived.Lib.OthersKept
import Derived.WalkSmall
import Derived.Test.YtekmminmgjoabaaDoorZSp
namespace Go.Proofs.YtekmminmgjoabaaDoor.Js
open Go.RowKit
set_option linter.unusedVariables false
set_option linter.unusedSimpArgs false
theorem dec1 (s : ByteArray) (i b0 : Nat) (h0 : (s.get! (i + 0)).toNat = b0) (c0 : b0 < 128) : Utf8.decode s i = (b0, 1) := by
  simp only [Utf8.decode, h0]
  rw [if_pos c0]
theorem dec2 (s : ByteArray) (i b0 b1 : Nat) (h0 : (s.get! (i + 0)).toNat = b0) (h1 : (s.get! (i + 1)).toNat = b1) (hs : i + 1 < s.size) (c0 : 192 ≤ b0 ∧ b0 < 224) (c1 : 128 ≤ b1 ∧ b1 < 192) (c : 128 ≤ (b0 % 32) * 64 + b1 % 64) : Utf8.decode s i = ((b0 % 32) * 64 + b1 % 64, 2) := by
  simp only [Utf8.decode, h0, h1]
  rw [if_neg (by omega), if_pos (by simp only [Bool.and_eq_true, beq_iff_eq, decide_eq_true_eq]; omega), if_pos (by omega)]
theorem valid_nat (c : Nat) (h : c < 55296 ∨ (57344 ≤ c ∧ c < 1114112)) : Utf8.valid (c : Int) = true := by
  simp only [Utf8.valid, Bool.or_eq_true, Bool.and_eq_true, decide_eq_true_eq]
  omega
theorem dec3 (s : ByteArray) (i b0 b1 b2 : Nat) (h0 : (s.get! (i + 0)).toNat = b0) (h1 : (s.get! (i + 1)).toNat = b1) (h2 : (s.get! (i + 2)).toNat = b2) (hs : i + 2 < s.size) (c0 : 224 ≤ b0 ∧ b0 < 240) (c1 : 128 ≤ b1 ∧ b1 < 192) (c2 : 128 ≤ b2 ∧ b2 < 192)
    (c : 2048 ≤ (b0 % 16) * 4096 + (b1 % 64) * 64 + b2 % 64) (hv : (b0 % 16) * 4096 + (b1 % 64) * 64 + b2 % 64 < 55296 ∨ 57344 ≤ (b0 % 16) * 4096 + (b1 % 64) * 64 + b2 % 64) : Utf8.decode s i = ((b0 % 16) * 4096 + (b1 % 64) * 64 + b2 % 64, 3) := by
  simp only [Utf8.decode, h0, h1, h2]
  rw [if_neg (by omega), if_neg (by simp only [Bool.and_eq_true, beq_iff_eq, decide_eq_true_eq]; omega), if_pos (by simp only [Bool.and_eq_true, beq_iff_eq, decide_eq_true_eq]; omega), if_pos (by rw [valid_nat _ (by omega)]; simp only [Bool.and_true, decide_eq_true_eq]; omega)]
theorem dec4 (s : ByteArray) (i b0 b1 b2 b3 : Nat) (h0 : (s.get! (i + 0)).toNat = b0) (h1 : (s.get! (i + 1)).toNat = b1) (h2 : (s.get! (i + 2)).toNat = b2) (h3 : (s.get! (i + 3)).toNat = b3) (hs : i + 3 < s.size) (c0 : 240 ≤ b0 ∧ b0 < 248) (c1 : 128 ≤ b1 ∧ b1 < 192) (c2 : 128 ≤ b2 ∧ b2 < 192) (c3 : 128 ≤ b3 ∧ b3 < 192)
    (c : 65536 ≤ (b0 % 8) * 262144 + (b1 % 64) * 4096 + (b2 % 64) * 64 + b3 % 64) (hv : (b0 % 8) * 262144 + (b1 % 64) * 4096 + (b2 % 64) * 64 + b3 % 64 < 1114112) : Utf8.decode s i = ((b0 % 8) * 262144 + (b1 % 64) * 4096 + (b2 % 64) * 64 + b3 % 64, 4) := by
  simp only [Utf8.decode, h0, h1, h2, h3]
  rw [if_neg (by omega), if_neg (by simp only [Bool.and_eq_true, beq_iff_eq, decide_eq_true_eq]; omega), if_neg (by simp only [Bool.and_eq_true, beq_iff_eq, decide_eq_true_eq]; omega), if_pos (by simp only [Bool.and_eq_true, beq_iff_eq, decide_eq_true_eq]; omega), if_pos (by rw [valid_nat _ (by omega)]; simp only [Bool.and_true, decide_eq_true_eq]; omega)]
/-- A byte that opens nothing. -/
theorem decX (s : ByteArray) (i b0 : Nat) (h0 : (s.get! (i + 0)).toNat = b0) (c0 : 128 ≤ b0 ∧ b0 < 192) : Utf8.decode s i = (65533, 1) := by
  simp only [Utf8.decode, h0]
  rw [if_neg (by omega), if_neg (by simp only [Bool.and_eq_true, beq_iff_eq, decide_eq_true_eq]; omega), if_neg (by simp only [Bool.and_eq_true, beq_iff_eq, decide_eq_true_eq]; omega), if_neg (by simp only [Bool.and_eq_true, beq_iff_eq, decide_eq_true_eq]; omega)]
  rfl
theorem str_size (x : List Int) : (strOfNums x).size = x.length := by simp [strOfNums, ByteArray.size]
theorem str_get (x : List Int) (hb : Bytes x) (i : Nat) (hi : i < x.length) : ((strOfNums x).get! i).toNat = (x.getD i 0).toNat := by
  have h1 : (strOfNums x).get! i = UInt8.ofNat (x[i]'hi).toNat := by
    simp [strOfNums, ByteArray.get!, hi]
  have h2 := hb _ (List.getElem_mem hi)
  rw [h1, List.getD_eq_getElem?_getD, List.getElem?_eq_getElem hi]
  simp only [Option.getD_some, UInt8.toNat_ofNat']
  omega
theorem str_get_mid (a b c : List Int) (hb : Bytes (a ++ (b ++ c))) (k : Nat) (hk : k < b.length) (n : Nat) (hn : (b.getD k 0).toNat = n) : ((strOfNums (a ++ (b ++ c))).get! (a.length + k)).toNat = n := by
  rw [str_get _ hb _ (by simp only [List.length_append]; omega), getD_right, getD_left _ _ _ hk, hn]
theorem isHalf_no {r : Int} (h : isHalf r = false) : r < 55296 ∨ 57344 ≤ r := by
  unfold isHalf at h
  simp only [Bool.and_eq_false_iff, decide_eq_false_iff_not] at h
  omega
theorem dec_rune (a b : List Int) (r : Int) (h0 : 0 ≤ r) (h1 : r < 1114112) (hh : isHalf r = false) (hb : Bytes (a ++ (runeF r ++ b))) : Utf8.decode (strOfNums (a ++ (runeF r ++ b))) a.length = (r.toNat, (runeF r).length) := by
  have hs : (strOfNums (a ++ (runeF r ++ b))).size = a.length + ((runeF r).length + b.length) := by rw [str_size]; simp
  have hx := isHalf_no hh
  obtain ⟨m, rfl⟩ : ∃ m : Nat, r = (m : Int) := ⟨r.toNat, by omega⟩
  have g := fun k hk n hn => str_get_mid a (runeF (m : Int)) b hb k hk n hn
  by_cases c1 : m < 128
  · have e : runeF (m : Int) = [(m : Int)] := by unfold runeF; rw [if_pos (by omega)]
    rw [e] at g hs ⊢
    rw [dec1 _ _ m (g 0 (by simp) m (by simp)) c1]
    simp
  by_cases c2 : m < 2048
  · have e : runeF (m : Int) = [192 + (m : Int) / 64, 128 + (m : Int) % 64] := by unfold runeF; rw [if_neg (by omega), if_pos (by omega)]
    rw [e] at g hs ⊢
    rw [dec2 _ _ (192 + m / 64) (128 + m % 64) (g 0 (by simp) _ (by simp; omega)) (g 1 (by simp) _ (by simp; omega)) (by rw [hs]; simp; omega) (by omega) (by omega) (by omega)]
    simp; omega
  by_cases c3 : m < 65536
  · have e : runeF (m : Int) = [224 + (m : Int) / 4096, 128 + (m : Int) / 64 % 64, 128 + (m : Int) % 64] := by unfold runeF; rw [if_neg (by omega), if_neg (by omega), if_pos (by omega)]
    rw [e] at g hs ⊢
    rw [dec3 _ _ (224 + m / 4096) (128 + m / 64 % 64) (128 + m % 64) (g 0 (by simp) _ (by simp; omega)) (g 1 (by simp) _ (by simp; omega)) (g 2 (by simp) _ (by simp; omega)) (by rw [hs]; simp; omega) (by omega) (by omega) (by omega) (by omega) (by omega)]
    simp; omega
  · have e : runeF (m : Int) = [240 + (m : Int) / 262144, 128 + (m : Int) / 4096 % 64, 128 + (m : Int) / 64 % 64, 128 + (m : Int) % 64] := by unfold runeF; rw [if_neg (by omega), if_neg (by omega), if_neg (by omega)]
    rw [e] at g hs ⊢
    rw [dec4 _ _ (240 + m / 262144) (128 + m / 4096 % 64) (128 + m / 64 % 64) (128 + m % 64) (g 0 (by simp) _ (by simp; omega)) (g 1 (by simp) _ (by simp; omega)) (g 2 (by simp) _ (by simp; omega)) (g 3 (by simp) _ (by simp; omega)) (by rw [hs]; simp; omega) (by omega) (by omega) (by omega) (by omega) (by omega) (by omega)]
    simp; omega
theorem enc_rune (r : Int) (h0 : 0 ≤ r) (h1 : r < 1114112) (hh : isHalf r = false) : Lib.encodeRuneZ r = runeF r := by
  have hx := isHalf_no hh
  by_cases c1 : r < 128
  · rw [Lib.encodeRuneZ_one h0 (by omega)]; unfold runeF; rw [if_pos c1]
  by_cases c2 : r < 2048
  · rw [Lib.encodeRuneZ_two (by omega) (by omega)]; unfold runeF; rw [if_neg c1, if_pos c2]
  by_cases c3 : r < 65536
  · rw [Lib.encodeRuneZ_three (by omega)]; unfold runeF; rw [if_neg c1, if_neg c2, if_pos c3]
  · rw [Lib.encodeRuneZ_four (by omega) (by omega)]; unfold runeF; rw [if_neg c1, if_neg c2, if_neg c3]
theorem rune_pos (r : Int) : 1 ≤ (runeF r).length ∧ (runeF r).length ≤ 4 := by
  unfold runeF
  split
  · simp
  split
  · simp
  split <;> simp
/-- Rune by rune, each encoded anew. -/
def coFrom (s : ByteArray) : Nat → Nat → List Int
  | 0, _ => []
  | fuel + 1, pos => if pos < s.size then Lib.encodeRuneZ (Utf8.decode s pos).1 ++ coFrom s fuel (pos + (Utf8.decode s pos).2) else []
/-- xs, rune by rune, is ys. -/
inductive Co : List Int → List Int → Prop
  | nil : Co [] []
  | rune {r : Int} {x y : List Int} : 0 ≤ r → r < 1114112 → isHalf r = false → Co x y → Co (runeF r ++ x) (runeF r ++ y)
  | odd {c : Int} {x y : List Int} : 128 ≤ c → c < 192 → Co x y → Co (c :: x) ([239, 191, 189] ++ y)
theorem co_from {x y : List Int} (h : Co x y) : ∀ (a : List Int) (fuel : Nat), x.length ≤ fuel → Bytes (a ++ x) → coFrom (strOfNums (a ++ x)) fuel a.length = y := by
  induction h with
  | nil =>
    intro a fuel _ hb
    cases fuel with
    | zero => rfl
    | succ f => unfold coFrom; rw [if_neg (by rw [str_size]; simp)]
  | @rune r x y h0 h1 hh hxy ih =>
    intro a fuel hf hb
    have hp := rune_pos r
    cases fuel with
    | zero => simp only [List.length_append] at hf; omega
    | succ f =>
      unfold coFrom
      rw [if_pos (by rw [str_size]; simp only [List.length_append]; omega), dec_rune a x r h0 h1 hh hb]
      have e : ((r.toNat : Nat) : Int) = r := by omega
      rw [e, enc_rune r h0 h1 hh]
      have := ih (a ++ runeF r) f (by simp only [List.length_append] at hf; omega) (by rw [List.append_assoc]; exact hb)
      rw [List.append_assoc, List.length_append] at this
      rw [this]
  | @odd c x y h0 h1 hxy ih =>
    intro a fuel hf hb
    cases fuel with
    | zero => simp at hf
    | succ f =>
      unfold coFrom
      have hd : Utf8.decode (strOfNums (a ++ c :: x)) a.length = (65533, 1) := decX _ _ c.toNat (str_get_mid a [c] x hb 0 (by simp) _ (by simp)) (by omega)
      rw [if_pos (by rw [str_size]; simp only [List.length_append, List.length_cons]; omega), hd]
      have := ih (a ++ [c]) f (by simp only [List.length_cons] at hf; omega) (by rw [List.append_assoc]; exact hb)
      rw [List.append_assoc, List.length_append] at this
      have e : Lib.encodeRuneZ ((65533 : Nat) : Int) = [239, 191, 189] := by decide
      show Lib.encodeRuneZ ((65533 : Nat) : Int) ++ coFrom _ f (a.length + 1) = _
      rw [e]
      exact congrArg _ this
theorem Co.eq {x y : List Int} (h : Co x y) (hb : Bytes x) : coFrom (strOfNums x) x.length 0 = y := co_from h [] x.length (Nat.le_refl _) hb
theorem Co.len {x y : List Int} (h : Co x y) : y.length ≤ 3 * x.length := by
  induction h with
  | nil => simp
  | @rune r x y _ _ _ _ ih => simp only [List.length_append]; omega
  | odd _ _ _ ih => simp only [List.length_append, List.length_cons, List.length_nil]; omega
theorem Co.ascii {c : Int} (h0 : 0 ≤ c) (h1 : c < 128) {x y : List Int} (h : Co x y) : Co (c :: x) (c :: y) := by
  have e : runeF c = [c] := by unfold runeF; rw [if_pos h1]
  have hh : isHalf c = false := by unfold isHalf; simp only [Bool.and_eq_false_iff, decide_eq_false_iff_not]; omega
  have := Co.rune h0 (by omega) hh h
  rw [e] at this
  exact this
theorem Co.letters {x : List Int} (h : ∀ c ∈ x, 0 ≤ c ∧ c < 128) : Co x x := by
  induction x with
  | nil => exact .nil
  | cons c x ih => exact Co.ascii (h c List.mem_cons_self).1 (h c List.mem_cons_self).2 (ih fun d hd => h d (List.mem_cons_of_mem _ hd))
theorem Co.append {x y x' y' : List Int} (h : Co x y) (h' : Co x' y') : Co (x ++ x') (y ++ y') := by
  induction h with
  | nil => exact h'
  | rune a b c _ ih => rw [List.append_assoc, List.append_assoc]; exact .rune a b c ih
  | odd a b _ ih => rw [List.append_assoc, List.cons_append]; exact .odd a b ih
/-- What an escape of one letter stands for. -/
def unesc (e : Int) : Int := if e = 110 then 10 else if e = 114 then 13 else if e = 116 then 9 else if e = 98 then 8 else if e = 102 then 12 else e
def IsEsc (e : Int) : Prop := e = 34 ∨ e = 92 ∨ e = 47 ∨ e = 110 ∨ e = 114 ∨ e = 116 ∨ e = 102 ∨ e = 98
/-- What four hexadecimal digits are. -/
def hexV (c : Int) : Int := if c ≤ 57 then c - 48 else if c ≤ 70 then c - 55 else c - 87
def hex4 (a b c d : Int) : Int := ((hexV a * 16 + hexV b) * 16 + hexV c) * 16 + hexV d
/-- The inside of a string and what it means. -/
inductive Unq : List Int → List Int → Prop
  | last {x y : List Int} : 92 ∉ x → Co x y → Unq x y
  | esc {x y l m : List Int} {e : Int} : 92 ∉ x → Co x y → IsEsc e → Unq l m → Unq (x ++ 92 :: e :: l) (y ++ unesc e :: m)
  | uni {x y l m : List Int} {a b c d : Int} : 92 ∉ x → Co x y → Hex a → Hex b → Hex c → Hex d → isHalf (hex4 a b c d) = false → Unq l m → Unq (x ++ 92 :: 117 :: a :: b :: c :: d :: l) (y ++ (runeF (hex4 a b c d) ++ m))
  | half {x y l m : List Int} {a b c d : Int} : 92 ∉ x → Co x y → Hex a → Hex b → Hex c → Hex d → isHalf (hex4 a b c d) = true → (∀ t, l ≠ 92 :: 117 :: t) → Unq l m → Unq (x ++ 92 :: 117 :: a :: b :: c :: d :: l) (y ++ ([239, 191, 189] ++ m))
  | pair {x y l m : List Int} {a b c d a' b' c' d' r : Int} : 92 ∉ x → Co x y → Hex a → Hex b → Hex c → Hex d → Hex a' → Hex b' → Hex c' → Hex d' → 65536 ≤ r → r < 1114112 → hex4 a b c d = 55296 + (r - 65536) / 1024 → hex4 a' b' c' d' = 56320 + (r - 65536) % 1024 → Unq l m →
      Unq (x ++ 92 :: 117 :: a :: b :: c :: d :: 92 :: 117 :: a' :: b' :: c' :: d' :: l) (y ++ (runeF r ++ m))
theorem Unq.raw {x y l m : List Int} (hx : 92 ∉ x) (hc : Co x y) (h : Unq l m) : Unq (x ++ l) (y ++ m) := by
  have hn : ∀ z : List Int, 92 ∉ z → 92 ∉ x ++ z := fun z hz hm => by
    rcases List.mem_append.1 hm with hm | hm
    · exact hx hm
    · exact hz hm
  cases h with
  | last a b => exact .last (hn _ a) (hc.append b)
  | esc a b c d => rw [← List.append_assoc, ← List.append_assoc]; exact .esc (hn _ a) (hc.append b) c d
  | uni a b c d e f g i => rw [← List.append_assoc, ← List.append_assoc]; exact .uni (hn _ a) (hc.append b) c d e f g i
  | half a b c d e f g i j => rw [← List.append_assoc, ← List.append_assoc]; exact .half (hn _ a) (hc.append b) c d e f g i j
  | pair a b c d e f c' d' e' f' g1 g2 g3 g4 i => rw [← List.append_assoc, ← List.append_assoc]; exact .pair (hn _ a) (hc.append b) c d e f c' d' e' f' g1 g2 g3 g4 i
theorem hexV_hexC (n : Int) (h0 : 0 ≤ n) (h1 : n < 16) (cap : Bool) : hexV (hexC n cap) = n := by
  unfold hexC hexV
  by_cases h : n < 10
  · rw [if_pos h, if_pos (by omega)]; omega
  · rw [if_neg h]
    cases cap
    · simp only [Bool.false_eq_true, if_false]
      rw [if_neg (by omega), if_neg (by omega)]; omega
    · simp only [if_true]
      rw [if_neg (by omega), if_pos (by omega)]; omega
theorem hex4_hexF (r : Int) (h0 : 0 ≤ r) (h1 : r < 65536) (cap : Bool) : hex4 (hexC (r / 4096 % 16) cap) (hexC (r / 256 % 16) cap) (hexC (r / 16 % 16) cap) (hexC (r % 16) cap) = r := by
  unfold hex4
  rw [hexV_hexC _ (by omega) (by omega), hexV_hexC _ (by omega) (by omega), hexV_hexC _ (by omega) (by omega), hexV_hexC _ (by omega) (by omega)]
  omega
theorem short_esc {r e : Int} (h : shortF r = some e) : IsEsc e ∧ unesc e = r ∧ 0 ≤ r ∧ r < 128 := by
  unfold shortF at h
  unfold IsEsc
  repeat' (first | (split at h) | (injection h with h; subst h; subst_vars; exact ⟨by decide, by decide, by decide, by decide⟩) | cases h)
theorem means_rune {r : Int} (h : isHalf r = false) : meansF r = runeF r := by
  unfold meansF
  rw [h]
  rfl
theorem means_half {r : Int} (h : isHalf r = true) : meansF r = [239, 191, 189] := by
  unfold meansF
  rw [h]
  rfl
theorem rune_one {r : Int} (h : r < 128) : runeF r = [r] := by unfold runeF; rw [if_pos h]
theorem small_no_half {r : Int} (h : r < 55296) : isHalf r = false := by unfold isHalf; simp only [Bool.and_eq_false_iff, decide_eq_false_iff_not]; omega
theorem rune_no92 {r : Int} (h0 : 0 ≤ r) (h : r ≠ 92) : 92 ∉ runeF r := by
  unfold runeF
  split
  · simp; omega
  split
  · simp; omega
  split
  · simp; omega
  · simp; omega
theorem esc_unq {r how : Int} {l m : List Int} (h0 : 0 ≤ r) (h1 : r < 1114112) (h : Unq l m) (hl : isHalf r = true → ∀ t, l ≠ 92 :: 117 :: t) : Unq (escF r how ++ l) (meansF r ++ m) := by
  unfold escF
  by_cases c1 : (shortF r).isSome = true ∧ how % 2 = 0
  · rw [if_pos c1]
    obtain ⟨e, he⟩ := Option.isSome_iff_exists.1 c1.1
    obtain ⟨g1, g2, g3, g4⟩ := short_esc he
    rw [he, means_rune (small_no_half (by omega)), rune_one g4]
    have := Unq.esc (x := []) (y := []) (by simp) .nil g1 h
    rw [g2] at this
    exact this
  rw [if_neg c1]
  by_cases c2 : mustF r = false ∧ 0 < how % 3
  · rw [if_pos c2]
    have hm := c2.1
    unfold mustF at hm
    simp only [Bool.or_eq_false_iff, beq_eq_false_iff_ne] at hm
    obtain ⟨⟨⟨-, -⟩, n92⟩, nh⟩ := hm
    rw [means_rune nh]
    refine Unq.raw (rune_no92 h0 n92) ?_ h
    have := Co.rune h0 h1 nh .nil
    rw [List.append_nil] at this
    exact this
  rw [if_neg c2]
  by_cases c3 : 65536 ≤ r
  · rw [if_pos c3, means_rune (by unfold isHalf; simp only [Bool.and_eq_false_iff, decide_eq_false_iff_not]; omega)]
    unfold hexF
    have hx : ∀ n cap, Hex (hexC (n % 16) cap) := fun n cap => hexC_hex (by omega) (by omega) cap
    exact Unq.pair (x := []) (y := []) (r := r) (by simp) .nil (hx _ _) (hx _ _) (hx _ _) (hx _ _) (hx _ _) (hx _ _) (hx _ _) (hx _ _) c3 h1 (hex4_hexF _ (by omega) (by omega) _) (hex4_hexF _ (by omega) (by omega) _) h
  rw [if_neg c3]
  have hx : ∀ n cap, Hex (hexC (n % 16) cap) := fun n cap => hexC_hex (by omega) (by omega) cap
  unfold hexF
  cases hh : isHalf r
  · rw [means_rune hh]
    have := Unq.uni (x := []) (y := []) (by simp) .nil (hx (r / 4096) (how % 5 == 0)) (hx (r / 256) (how % 5 == 0)) (hx (r / 16) (how % 5 == 0)) (hx r (how % 5 == 0)) (by rw [hex4_hexF r h0 (by omega)]; exact hh) h
    rw [hex4_hexF r h0 (by omega)] at this
    exact this
  · rw [means_half hh]
    exact Unq.half (x := []) (y := []) (by simp) .nil (hx (r / 4096) (how % 5 == 0)) (hx (r / 256) (how % 5 == 0)) (hx (r / 16) (how % 5 == 0)) (hx r (how % 5 == 0)) (by rw [hex4_hexF r h0 (by omega)]; exact hh) (hl hh) h
theorem signs_unq : ∀ (n : Nat) (code : List Int), Bytes code → Unq (signsF n code).1 (signsF n code).2.1 := by
  intro n
  induction n with
  | zero => intro code _; exact .last (by simp [signsF]) .nil
  | succ n ih =>
    intro code hb
    obtain ⟨h0, h1, h2⟩ := pointF_in hb
    have h3 := ih _ (byteF_in h2).2.2
    simp only [signsF, List.append_assoc]
    cases hh : isHalf (pointF code).1
    · simp only [Bool.false_eq_true, if_false, List.nil_append]
      exact esc_unq h0 h1 h3 (fun h => by rw [hh] at h; cases h)
    · simp only [if_true]
      refine esc_unq h0 h1 (Unq.raw (x := [120]) (y := [120]) (by decide) (Co.letters (by decide)) h3) (fun _ t h => ?_)
      injection h with h _
      exact absurd h (by decide)
end Go.Proofs.YtekmminmgjoabaaDoor.Js

namespace Go.Proofs.YtekmminmgjoabaaDoor.Js
open Go.RowKit Go.Proofs.YtekmminmgjoabaaDoorW.PrintWords Go.Proofs.YtekmminmgjoabaaDoorW.PrintLast Go.Proofs.YtekmminmgjoabaaDoorW.PrintMore Go.Proofs.YtekmminmgjoabaaDoor.PFnJSTokens
set_option linter.unusedVariables false
set_option linter.unusedSimpArgs false
/-- The bytes xs lie in a block of their own, at or above base (or there are none). -/
def Ow (w : World) (base : Nat) (v : Value) (xs : List Int) : Prop := w.ownsRow base 5 1 v xs.length (xs.map (Value.int .u8))
theorem Ow.form {w : World} {base : Nat} {v : Value} {xs : List Int} (h : Ow w base v xs) : (v = .slice none 0 0 ∧ xs = []) ∨ ∃ g cap cur, v = .slice (some ⟨g, 0, none⟩) xs.length cap ∧ base ≤ g ∧ w.heap[g]? = some (.cells cur 5 (0, 0)) ∧ xs.length ≤ cap ∧ cap ≤ maxLen ∧ cur.size = cap ∧ cur.toList.take xs.length = xs.map (Value.int .u8) := by
  obtain ⟨h1, h2⟩ := h
  rcases h2 with ⟨h2, h3⟩ | ⟨g, cap, cur, a, b, c, d, e, f, k⟩
  · exact .inl ⟨h2, List.length_eq_zero_iff.1 h3⟩
  · exact .inr ⟨g, cap, cur, a, b, c, d, e, by omega, by rw [← k, Nat.mul_one]⟩
theorem Ow.mk' {w : World} {base g cap : Nat} {cur : Array Value} {xs : List Int} (hb : base ≤ g) (hh : w.heap[g]? = some (.cells cur 5 (0, 0))) (hl : xs.length ≤ cap) (hm : cap ≤ maxLen) (hc : cur.size = cap) (ht : cur.toList.take xs.length = xs.map (Value.int .u8)) : Ow w base (.slice (some ⟨g, 0, none⟩) xs.length cap) xs :=
  ⟨by simp, .inr ⟨g, cap, cur, rfl, hb, hh, hl, hm, by omega, by rw [Nat.mul_one]; exact ht⟩⟩
theorem Ow.nil (w : World) (base : Nat) : Ow w base (.slice none 0 0) [] := ⟨rfl, .inl ⟨rfl, rfl⟩⟩
theorem Ow.move {w w1 : World} {base : Nat} {v : Value} {xs : List Int} (h : Ow w base v xs) (hm : ∀ k, v.ownBlock = some k → w1.heap[k]? = w.heap[k]?) : Ow w1 base v xs := own_move h hm
theorem Ow.below {w w1 : World} {base : Nat} {v : Value} {xs : List Int} (h : Ow w base v xs) (hb : Below w.heap.size w w1) : Ow w1 base v xs := pw_own_below h hb
theorem Ow.lt {w : World} {base : Nat} {v : Value} {xs : List Int} (h : Ow w base v xs) (k : Nat) (hk : v.ownBlock = some k) : k < w.heap.size := own_lt h k hk
theorem Ow.base {w : World} {base : Nat} {v : Value} {xs : List Int} (h : Ow w base v xs) (k : Nat) (hk : v.ownBlock = some k) : base ≤ k := own_base h k hk
theorem Ow.ne {w : World} {base g t : Nat} {v : Value} {xs : List Int} {cs : Array Value} (h : Ow w base v xs) (hg : w.heap[g]? = some (.cells cs t (0, 0))) (ht : (5 : Nat) ≠ t) : some g ≠ v.ownBlock := own_ne h hg ht
theorem Ow.cells {w : World} {base : Nat} {v : Value} {xs : List Int} (h : Ow w base v xs) : ∃ A c, v = .slice A xs.length c ∧ xs.length ≤ c ∧ ∀ j, j < xs.length → ∃ g, A = some ⟨g, 0, none⟩ ∧ base ≤ g ∧ w.cell? ⟨g, j, none⟩ = some (.int .u8 (xs.getD j 0)) := by
  rcases h.form with ⟨rfl, rfl⟩ | ⟨g, cap, cur, rfl, hb, hh, hl, hm, hc, ht⟩
  · exact ⟨none, 0, rfl, Nat.le_refl _, fun j hj => by simp at hj⟩
  · refine ⟨_, cap, rfl, hl, fun j hj => ⟨g, rfl, hb, ?_⟩⟩
    rw [blk_cell hh j, ← Array.getElem?_toList]
    have := congrArg (fun l => l[j]?) ht
    simp only [List.getElem?_take_of_lt hj, List.getElem?_map, List.getElem?_eq_getElem hj, Option.map_some] at this
    rw [this, List.getD_eq_getElem?_getD, List.getElem?_eq_getElem hj]
    rfl
theorem add_zero_plain (g j : Nat) : (⟨g, 0, none⟩ : Addr).add j = ⟨g, j, none⟩ := by
  simp only [Addr.add]
  split
  · rename_i h4
    rw [h4]
  · rw [Nat.zero_add]
theorem Ow.sl {w : World} {base : Nat} {v : Value} {xs : List Int} (h : Ow w base v xs) (hl : xs.length ≤ 4000000000) : Sl w w.heap.size v xs := by
  obtain ⟨A, c, rfl, hc, hcell⟩ := h.cells
  refine ⟨A, c, rfl, hc, fun hne ad he => ?_, Kd.C_of_reads (enc := Value.int .u8) (d := (0 : Int)) (h1 := fun _ => rfl) ⟨rfl, by omega, fun hn => ?_⟩⟩
  · obtain ⟨g, e1, e2, e3⟩ := hcell 0 (List.length_pos_iff.2 hne)
    rw [e1] at he
    injection he with he
    rw [← he]
    exact World.block_lt_of_cell? w _ e3
  · obtain ⟨g, e1, -, -⟩ := hcell 0 hn
    refine ⟨_, e1, fun j hj => ?_⟩
    obtain ⟨g', e1', -, e3⟩ := hcell j hj
    rw [e1] at e1'
    injection e1' with e1'
    injection e1' with e1'
    subst e1'
    rw [add_zero_plain]
    exact e3
/-- What lies at a place, put behind the own row. -/
theorem Ow.append {W : World} {base : Nat} {v : Value} {xs : List Int} (h : Ow W base v xs) (a : Addr) (m c : Nat) (ys : List Int) (hm : ys.length = m) (hy : ∀ j, j < m → W.cell? (a.add j) = some (.int .u8 (ys.getD j 0))) (hbase : base ≤ W.heap.size) (hl : xs.length + m ≤ 4000000000) (ty : TypeId) :
    ∃ v1 w1, (Builtin.append_ #[22, 22] ty #[v, .slice (some a) m c]).run Tryd.prog W = .ok v1 w1 ∧ Ow w1 base v1 (xs ++ ys) ∧ W.grownBy w1 v.ownBlock ∧ (v1.ownBlock = v.ownBlock ∨ v1.ownBlock = some W.heap.size) := by
  obtain ⟨i0, hi, hzz⟩ := Option.map_eq_some_iff.1 info5
  simp only [Prod.mk.injEq] at hzz
  obtain ⟨hz0, hz1, hz2⟩ := hzz
  obtain ⟨v1, w1, h1, h2, h3, -, h5⟩ := run_append_own_at (P := Tryd.prog) W base 22 ty 5 i0 (.int .u8 0) 1 1 Tryd.underlying22 hi hz0 hz1 hz2 rfl (by decide) v xs.length (xs.map (Value.int .u8)) h a m c (ys.map (Value.int .u8)) (by simp [hm]) (fun j u hu => by
    obtain ⟨hj, he⟩ := List.getElem?_eq_some_iff.1 hu
    rw [List.length_map] at hj
    rw [hy j (by omega), ← he, List.getElem_map, List.getD_eq_getElem?_getD, List.getElem?_eq_getElem hj]
    rfl) (fun u hu => by
    obtain ⟨x, -, rfl⟩ := List.mem_map.1 hu
    rfl) (by unfold maxLen; omega) (by omega) hbase
  exact ⟨v1, w1, h1, by unfold Ow; rw [List.length_append, hm, List.map_append]; exact h2, h3, h5⟩
/-- A slice of bytes, put behind the own row. -/
theorem Ow.append_sl {W : World} {base B : Nat} {v : Value} {xs ys : List Int} {A : Option Addr} {m c : Nat} (h : Ow W base v xs) (hs : Sl W B (.slice A m c) ys) (hbase : base ≤ W.heap.size) (hl : xs.length + m ≤ 4000000000) (ty : TypeId) :
    ∃ v1 w1, (Builtin.append_ #[22, 22] ty #[v, .slice A m c]).run Tryd.prog W = .ok v1 w1 ∧ Ow w1 base v1 (xs ++ ys) ∧ W.grownBy w1 v.ownBlock ∧ (v1.ownBlock = v.ownBlock ∨ v1.ownBlock = some W.heap.size) := by
  obtain ⟨hm, hc⟩ := hs.len
  cases A with
  | none =>
    have h0 : m = 0 := by
      rcases Nat.eq_zero_or_pos m with h0 | h0
      · exact h0
      · obtain ⟨ad, e, -⟩ := hs.at_ 0 h0
        cases e
    subst h0
    obtain rfl : ys = [] := List.length_eq_zero_iff.1 hm.symm
    obtain ⟨i0, hi, hzz⟩ := Option.map_eq_some_iff.1 info5
    simp only [Prod.mk.injEq] at hzz
    obtain ⟨hz0, hz1, hz2⟩ := hzz
    refine ⟨v, W, ?_, by rw [List.append_nil]; exact h, World.grownBy.refl W _, .inl rfl⟩
    rcases h.2 with ⟨rfl, hn⟩ | ⟨g, cap, cur, rfl, _, _, hnc, _⟩
    · simp [Builtin.append_, run_underlying Tryd.underlying22, sizeOf, typeInfo, hi, Builtin.lenOf, Builtin.firstCells]
    · simp [Builtin.append_, run_underlying Tryd.underlying22, sizeOf, typeInfo, hi, Builtin.lenOf, Builtin.firstCells, hnc, storeCells]
  | some a =>
    refine h.append a m c ys hm.symm (fun j hj => ?_) hbase hl ty
    obtain ⟨ad, e1, e2, -⟩ := hs.at_ j hj
    injection e1 with e1
    subst e1
    exact e2
/-- EncodeRune into a block that is known whole, from a place on. -/
theorem enc_blk (W : World) (G off len cap T : Nat) (cur : Array Value) (r : Int) (hr0 : -2147483648 ≤ r) (hr1 : r ≤ 2147483647) (hb : W.heap[G]? = some (.cells cur T (0, 0))) (h4 : 4 ≤ len) (hfit : off + 4 ≤ cur.size) :
    Calls Tryd.prog 149 #[.slice (some ⟨G, off, none⟩) len cap, .int .i32 r] W fun e w' => e = .returned (.int .i64 ((Lib.encodeRuneZ r).length : Nat)) ∧ (∃ cur', w'.heap[G]? = some (.cells cur' T (0, 0)) ∧ cur'.size = cur.size ∧ cur'.toList = cur.toList.take off ++ (Lib.encodeRuneZ r).map (Value.int .u8) ++ cur.toList.drop (off + (Lib.encodeRuneZ r).length)) ∧ KeepBut W w' G none ∧ Below G W w' := by
  have hl4 := Lib.runeCells_le r
  have hlen : (Lib.runeCells r).length = (Lib.encodeRuneZ r).length := by simp [Lib.runeCells]
  refine (Rune.encode_calls G off len cap r hr0 hr1 W (by omega) (fun j hj => by rw [blk_cell hb, Array.getElem?_eq_getElem (by omega)]; rfl) (fun j _ => blk_frozen hb _)).mono ?_
  rintro e w' ⟨rfl, rfl⟩
  obtain ⟨cur', h1, h2, h3⟩ := setCells_row (Lib.runeCells r) off W cur hb (by omega)
  obtain ⟨s1, s2, s3, s4⟩ := setCells_same G (Lib.runeCells r) off W
  refine ⟨by rw [hlen], ⟨cur', h1, h2, by rw [h3, hlen]; rfl⟩, ⟨by rw [s4]; exact Nat.le_refl _, fun i hi hne _ => ?_⟩, ⟨s1, s2, s3, by rw [s4]; exact Nat.le_refl _, fun i hi => ?_⟩⟩
  · exact setCells_far _ _ i hne
  · exact setCells_far _ _ i (by omega)
theorem wpList_append_own_run {P : Program} {ops : Array Oper} {rest : List Oper} {o : Oper} {a : Act} {w : World} {Q : Exit → Act → World → Prop} (hgd : o.guard = none) (s x : Operand) (t : TypeId) (ho : o.op = .call { callee := .builtin .append, args := #[s, x], argTypes := #[t, t] }) (v y r : Value) (w1 : World) (hs : a.eval s = v) (hx : a.eval x = y) (hr : (Builtin.append_ #[t, t] o.type #[v, y]).run P w = .ok r w1) (h : wpList P ops Q rest (a.put o.dst r) w1) : wpList P ops Q (o :: rest) a w := by
  refine wpList_plain hgd fun K hK => ?_
  unfold Oper.wp execOp
  simp only [ho, resolve, invoke, builtin, Sem.run_bind, Sem.run_pure, Result.andThen_ok, List.map_toArray, List.map_cons, List.map_nil, hs, hx, hr]
  exact hK _ _ h
end Go.Proofs.YtekmminmgjoabaaDoor.Js

namespace Go.Proofs.YtekmminmgjoabaaDoor.Js
open Go.RowKit Go.Proofs.YtekmminmgjoabaaDoorW.PrintWords Go.Proofs.YtekmminmgjoabaaDoorW.PrintLast Go.Proofs.YtekmminmgjoabaaDoorW.PrintMore Go.Proofs.YtekmminmgjoabaaDoor.PFnJSTokens
set_option linter.unusedVariables false
set_option linter.unusedSimpArgs false
theorem width_pos (s : ByteArray) (pos : Nat) (h : pos < s.size) : 1 ≤ (Utf8.decode s pos).2 := by
  by_cases ha : (s[pos]'h).toNat < 128
  · rw [decode_ascii s pos h ha]
    exact Nat.le_refl _
  · exact (decode_high s pos h (by omega)).2
theorem coFrom_end (s : ByteArray) (fuel pos : Nat) (h : ¬ pos < s.size) : coFrom s fuel pos = [] := by
  cases fuel with
  | zero => rfl
  | succ f => unfold coFrom; rw [if_neg h]
theorem coFrom_step (s : ByteArray) (fuel pos : Nat) (h : pos < s.size) : coFrom s (fuel + 1) pos = Lib.encodeRuneZ (Utf8.decode s pos).1 ++ coFrom s fuel (pos + (Utf8.decode s pos).2) := by
  rw [coFrom, if_pos h]
theorem Ow.iterAt {w : World} {base : Nat} {v : Value} {xs : List Int} (h : Ow w base v xs) {k : Nat} {s : ByteArray} {p : Nat} (hk : w.heap[k]? = some (.stringIter s p)) (p' : Nat) : Ow (w.iterAt k s p') base v xs :=
  h.move fun g hg => Lib.iterAt_other w k g s p' (by
    rintro rfl
    obtain ⟨h1, h2⟩ := h
    rcases h2 with ⟨rfl, -⟩ | ⟨g', cap, cur, rfl, _, hh, _⟩
    · cases hg
    · injection hg with hg
      have hg' : g' = g := hg
      subst hg'
      rw [hk] at hh
      cases hh)
theorem Ow.ne_iter {w : World} {base k : Nat} {v : Value} {xs : List Int} {s : ByteArray} {p : Nat} (h : Ow w base v xs) (hk : w.heap[k]? = some (.stringIter s p)) : some k ≠ v.ownBlock := by
  obtain ⟨h1, h2⟩ := h
  rcases h2 with ⟨rfl, -⟩ | ⟨g', cap, cur, rfl, _, hh, _⟩
  · intro e; cases e
  · intro e
    injection e with e
    have e' : k = g' := e
    subst e'
    rw [hk] at hh
    cases hh
theorem slice4_all (G : Nat) (W : World) : (Instr.sliceAt 189 (.pointer (some ⟨G, 0, none⟩)) none none none).run Tryd.prog W = .ok (.slice (some ⟨G, 0, none⟩) 4 4) W := by
  have ht : Tryd.prog.underlying 189 = some (.array (Tryd.prog.arrayLen 189) (Tryd.prog.elem 189)) := by kernel_rfl
  have hN : Tryd.prog.arrayLen 189 = 4 := by kernel_rfl
  obtain ⟨i, hi, hz⟩ := Option.map_eq_some_iff.1 (show (Tryd.prog.info? (Tryd.prog.elem 189)).map (·.size) = some 1 by kernel_rfl)
  rw [run_sliceAt_array_all W 189 ⟨G, 0, none⟩ ht]
  simp [sizeOf, typeInfo, hi, hz, slicedAt, hN]
  try (simp [Addr.add])
theorem slice4_to (G k : Nat) (hk : k ≤ 4) (W : World) : (Instr.sliceAt 189 (.pointer (some ⟨G, 0, none⟩)) none (some (.int .i64 (k : Int))) none).run Tryd.prog W = .ok (.slice (some ⟨G, 0, none⟩) k 4) W := by
  have ht : Tryd.prog.underlying 189 = some (.array (Tryd.prog.arrayLen 189) (Tryd.prog.elem 189)) := by kernel_rfl
  have hN : Tryd.prog.arrayLen 189 = 4 := by kernel_rfl
  obtain ⟨i, hi, hz⟩ := Option.map_eq_some_iff.1 (show (Tryd.prog.info? (Tryd.prog.elem 189)).map (·.size) = some 1 by kernel_rfl)
  rw [run_sliceAt_array_h W 189 ⟨G, 0, none⟩ ht .i64 (k : Int) (by omega) (by rw [hN]; omega)]
  simp [sizeOf, typeInfo, hi, hz, slicedAt, hN]
  simp [Addr.add]
theorem enc_len (r : Int) : (Lib.encodeRuneZ r).length ≤ 4 := by
  have := Lib.runeCells_le r
  simpa [Lib.runeCells] using this.2
set_option maxHeartbeats 4000000 in
set_option maxRecDepth 100000 in
theorem coerce_calls (w : World) (base B : Nat) (v : Value) (A : Option Addr) (n c : Nat) (xs zs ys : List Int) (hr : Ow w base v xs) (hs : Sl w B (.slice A n c) zs) (hB : B ≤ w.heap.size) (hby : Bytes zs) (hco : Co zs ys) (hbase : base ≤ w.heap.size) (hl : xs.length + ys.length ≤ 3000000000) :
    Calls Tryd.prog 127 #[v, .slice A n c] w fun e w' => ∃ v', e = .returned v' ∧ Ow w' base v' (xs ++ ys) ∧ Below base w w' := by
  obtain ⟨S, hS⟩ : ∃ S, S = strOfNums zs := ⟨_, rfl⟩
  have hal := below_alloc (Below.refl w.heap.size w) (.cells #[.int .u8 0, .int .u8 0, .int .u8 0, .int .u8 0] 189)
  have HSZ := Aside0.mk (show S.size = zs.length by rw [hS]; exact str_size zs)
  have HCO := Aside0.mk (show coFrom S zs.length 0 = ys by rw [hS]; exact hco.eq hby)
  have HBA := Aside0.mk hbase
  have HL := Aside0.mk hl
  have HR := Aside0.mk (hr.below hal)
  have HBK := Aside0.mk (blk_new w (.cells #[.int .u8 0, .int .u8 0, .int .u8 0, .int .u8 0] 189))
  have HCV := Aside0.mk (fun (W : World) (hW : Below w.heap.size w W) => (show (convert 22 9 (.slice A n c)).run Tryd.prog W = .ok (.string S) W by
    rw [hS]
    exact (hs.below (hW.mono hB)).text Tryd.underlying22 Tryd.underlying9))
  have HAL := Aside0.mk hal
  have HWZ := Aside0.mk (show w.heap.size ≤ (w.alloc (.cells #[.int .u8 0, .int .u8 0, .int .u8 0, .int .u8 0] 189)).heap.size from hal.size)
  clear hr hs hB hby hco hal hbase hl hS
  go_enter Tryd.func127, Tryd.ntmps127
  go_upto_region 2 with ((with_reducible refine gate_st rfl ?_); refine store_agg _ _ _ rfl rfl rfl [.int .u8 0, .int .u8 0, .int .u8 0, .int .u8 0] HBK.out rfl (by simp) rfl (by kernel_rfl) (by simp [Value.oneCell']) ?_; intro W2 hb2 hk2 hg2; have HB2 := Aside0.mk hb2; have HG2 := Aside0.mk (HAL.out.trans hg2); have HR2 := Aside0.mk (HR.out.move fun g hg => hk2.2 g (HR.out.lt g hg) (fun e => HR.out.ne HBK.out (by decide) (by rw [← e]; exact hg.symm)) (by simp)); clear hb2 hk2 hg2)
  have hcv := HCV.out W2 HG2.out
  obtain ⟨G, hG⟩ : ∃ G, G = w.heap.size := ⟨_, rfl⟩
  have HGG := Aside0.mk hG
  rw [← hG] at HB2 ⊢
  clear HR HBK HCV HAL HWZ hG
  go_wp2_with fail
  have hit := World.iter_heap W2 S 0
  obtain ⟨I, hI⟩ : ∃ I, I = W2.heap.size := ⟨_, rfl⟩
  rw [← hI] at hit ⊢
  have HIW := Aside0.mk (show w.heap.size ≤ I ∧ G < I by
    have h1 := HG2.out.size
    have h2 := blk_lt HB2.out
    rw [hI]
    exact ⟨h1, h2⟩)
  have hbel := below_alloc (Below.refl W2.heap.size W2) (.stringIter S 0)
  have HS0 := Aside0.mk (show ∃ cur : Array Value, (W2.iter S 0).heap[G]? = some (.cells cur 189 (0, 0)) ∧ cur.size = 4 from ⟨_, blk_below HB2.out hbel, rfl⟩)
  have HR0 := Aside0.mk (show Ow (W2.iter S 0) base v (xs ++ []) by rw [List.append_nil]; exact HR2.out.below hbel)
  have HB0 := Aside0.mk (show Below base w (W2.iter S 0) from (HG2.out.trans (hbel.mono HG2.out.size)).mono HBA.out)
  have HIT := Aside0.mk hit
  have HGB := Aside0.mk (show base ≤ G by rw [HGG.out]; exact HBA.out)
  clear hit hI hbel hcv HB2 HG2 HR2
  go_loopw [0] (fun v0 wr => ∃ (pos fuel : Nat) (acc : List Int), Aside0 (Ow wr base v0 (xs ++ acc)) ∧ Aside0 (wr.heap[I]? = some (.stringIter S pos)) ∧ Aside0 (∃ cur : Array Value, wr.heap[G]? = some (.cells cur 189 (0, 0)) ∧ cur.size = 4) ∧ Aside0 (Below base w wr) ∧ Aside0 (acc ++ coFrom S fuel pos = ys) ∧ Aside0 (S.size ≤ pos + fuel)) (fun _ wr => S.size - wr.iterPos I)
  case atStart => exact ⟨0, zs.length, [], HR0, HIT, HS0, HB0, ⟨HCO.out⟩, ⟨by rw [HSZ.out]; omega⟩⟩
  case round =>
    obtain ⟨pos, fuel, acc, HR, HT, HC, HB, HE, HF⟩ := hrel
    clear HR0 HIT HS0 HB0
    by_cases hp : pos < S.size
    · have hnx : ∀ ty, (Instr.next (.pointer (some ⟨I, 0, none⟩)) true ty).run Tryd.prog wr = _ := fun ty => Lib.run_next_any_at wr I S pos ty HT.out hp
      have hwd := width_pos S pos hp
      have hd1 := decode_le S pos
      obtain ⟨f, rfl⟩ : ∃ f, fuel = f + 1 := ⟨fuel - 1, by have := HF.out; omega⟩
      have HST := Aside0.mk (coFrom_step S f pos hp)
      obtain ⟨cur, hc1, hc2⟩ := HC.out
      obtain ⟨wd, hwdd⟩ : ∃ wd, wd = (Utf8.decode S pos).2 := ⟨_, rfl⟩
      obtain ⟨r, hrr⟩ : ∃ r, r = (Utf8.decode S pos).1 := ⟨_, rfl⟩
      rw [← hwdd] at hnx hwd HST
      rw [← hrr] at hnx hd1 HST
      have HIT2 := Aside0.mk (Lib.iterAt_heap wr I S pos (pos + wd) HT.out)
      have HB2 := Aside0.mk (Lib.below_iterAt HB.out (k := I) (by have := HBA.out; have := HIW.out; omega) S (pos + wd))
      have HC2 := Aside0.mk (show (wr.iterAt I S (pos + wd)).heap[G]? = some (.cells cur 189 (0, 0)) by rw [Lib.iterAt_other _ _ _ _ _ (by have := HIW.out; omega)]; exact hc1)
      have HR2 := Aside0.mk (HR.out.iterAt HT.out (pos + wd))
      have hlen := enc_len (r : Int)
      have HLL := Aside0.mk (show (xs ++ acc).length + (Lib.encodeRuneZ (r : Int)).length ≤ 4000000000 by
        have h1 := HE.out
        rw [HST.out] at h1
        have h2 := congrArg List.length h1
        simp only [List.length_append] at h2
        have := HL.out
        simp only [List.length_append]
        omega)
      have HENC := Aside0.mk (enc_blk (wr.iterAt I S (pos + wd)) G 0 4 4 189 cur (r : Int) (by omega) (by omega) HC2.out (Nat.le_refl _) (by omega))
      obtain ⟨z, hz⟩ : ∃ z, z = Lib.encodeRuneZ (r : Int) := ⟨_, rfl⟩
      rw [← hz] at HENC hlen HLL HST
      obtain ⟨k, hk⟩ : ∃ k, k = z.length := ⟨_, rfl⟩
      rw [← hk] at HENC hlen
      have HK := Aside0.mk hk
      have HCZ := Aside0.mk hc2
      have hs1 := slice4_all G
      have hs2 := slice4_to G k hlen
      have HP := Aside0.mk hp
      have HW := Aside0.mk hwd
      clear hwdd hrr hz hk hc1 hc2 hwd hd1 hlen hp
      go_wp2_with (first
        | (go_at_call 149; (with_reducible refine HENC.out.mono ?_); rintro e W3 ⟨rfl, ⟨cur', h1, h2, h3⟩, hk2, hg2⟩; obtain ⟨v1, W4, hq, ho, hg4, hat⟩ := ((HR2.out.move (w1 := W3) fun g hg => hk2.2 g (HR2.out.lt g hg) (fun e => HR2.out.ne HC2.out (by decide) (by rw [← e]; exact hg.symm)) (by simp))).append ⟨G, 0, none⟩ k 4 z HK.out.symm (fun j hj => by rw [add_zero_plain, blk_cell h1 j, ← Array.getElem?_toList, h3, List.take_zero, List.nil_append, List.getElem?_append_left (by rw [List.length_map, ← HK.out]; exact hj), List.getElem?_map, List.getD_eq_getElem?_getD, List.getElem?_eq_getElem (by rw [← HK.out]; exact hj)]; rfl) (Nat.le_trans HBA.out (Nat.le_trans HB2.out.size hk2.1)) (by have := HLL.out; have := HK.out; omega) 22; have HQ := Aside0.mk hq; have HO4 := Aside0.mk ho; have HG4 := Aside0.mk hg4; have HB3 := Aside0.mk (HB2.out.trans (hg2.mono HGB.out)); have HC3 := Aside0.mk h1; have HC3z := Aside0.mk (h2.trans HCZ.out); have HIT3 := Aside0.mk (hk2.blk HIT2.out (by have := HIW.out; omega) (by simp)); have HR3 := Aside0.mk (HR2.out.move (w1 := W3) fun g hg => hk2.2 g (HR2.out.lt g hg) (fun e => HR2.out.ne HC2.out (by decide) (by rw [← e]; exact hg.symm)) (by simp)); clear h1 h2 h3 hk2 hg2 hq ho hg4 hat)
        | (at_builtin; refine wpList_append_own_run rfl _ _ 22 rfl _ _ _ _ rfl rfl HQ.out ?_))
      have hgr := HG4.out
      have HIT4 := Aside0.mk (blk_grown HIT3.out hgr (HR3.out.ne_iter HIT3.out))
      go_roundw
      case rel =>
        refine ⟨pos + wd, f, acc ++ z, ⟨by rw [← List.append_assoc]; exact HO4.out⟩, HIT4, ⟨_, blk_grown HC3.out hgr (HR3.out.ne HC3.out (by decide)), HC3z.out⟩, ⟨pw_below_grown HB3.out _ (Nat.le_trans HBA.out HB3.out.size) hgr (fun k hk => HR3.out.base k hk)⟩, ⟨?_⟩, ⟨by have := HF.out; have := HW.out; omega⟩⟩
        rw [List.append_assoc, ← HST.out]
        exact HE.out
      case measure =>
        rw [iterPos_of HT.out, iterPos_of HIT4.out]
        have := HP.out
        have := HW.out
        omega
    · have hnx : ∀ ty, (Instr.next (.pointer (some ⟨I, 0, none⟩)) true ty).run Tryd.prog wr = _ := fun ty => Lib.run_next_end_at wr I S pos ty HT.out hp
      have HEE := Aside0.mk (show acc = ys by have := HE.out; rw [coFrom_end S fuel pos hp, List.append_nil] at this; exact this)
      clear hp
      go_wp2_with fail
      go_returns
      exact ⟨_, rfl, HEE.out ▸ HR.out, HB.out⟩
end Go.Proofs.YtekmminmgjoabaaDoor.Js

namespace Go.Proofs.YtekmminmgjoabaaDoor.Js
open Go.RowKit Go.Proofs.YtekmminmgjoabaaDoorW.PrintWords Go.Proofs.YtekmminmgjoabaaDoorW.PrintLast Go.Proofs.YtekmminmgjoabaaDoorW.PrintMore Go.Proofs.YtekmminmgjoabaaDoor.PFnJSTokens
set_option linter.unusedVariables false
set_option linter.unusedSimpArgs false
theorem enc_len' (r : Int) : (Lib.encodeRuneZ r).length ≤ 4 := by
  have := Lib.runeCells_le r
  simpa [Lib.runeCells] using this.2
set_option maxHeartbeats 4000000 in
set_option maxRecDepth 100000 in
theorem surr_calls (w : World) (r : Int) : Calls Tryd.prog 128 #[.int .i32 r] w fun e w' => e = .returned (.bool (isHalf r)) ∧ w = w' := by
  by_cases h0 : 55296 ≤ r
  · have d0 : decide (55296 ≤ r) = true := by simpa using h0
    by_cases h1 : r < 57344
    · have d1 : decide (r < 57344) = true := by simpa using h1
      have HE := Aside0.mk (show isHalf r = true by unfold isHalf; rw [d0, d1]; rfl)
      clear h0 h1
      go_enter Tryd.func128, Tryd.ntmps128
      go_wp2
      go_ret
      exact ⟨by rw [HE.out]; rfl, rfl⟩
    · have d1 : decide (r < 57344) = false := by simpa using h1
      have HE := Aside0.mk (show isHalf r = false by unfold isHalf; rw [d0, d1]; rfl)
      clear h0 h1
      go_enter Tryd.func128, Tryd.ntmps128
      go_wp2
      go_ret
      exact ⟨by rw [HE.out]; rfl, rfl⟩
  · have d0 : decide (55296 ≤ r) = false := by simpa using h0
    have HE := Aside0.mk (show isHalf r = false by unfold isHalf; rw [d0]; rfl)
    clear h0
    go_enter Tryd.func128, Tryd.ntmps128
    go_wp2
    go_ret
    exact ⟨by rw [HE.out]; rfl, rfl⟩
theorem i32_or_nat (a b : Nat) (ha : a < 2147483648) (hb : b < 2147483648) : Go.bits .or .i32 (a : Int) (b : Int) = ((a ||| b : Nat) : Int) := by
  have hx : a ||| b < 2 ^ 31 := Nat.or_lt_two_pow (by omega) (by omega)
  have h1 : (BitVec.ofInt 32 (a : Int)).toNat = a := by
    rw [BitVec.ofInt_natCast, BitVec.toNat_ofNat]; exact Nat.mod_eq_of_lt (by omega)
  have h2 : (BitVec.ofInt 32 (b : Int)).toNat = b := by
    rw [BitVec.ofInt_natCast, BitVec.toNat_ofNat]; exact Nat.mod_eq_of_lt (by omega)
  show IntKind.i32.wrap ((BitVec.ofInt 32 (a : Int) ||| BitVec.ofInt 32 (b : Int)).toNat : Int) = _
  rw [BitVec.toNat_or, h1, h2, IntKind.wrap_i32]
  omega
theorem or_pair (q : Nat) (hq : q < 1024) (s : Nat) (hs : s < 1024) : Go.bits .or .i32 ((q : Int) * 1024) (s : Int) = (q : Int) * 1024 + (s : Int) := by
  have h := i32_or_nat (q * 1024) s (by omega) (by omega)
  rw [Int.natCast_mul] at h
  rw [show ((1024 : Nat) : Int) = 1024 from rfl] at h
  rw [h, show q * 1024 = 2 ^ 10 * q by omega, ← Nat.two_pow_add_eq_or_of_lt (by omega : s < 2 ^ 10) q]
  omega
set_option maxHeartbeats 4000000 in
set_option maxRecDepth 100000 in
theorem pair_calls (w : World) (r a b : Int) (h0 : 65536 ≤ r) (h1 : r < 1114112) (ha : a = 55296 + (r - 65536) / 1024) (hb : b = 56320 + (r - 65536) % 1024) : Calls Tryd.prog 130 #[.int .i32 a, .int .i32 b] w fun e w' => e = .returned (.int .i32 r) ∧ w = w' := by
  obtain ⟨q, hq⟩ : ∃ q : Nat, (q : Int) = (r - 65536) / 1024 := ⟨((r - 65536) / 1024).toNat, by omega⟩
  obtain ⟨s, hs⟩ : ∃ s : Nat, (s : Int) = (r - 65536) % 1024 := ⟨((r - 65536) % 1024).toNat, by omega⟩
  have hq1 : q < 1024 := by omega
  have hs1 : s < 1024 := by omega
  obtain rfl : a = 55296 + (q : Int) := by omega
  obtain rfl : b = 56320 + (s : Int) := by omega
  have HR := Aside0.mk (show (q : Int) * 1024 + (s : Int) + 65536 = r by omega)
  have hor := or_pair q hq1 s hs1
  have d0 : decide (55296 ≤ 55296 + (q : Int)) = true := by rw [decide_eq_true_iff]; omega
  have d1 : decide (55296 + (q : Int) < 56320) = true := by rw [decide_eq_true_iff]; omega
  have d2 : decide (56320 ≤ 56320 + (s : Int)) = true := by rw [decide_eq_true_iff]; omega
  have d3 : decide (56320 + (s : Int) < 57344) = true := by rw [decide_eq_true_iff]; omega
  clear ha hb h0 h1 hq hs
  go_enter Tryd.func130, Tryd.ntmps130
  go_wp2
  go_ret
  refine ⟨?_, rfl⟩
  show Ending.returned (.int .i32 (wrap32 (Go.bits .or .i32 ((55296 + (q : Int) - 55296) * 1024) (56320 + (s : Int) - 56320) + 65536))) = _
  rw [show 55296 + (q : Int) - 55296 = q by omega, show 56320 + (s : Int) - 56320 = s by omega, hor, HR.out]
  have hw : wrap32 r = r := by have := HR.out; unfold wrap32; omega
  rw [hw]
set_option maxHeartbeats 4000000 in
set_option maxRecDepth 100000 in
theorem pre_yes (w : World) (B : Nat) (A : Option Addr) (n c : Nat) (t : List Int) (h : Sl w B (.slice A n c) (92 :: 117 :: t)) : Calls Tryd.prog 129 #[.slice A n c, .string ⟨#[92, 117]⟩] w fun e w' => e = .returned (.bool true) ∧ w = w' := by
  have hn := h.len
  have h2 : 2 ≤ n := by have := hn.1; simp at this; omega
  obtain ⟨hcut, hd⟩ := h.next_to 22 2 2 .i64 Tryd.underlying22 rfl h2
  have hcv := hd.text (src := 22) (dst := 9) Tryd.underlying22 Tryd.underlying9
  have e2 : strOfNums ((92 :: 117 :: t).take 2) = (⟨#[92, 117]⟩ : ByteArray) := by rfl
  rw [e2] at hcv
  have hg : ¬ (n : Int) < 2 := by omega
  have d0 : decide (2 ≤ n) = true := by simpa using h2
  clear h hd e2 hn h2
  go_enter Tryd.func129, Tryd.ntmps129
  go_wp2
  go_ret
  exact ⟨rfl, rfl⟩
set_option maxHeartbeats 4000000 in
set_option maxRecDepth 100000 in
theorem pre_no (w : World) (B : Nat) (A : Option Addr) (n c : Nat) (zs : List Int) (h : Sl w B (.slice A n c) zs) (hb : Bytes zs) (hno : ∀ t, zs ≠ 92 :: 117 :: t) : Calls Tryd.prog 129 #[.slice A n c, .string ⟨#[92, 117]⟩] w fun e w' => e = .returned (.bool false) ∧ w = w' := by
  have hn := h.len
  by_cases h2 : 2 ≤ n
  · obtain ⟨hcut, hd⟩ := h.next_to 22 2 2 .i64 Tryd.underlying22 rfl h2
    have hcv := hd.text (src := 22) (dst := 9) Tryd.underlying22 Tryd.underlying9
    have hz : zs.take 2 ≠ [92, 117] := by
      intro e
      have := List.take_append_drop 2 zs
      rw [e] at this
      exact hno _ this.symm
    have HS := Aside0.mk (show (([92, 117] : List UInt8) == (strOfNums (zs.take 2)).toList) = false by
      rw [Bool.eq_false_iff]
      intro e
      have e' := beq_iff_eq.1 e
      have := str_is (hb.sub (fun c hc => List.mem_of_mem_take hc)) (ys := zs.take 2) [92, 117]
      rw [← e'] at this
      simp at this
      exact hz this)
    have hg : ¬ (n : Int) < 2 := by omega
    have d0 : decide (2 ≤ n) = true := by simpa using h2
    clear h hd hz hno hb hn h2
    go_enter Tryd.func129, Tryd.ntmps129
    go_wp2
    go_ret
    exact ⟨by rw [HS.out]; rfl, rfl⟩
  · have d0 : decide (2 ≤ n) = false := by simpa using h2
    have hg : (n : Int) < 2 := by omega
    clear h hno hb h2 hn
    go_enter Tryd.func129, Tryd.ntmps129
    go_wp2
    go_ret
    exact ⟨rfl, rfl⟩
set_option maxHeartbeats 4000000 in
set_option maxRecDepth 100000 in
theorem clone_ow (w : World) (B : Nat) (v : Value) (zs : List Int) (h : Sl w B v zs) (hl : zs.length ≤ 4000000000) : Calls Tryd.prog 57 #[v] w fun e w' => ∃ v', e = .returned v' ∧ Ow w' w.heap.size v' zs ∧ Below w.heap.size w w' := by
  obtain ⟨A, m, c, rfl, hm⟩ := h.formv
  obtain ⟨v1, w1, hq, ho, hg, -⟩ := (Ow.nil w w.heap.size).append_sl h (Nat.le_refl _) (by simp; omega) 22
  have HO := Aside0.mk ho
  have HG := Aside0.mk (pw_below_grown (Below.refl w.heap.size w) none (Nat.le_refl _) hg (fun k hk => by cases hk))
  have HQ := Aside0.mk hq
  clear h hl hm ho hg hq
  go_enter Tryd.func57, Tryd.ntmps57
  go_wp2_with (at_builtin; refine wpList_append_own_run rfl _ _ 22 rfl _ _ _ _ rfl rfl HQ.out ?_)
  go_returns
  exact ⟨_, rfl, HO.out, HG.out⟩
set_option maxHeartbeats 4000000 in
set_option maxRecDepth 100000 in
theorem app_rune (w : World) (base : Nat) (v : Value) (xs : List Int) (r : Int) (hr0 : -2147483648 ≤ r) (hr1 : r ≤ 2147483647) (hr : Ow w base v xs) (hbase : base ≤ w.heap.size) (hl : xs.length ≤ 3000000000) :
    Calls Tryd.prog 131 #[v, .int .i32 r] w fun e w' => ∃ v', e = .returned v' ∧ Ow w' base v' (xs ++ Lib.encodeRuneZ r) ∧ Below base w w' := by
  obtain ⟨A, c, rfl, hc, -⟩ := hr.cells
  obtain ⟨m, hm⟩ : ∃ m, m = xs.length := ⟨_, rfl⟩
  rw [← hm] at hr hc hl ⊢
  have hal := below_alloc (Below.refl w.heap.size w) (.cells #[.int .u8 0, .int .u8 0, .int .u8 0, .int .u8 0] 5)
  have hnb := blk_new w (.cells #[.int .u8 0, .int .u8 0, .int .u8 0, .int .u8 0] 5)
  obtain ⟨v1, w1, hq, ho, hg, -⟩ := (hr.below hal).append ⟨w.heap.size, 0, none⟩ 4 4 [0, 0, 0, 0] rfl (fun j hj => by
    rw [add_zero_plain, blk_cell hnb j]
    rcases (by omega : j = 0 ∨ j = 1 ∨ j = 2 ∨ j = 3) with rfl | rfl | rfl | rfl <;> rfl) (Nat.le_trans hbase hal.size) (by omega) 22
  have hb1 := pw_below_grown (hal.mono hbase) _ (Nat.le_trans hbase hal.size) hg (fun k hk => (hr.below hal).base k hk)
  rcases ho.form with ⟨rfl, h0⟩ | ⟨g, cap, cur, rfl, hgb, hh, hlc, hcm, hcs, ht⟩
  · simp at h0
  have hlen : (xs ++ [0, 0, 0, 0]).length = m + 4 := by rw [List.length_append, hm]; rfl
  rw [hlen] at hq hlc ht
  have hcut1 : ∀ W : World, (Instr.slice 22 (.slice (some ⟨g, 0, none⟩) (m + 4) cap) (some (.int .i64 (m : Int))) none none).run Tryd.prog W = .ok (.slice (some ⟨g, m, none⟩) 4 (cap - m)) W := by
    intro W
    rw [cut_from 22 m (m + 4) cap .i64 (some ⟨g, 0, none⟩) Tryd.underlying22 (by omega) W, if_neg (by omega), Option.map_some, add_zero_plain]
    rw [show m + 4 - m = 4 by omega]
  obtain ⟨k, hk⟩ : ∃ k, k = (Lib.encodeRuneZ r).length := ⟨_, rfl⟩
  have hk4 : k ≤ 4 := by rw [hk]; exact enc_len' r
  obtain ⟨i, hi, hz⟩ := Option.map_eq_some_iff.1 info5
  have hcut2 : ∀ W : World, (Instr.slice 22 (.slice (some ⟨g, 0, none⟩) (m + 4) cap) none (some (.int .i64 ((m : Int) + (k : Int)))) none).run Tryd.prog W = .ok (.slice (some ⟨g, 0, none⟩) (m + k) cap) W := by
    intro W
    have := cut_to 22 5 .i64 Tryd.underlying22 hi (some ⟨g, 0, none⟩) (m + 4) cap ((m : Int) + (k : Int)) (by omega) (by omega) (by omega) W
    rw [show ((m : Int) + (k : Int)).toNat = m + k by omega] at this
    exact this
  have HE := Aside0.mk (enc_blk w1 g m 4 (cap - m) 5 cur r hr0 hr1 hh (Nat.le_refl _) (by omega))
  rw [← hk] at HE
  have HQ := Aside0.mk hq
  have HFIN := Aside0.mk (show ∀ (w2 : World) (cur' : Array Value), w2.heap[g]? = some (.cells cur' 5 (0, 0)) → cur'.size = cur.size → cur'.toList = cur.toList.take m ++ (Lib.encodeRuneZ r).map (Value.int .u8) ++ cur.toList.drop (m + k) → Ow w2 base (.slice (some ⟨g, 0, none⟩) (m + k) cap) (xs ++ Lib.encodeRuneZ r) by
    intro w2 cur' g1 g2 g3
    have e1 : (xs ++ Lib.encodeRuneZ r).length = m + k := by rw [List.length_append, hm, hk]
    have e2 : cur.toList.take m = xs.map (Value.int .u8) := by
      have := congrArg (List.take m) ht
      rw [List.take_take, Nat.min_eq_left (by omega), List.map_append, List.take_left' (by simp [hm])] at this
      exact this
    rw [← e1]
    refine Ow.mk' hgb g1 (by omega) hcm (by omega) ?_
    rw [e1, g3, e2, List.map_append]
    exact List.take_left' (by simp [hm, hk]))
  have HB1 := Aside0.mk hb1
  have HGB := Aside0.mk hgb
  have hmk : (m : Int) ≤ 3000000000 := by omega
  clear hr hbase hl hal hnb ho hg hh hgb hcs hlc hcm ht hlen hk hi hz hq hb1 hm hc
  go_enter Tryd.func131, Tryd.ntmps131
  go_wp2_with (first
    | (at_builtin; refine wpList_append_own_run rfl _ _ 22 rfl _ _ _ _ rfl rfl HQ.out ?_)
    | (go_at_call 149; (with_reducible refine HE.out.mono ?_); rintro e w2 ⟨rfl, ⟨cur', h1, h2, h3⟩, hk2, hg2⟩; have HO := Aside0.mk (HFIN.out w2 cur' h1 h2 h3); have HB2 := Aside0.mk (HB1.out.trans (hg2.mono HGB.out)); clear h1 h2 h3 hk2 hg2))
  go_returns
  exact ⟨_, rfl, HO.out, HB2.out⟩
end Go.Proofs.YtekmminmgjoabaaDoor.Js

namespace Go.Proofs.YtekmminmgjoabaaDoor.Js
open Go.RowKit
set_option linter.unusedVariables false
set_option linter.unusedSimpArgs false
/-- What stands behind a backslash: a letter e, then l; it means m. -/
inductive Tail : Int → List Int → List Int → Prop
  | esc {e : Int} {l m : List Int} : IsEsc e → Unq l m → Tail e l (unesc e :: m)
  | uni {a b c d : Int} {l m : List Int} : Hex a → Hex b → Hex c → Hex d → isHalf (hex4 a b c d) = false → Unq l m → Tail 117 (a :: b :: c :: d :: l) (runeF (hex4 a b c d) ++ m)
  | half {a b c d : Int} {l m : List Int} : Hex a → Hex b → Hex c → Hex d → isHalf (hex4 a b c d) = true → (∀ t, l ≠ 92 :: 117 :: t) → Unq l m → Tail 117 (a :: b :: c :: d :: l) ([239, 191, 189] ++ m)
  | pair {a b c d a' b' c' d' r : Int} {l m : List Int} : Hex a → Hex b → Hex c → Hex d → Hex a' → Hex b' → Hex c' → Hex d' → 65536 ≤ r → r < 1114112 → hex4 a b c d = 55296 + (r - 65536) / 1024 → hex4 a' b' c' d' = 56320 + (r - 65536) % 1024 → Unq l m → Tail 117 (a :: b :: c :: d :: 92 :: 117 :: a' :: b' :: c' :: d' :: l) (runeF r ++ m)
theorem Unq.view {x m : List Int} (h : Unq x m) : (92 ∉ x ∧ Co x m) ∨ ∃ X Y e l m', x = X ++ 92 :: e :: l ∧ m = Y ++ m' ∧ 92 ∉ X ∧ Co X Y ∧ Tail e l m' := by
  cases h with
  | last a b => exact .inl ⟨a, b⟩
  | esc a b c d => exact .inr ⟨_, _, _, _, _, rfl, rfl, a, b, .esc c d⟩
  | uni a b c d e f g i => exact .inr ⟨_, _, _, _, _, rfl, rfl, a, b, .uni c d e f g i⟩
  | half a b c d e f g i j => exact .inr ⟨_, _, _, _, _, rfl, rfl, a, b, .half c d e f g i j⟩
  | pair a b c d e f c' d' e' f' g1 g2 g3 g4 i => exact .inr ⟨_, _, _, _, _, rfl, rfl, a, b, .pair c d e f c' d' e' f' g1 g2 g3 g4 i⟩
theorem idx_cut (c : Int) : ∀ (x l : List Int), c ∉ x → idx (x ++ c :: l) c = (x.length : Int) := by
  intro x
  induction x with
  | nil => intro l _; simp [idx]
  | cons b x ih =>
    intro l hn
    have h1 : b ≠ c := fun e => hn (by rw [e]; exact List.mem_cons_self)
    have h2 := ih l (fun hm => hn (List.mem_cons_of_mem _ hm))
    rw [List.cons_append, idx, if_neg h1, h2, if_neg (by omega), List.length_cons]
    omega
theorem Co.uniq {x y z : List Int} (h : Co x y) (h' : Co x z) (hb : Bytes x) : y = z := (h.eq hb).symm.trans (h'.eq hb)
theorem Co.empty {y : List Int} (h : Co [] y) : y = [] := by
  have := h.len
  simp at this
  exact this
theorem Unq.plain {l m : List Int} (h : Unq l m) (h92 : 92 ∉ l) (hb : Bytes l) (hp : ∀ c ∈ l, prn c = true) : m = l := by
  rcases h.view with ⟨-, hc⟩ | ⟨X, Y, e, l', m', rfl, -⟩
  · refine hc.uniq (Co.letters fun c hc => ?_) hb
    have := hp c hc
    unfold prn at this
    simp only [Bool.and_eq_true, decide_eq_true_eq] at this
    omega
  · exact absurd (List.mem_append_right _ List.mem_cons_self) h92
theorem Unq.len {l m : List Int} (h : Unq l m) : m.length ≤ 3 * l.length := by
  have hr : ∀ r, (runeF r).length ≤ 4 := fun r => (rune_pos r).2
  induction h with
  | last _ h => exact h.len
  | esc _ h _ _ ih => have := h.len; simp only [List.length_append, List.length_cons]; omega
  | @uni x y l m a b c d _ h _ _ _ _ _ _ ih => have := h.len; have := hr (hex4 a b c d); simp only [List.length_append, List.length_cons]; omega
  | half _ h _ _ _ _ _ _ _ ih => have := h.len; simp only [List.length_append, List.length_cons, List.length_nil]; omega
  | @pair x y l m a b c d a' b' c' d' r _ h _ _ _ _ _ _ _ _ _ _ _ _ _ ih => have := h.len; have := hr r; simp only [List.length_append, List.length_cons]; omega
theorem hex4_v (a b c d : Int) (l : List Int) : hexv ((a :: b :: c :: d :: l).take 4) = hex4 a b c d := rfl
theorem hex4_bd {a b c d : Int} (ha : Hex a) (hb : Hex b) (hc : Hex c) (hd : Hex d) : 0 ≤ hex4 a b c d ∧ hex4 a b c d ≤ 65535 := by
  have h1 := hexd_bd ha
  have h2 := hexd_bd hb
  have h3 := hexd_bd hc
  have h4 := hexd_bd hd
  have e : hex4 a b c d = ((hexd a * 16 + hexd b) * 16 + hexd c) * 16 + hexd d := rfl
  omega
theorem hex4_at {a b c d : Int} {l : List Int} (ha : Hex a) (hb : Hex b) (hc : Hex c) (hd : Hex d) : ∀ j, j < 4 → Hex ((a :: b :: c :: d :: l).getD j 0) := by
  intro j hj
  rcases (by omega : j = 0 ∨ j = 1 ∨ j = 2 ∨ j = 3) with rfl | rfl | rfl | rfl
  · exact ha
  · exact hb
  · exact hc
  · exact hd
end Go.Proofs.YtekmminmgjoabaaDoor.Js

