/- Bits of numbers of 64 bits made of eight bytes: the mask that tells the first quotation mark among them. The number of eight bytes. (Own lines of the FnJSEscapes claim, for this seat.) The lowest bit's place, by the table. (Own lines of the FnJSEscapes claim, for this seat.) -/
import Derived.Test.YtekmminmgjoabaaDoorYKa
import Derived.Test.YtekmminmgjoabaaDoorYRa
import Derived.Laws.BitsLemmas
import Derived.Laws.Bits64
namespace Go.Proofs.YtekmminmgjoabaaDoor.Js
set_option linter.unusedVariables false
set_option linter.unusedSimpArgs false
/-- The number of eight bytes, the lowest one first. -/
def w8 : List Nat → Nat
  | [] => 0
  | b :: r => b + 256 * w8 r
theorem w8_lt : ∀ (l : List Nat), (∀ b ∈ l, b < 256) → w8 l < 256 ^ l.length
  | [], _ => by simp [w8]
  | b :: r, h => by
    have h1 := w8_lt r (fun x hx => h x (by simp [hx]))
    have h2 := h b (by simp)
    simp only [w8, List.length_cons, Nat.pow_succ]
    omega
/-- The highest bit of byte j of a number. -/
def top (j n : Nat) : Bool := n.testBit (8 * j + 7)
theorem top_zero (n : Nat) : top 0 n = decide (n / 128 % 2 = 1) := by
  unfold top
  rw [Nat.testBit_eq_decide_div_mod_eq]
theorem top_succ (j n : Nat) : top (j + 1) n = top j (n / 256) := by
  unfold top
  rw [Nat.testBit_eq_decide_div_mod_eq, Nat.testBit_eq_decide_div_mod_eq, Nat.div_div_eq_div_mul]
  congr 3
  rw [show 8 * (j + 1) + 7 = 8 * j + 7 + 8 by omega, Nat.pow_add]
  rw [Nat.mul_comm]
theorem top_byte : ∀ (j : Nat) (l : List Nat), (∀ b ∈ l, b < 256) → j < l.length → top j (w8 l) = decide (128 ≤ l.getD j 0)
  | _, [], _, h => by simp at h
  | 0, b :: r, h, _ => by
    have := h b (by simp)
    rw [top_zero, w8]
    simp
    omega
  | j + 1, b :: r, h, hj => by
    have := h b (by simp)
    rw [top_succ, w8, show (b + 256 * w8 r) / 256 = w8 r by omega]
    exact top_byte j r (fun x hx => h x (by simp [hx])) (by simpa using hj)
theorem arith0 (a b U V P : Nat) (ha : a < 256) (hb : b < 256) (l1 : U < P) (l2 : V < P) : decide ((a + 256 * U + P * 256 - (b + 256 * V)) % (P * 256) / 128 % 2 = 1) = decide (128 ≤ (a + 256 - b) % 256) := by
  have e : (a + 256 * U + P * 256 - (b + 256 * V)) % (P * 256) / 128 % 2 = (a + 256 - b) % 256 / 128 := by
    have hq : (a + 256 * U + P * 256 - (b + 256 * V)) % (P * 256) % 256 = (a + 256 * U + P * 256 - (b + 256 * V)) % 256 := Nat.mod_mod_of_dvd _ ⟨P, by rw [Nat.mul_comm]⟩
    have hz : ∀ z : Nat, z / 128 % 2 = z % 256 / 128 := by intro z; omega
    rw [hz, hq]
    omega
  rw [e]
  congr 1
  apply propext
  omega
theorem arith1 (a b U V P : Nat) (hab : b ≤ a) (ha : a < 256) (l2 : V < P) : (a + 256 * U + P * 256 - (b + 256 * V)) % (P * 256) / 256 = (U + P - V) % P := by
  have e1 : a + 256 * U + P * 256 - (b + 256 * V) = (a - b) + 256 * (U + P - V) := by omega
  rw [e1, Nat.mul_comm P 256, Nat.mod_mul_right_div_self]
  congr 1
  omega
/-- The difference of two rows of bytes, as long as each byte of the first is at least as great as the second's: its highest bits. -/
theorem top_sub : ∀ (j m : Nat) (u v : List Nat), u.length = m → v.length = m → j < m → (∀ b ∈ u, b < 256) → (∀ b ∈ v, b < 256) → (∀ k, k < j → v.getD k 0 ≤ u.getD k 0) →
    top j ((w8 u + 256 ^ m - w8 v) % 256 ^ m) = decide (128 ≤ (u.getD j 0 + 256 - v.getD j 0) % 256)
  | j, 0, u, v, hu, hv, hj, _, _, _ => by omega
  | 0, m + 1, a :: u, b :: v, hu, hv, hj, h1, h2, h3 => by
    have ha := h1 a (by simp)
    have hb := h2 b (by simp)
    have l2 := w8_lt v (fun x hx => h2 x (by simp [hx]))
    have l1 := w8_lt u (fun x hx => h1 x (by simp [hx]))
    simp only [List.length_cons, Nat.add_right_cancel_iff] at hu hv
    rw [hv] at l2
    rw [hu] at l1
    rw [top_zero]
    simp only [w8, List.getD_cons_zero, Nat.pow_succ]
    exact arith0 a b (w8 u) (w8 v) (256 ^ m) ha hb l1 l2
  | j + 1, m + 1, a :: u, b :: v, hu, hv, hj, h1, h2, h3 => by
    have ha := h1 a (by simp)
    have hb := h2 b (by simp)
    have hab : b ≤ a := by have := h3 0 (by omega); simpa using this
    have l2 := w8_lt v (fun x hx => h2 x (by simp [hx]))
    simp only [List.length_cons, Nat.add_right_cancel_iff] at hu hv
    have ih := top_sub j m u v hu hv (by omega) (fun x hx => h1 x (by simp [hx])) (fun x hx => h2 x (by simp [hx])) (fun k hk => by have := h3 (k + 1) (by omega); simpa using this)
    rw [top_succ]
    simp only [w8, List.getD_cons_succ]
    rw [← ih]
    congr 1
    rw [hv] at l2
    rw [Nat.pow_succ]
    exact arith1 a b (w8 u) (w8 v) (256 ^ m) hab ha l2
/-- The exclusive or of two rows of bytes, byte by byte. -/
theorem w8_xor : ∀ (u v : List Nat), u.length = v.length → (∀ b ∈ u, b < 256) → (∀ b ∈ v, b < 256) → w8 u ^^^ w8 v = w8 (List.zipWith (· ^^^ ·) u v)
  | [], [], _, _, _ => rfl
  | a :: u, b :: v, hl, h1, h2 => by
    have ha := h1 a (by simp)
    have hb := h2 b (by simp)
    have ih := w8_xor u v (by simpa using hl) (fun x hx => h1 x (by simp [hx])) (fun x hx => h2 x (by simp [hx]))
    simp only [w8, List.zipWith_cons_cons]
    rw [← ih]
    have e1 : (a + 256 * w8 u ^^^ b + 256 * w8 v) % 2 ^ 8 = a ^^^ b := by
      rw [Nat.xor_mod_two_pow]
      congr 1 <;> omega
    have e2 : (a + 256 * w8 u ^^^ b + 256 * w8 v) / 2 ^ 8 = w8 u ^^^ w8 v := by
      rw [Nat.xor_div_two_pow]
      congr 1 <;> omega
    have := Nat.div_add_mod (a + 256 * w8 u ^^^ b + 256 * w8 v) (2 ^ 8)
    rw [e1, e2] at this
    omega
/-- The lowest bit of a number of 64 bits. -/
theorem low_bit (x q : Nat) (hx : x < 2 ^ 64) (hq : q < 64) (h : ∀ p, p < q → x.testBit p = false) (h1 : x.testBit q = true) : x &&& (2 ^ 64 - x) = 2 ^ q := by
  have hm : x % 2 ^ (q + 1) = 2 ^ q := by
    apply Nat.eq_of_testBit_eq
    intro i
    rw [Nat.testBit_mod_two_pow, Nat.testBit_two_pow]
    by_cases hi : i < q + 1
    · by_cases hq' : i = q
      · subst hq'; simp [h1]
      · rw [h i (by omega)]; simp; omega
    · simp [hi]; omega
  have h64 : 2 ^ (q + 1) * 2 ^ (63 - q) = 2 ^ 64 := by rw [← Nat.pow_add]; congr 1; omega
  obtain ⟨H, hH⟩ : ∃ H, H = x / 2 ^ (q + 1) := ⟨_, rfl⟩
  have hxe : x = 2 ^ (q + 1) * H + 2 ^ q := by have := Nat.div_add_mod x (2 ^ (q + 1)); rw [hm, ← hH] at this; exact this.symm
  have hHlt : H < 2 ^ (63 - q) := by
    rw [hH, Nat.div_lt_iff_lt_mul (Nat.two_pow_pos _), Nat.mul_comm, h64]
    exact hx
  have hq2 : 2 ^ (q + 1) = 2 * 2 ^ q := by rw [Nat.pow_succ]; omega
  have hy : 2 ^ 64 - x = 2 ^ (q + 1) * (2 ^ (63 - q) - (H + 1)) + 2 ^ q := by
    rw [← h64, hxe, Nat.mul_sub, Nat.mul_add]
    have hle : 2 ^ (q + 1) * (H + 1) ≤ 2 ^ (q + 1) * 2 ^ (63 - q) := Nat.mul_le_mul_left _ hHlt
    rw [Nat.mul_add] at hle
    generalize 2 ^ (q + 1) * 2 ^ (63 - q) = A at *
    generalize 2 ^ (q + 1) * H = B at *
    omega
  have hpos := Nat.two_pow_pos q
  have hlt : 2 ^ q < 2 ^ (q + 1) := by omega
  have m1 : (x &&& (2 ^ 64 - x)) % 2 ^ (q + 1) = 2 ^ q := by
    rw [Nat.and_mod_two_pow, hm, hy, Nat.mul_add_mod, Nat.mod_eq_of_lt hlt, Nat.and_self]
  have m2 : (x &&& (2 ^ 64 - x)) / 2 ^ (q + 1) = 0 := by
    rw [Nat.and_div_two_pow, ← hH, hy, Nat.mul_add_div (Nat.two_pow_pos _), Nat.div_eq_of_lt hlt, Nat.add_zero]
    apply Nat.eq_of_testBit_eq
    intro i
    rw [Nat.testBit_and, Nat.testBit_two_pow_sub_succ hHlt]
    simp
    intro h2 h3
    exact h2
  have := Nat.div_add_mod (x &&& (2 ^ 64 - x)) (2 ^ (q + 1))
  rw [m1, m2] at this
  omega

theorem top_not (j n : Nat) (hj : j < 8) (hn : n < 2 ^ 64) : top j (2 ^ 64 - 1 - n) = !top j n := by
  unfold top
  have h : 2 ^ 64 - 1 - n = 2 ^ 64 - (n + 1) := by omega
  rw [h, Nat.testBit_two_pow_sub_succ hn]
  simp
  omega
theorem top_and (j a b : Nat) : top j (a &&& b) = (top j a && top j b) := by unfold top; rw [Nat.testBit_and]
theorem top_80 (j : Nat) (hj : j < 8) : top j 9259542123273814144 = true := by
  rcases (by omega : j = 0 ∨ j = 1 ∨ j = 2 ∨ j = 3 ∨ j = 4 ∨ j = 5 ∨ j = 6 ∨ j = 7) with rfl | rfl | rfl | rfl | rfl | rfl | rfl | rfl <;> decide
theorem bit_80 : ∀ p, p < 64 → p % 8 ≠ 7 → Nat.testBit 9259542123273814144 p = false := by decide
/-- Bits of a number that lie in the mask alone: the first one that is there. -/
theorem mask_first (x : Nat) (hx : x < 2 ^ 64) (j : Nat) (hj : j < 8) (h0 : ∀ k, k < j → top k x = false) (h1 : top j x = true) (hm : ∀ p, p < 64 → p % 8 ≠ 7 → x.testBit p = false) : x &&& (2 ^ 64 - x) = 2 ^ (8 * j + 7) := by
  refine low_bit x (8 * j + 7) hx (by omega) (fun p hp => ?_) h1
  by_cases h7 : p % 8 = 7
  · have := h0 (p / 8) (by omega)
    unfold top at this
    rw [show 8 * (p / 8) + 7 = p by omega] at this
    exact this
  · exact hm p (by omega) h7
theorem mask_none (x : Nat) (hx : x < 2 ^ 64) (h0 : ∀ k, k < 8 → top k x = false) (hm : ∀ p, p < 64 → p % 8 ≠ 7 → x.testBit p = false) : x = 0 := by
  apply Nat.eq_of_testBit_eq
  intro p
  rw [Nat.zero_testBit]
  by_cases hp : p < 64
  · by_cases h7 : p % 8 = 7
    · have := h0 (p / 8) (by omega)
      unfold top at this
      rw [show 8 * (p / 8) + 7 = p by omega] at this
      exact this
    · exact hm p hp h7
  · exact Nat.testBit_lt_two_pow (Nat.lt_of_lt_of_le hx (Nat.pow_le_pow_right (by omega) (by omega)))
theorem w8_ones : w8 (List.replicate 8 1) = 72340172838076673 := by decide
theorem w8_marks : w8 (List.replicate 8 34) = 2459565876494606882 := by decide
/-- The mask of eight bytes. -/
def hack (l : List Nat) : Nat := ((w8 l ^^^ 2459565876494606882) + 2 ^ 64 - 72340172838076673) % 2 ^ 64 &&& (2 ^ 64 - 1 - (w8 l ^^^ 2459565876494606882)) &&& 9259542123273814144
theorem xor_zero' (a b : Nat) : a ^^^ b = 0 ↔ a = b := by
  constructor
  · intro h
    have e : (a ^^^ b) ^^^ b = a := by rw [Nat.xor_assoc, Nat.xor_self, Nat.xor_zero]
    rw [h, Nat.zero_xor] at e
    exact e.symm
  · rintro rfl
    exact Nat.xor_self _
theorem hack_lt (l : List Nat) : hack l < 2 ^ 64 := by
  unfold hack
  exact Nat.and_lt_two_pow _ (by decide)
theorem hack_bits (l : List Nat) : ∀ p, p < 64 → p % 8 ≠ 7 → (hack l).testBit p = false := by
  intro p hp h7
  unfold hack
  rw [Nat.testBit_and, bit_80 p hp h7, Bool.and_false]
theorem hack_top {l : List Nat} (hl : l.length = 8) (hb : ∀ b ∈ l, b < 256) (j : Nat) (hj : j < 8) (h0 : ∀ k, k < j → l.getD k 0 ≠ 34) : top j (hack l) = decide (l.getD j 0 = 34) := by
  obtain ⟨m, hm⟩ : ∃ m, m = List.zipWith (· ^^^ ·) l (List.replicate 8 34) := ⟨_, rfl⟩
  have hx : w8 l ^^^ 2459565876494606882 = w8 m := by
    rw [hm, ← w8_xor l (List.replicate 8 34) (by simp [hl]) hb (by decide), w8_marks]
  have hml : m.length = 8 := by rw [hm]; simp [hl]
  have hg : ∀ k, k < 8 → m.getD k 0 = l.getD k 0 ^^^ 34 := by
    intro k hk
    have h1 : k < l.length := by omega
    rw [hm, List.getD_eq_getElem?_getD, List.getElem?_zipWith, List.getElem?_replicate, if_pos hk, List.getD_eq_getElem?_getD, List.getElem?_eq_getElem h1]
    rfl
  have hmb : ∀ b ∈ m, b < 256 := by
    intro b h
    obtain ⟨i, hi, rfl⟩ := List.mem_iff_getElem.1 h
    have h2 := hg i (by omega)
    rw [List.getD_eq_getElem?_getD, List.getElem?_eq_getElem hi, Option.getD_some] at h2
    rw [h2]
    refine Nat.xor_lt_two_pow (n := 8) ?_ (by decide)
    have h1 : i < l.length := by omega
    rw [List.getD_eq_getElem?_getD, List.getElem?_eq_getElem h1, Option.getD_some]
    exact hb _ (List.getElem_mem h1)
  have hw : w8 m < 2 ^ 64 := by have := w8_lt m hmb; rw [hml] at this; exact this
  unfold hack
  rw [hx, top_and, top_and, top_80 j hj, top_not j _ hj hw, top_byte j m hmb (by omega), Bool.and_true]
  have hs := top_sub j 8 m (List.replicate 8 1) hml (by simp) hj hmb (by decide) (fun k hk => by
    have h1 := h0 k hk
    have h2 := hg k (by omega)
    rw [List.getD_eq_getElem?_getD, List.getElem?_replicate, if_pos (by omega), h2]
    have : l.getD k 0 ^^^ 34 ≠ 0 := fun e => h1 ((xor_zero' _ _).1 e)
    simp only [Option.getD_some]
    omega)
  rw [w8_ones] at hs
  rw [show (2 : Nat) ^ 64 = 256 ^ 8 by decide, hs]
  have h1 : (List.replicate 8 1).getD j 0 = 1 := by
    rw [List.getD_eq_getElem?_getD, List.getElem?_replicate, if_pos hj]; rfl
  rw [h1, hg j hj]
  have hlt : l.getD j 0 ^^^ 34 < 256 := by
    rw [← hg j hj, List.getD_eq_getElem?_getD, List.getElem?_eq_getElem (by omega), Option.getD_some]
    exact hmb _ (List.getElem_mem _)
  by_cases h : l.getD j 0 = 34
  · rw [h]; decide
  · have : l.getD j 0 ^^^ 34 ≠ 0 := fun e => h ((xor_zero' _ _).1 e)
    rw [decide_eq_false h]
    generalize l.getD j 0 ^^^ 34 = y at *
    by_cases h2 : 128 ≤ y
    · rw [decide_eq_true h2]; simp
    · rw [decide_eq_false h2, decide_eq_false (by omega)]; rfl
/-- No mark among the eight. -/
theorem hack_none {l : List Nat} (hl : l.length = 8) (hb : ∀ b ∈ l, b < 256) (h : ∀ k, k < 8 → l.getD k 0 ≠ 34) : hack l = 0 :=
  mask_none _ (hack_lt l) (fun k hk => by rw [hack_top hl hb k hk (fun i hi => h i (by omega))]; exact decide_eq_false (h k hk)) (hack_bits l)
/-- The first mark among the eight. -/
theorem hack_first {l : List Nat} (hl : l.length = 8) (hb : ∀ b ∈ l, b < 256) (j : Nat) (hj : j < 8) (h34 : l.getD j 0 = 34) (h : ∀ k, k < j → l.getD k 0 ≠ 34) : hack l &&& (2 ^ 64 - hack l) = 2 ^ (8 * j + 7) ∧ hack l ≠ 0 := by
  have h1 : top j (hack l) = true := by rw [hack_top hl hb j hj h]; exact decide_eq_true h34
  refine ⟨mask_first _ (hack_lt l) j hj (fun k hk => by rw [hack_top hl hb k (by omega) (fun i hi => h i (by omega))]; exact decide_eq_false (h k hk)) h1 (hack_bits l), fun e => ?_⟩
  rw [e] at h1
  unfold top at h1
  rw [Nat.zero_testBit] at h1
  cases h1
end Go.Proofs.YtekmminmgjoabaaDoor.Js




namespace Go.Proofs.YtekmminmgjoabaaDoor.Js
open Go.RowKit Go.Proofs.YtekmminmgjoabaaDoorW.PrintWords Go.Proofs.YtekmminmgjoabaaDoorW.PrintLast Go.Proofs.YtekmminmgjoabaaDoorW.PrintMore Go.Proofs.YtekmminmgjoabaaDoor.PFnJSTokens
set_option linter.unusedVariables false
set_option linter.unusedSimpArgs false
theorem ofInt64 (x : Int) (h0 : 0 ≤ x) (h1 : x < 18446744073709551616) : (BitVec.ofInt 64 x).toNat = x.toNat := by rw [BitVec.toNat_ofInt]; omega
theorem xor_nat (x y : Int) (h0 : 0 ≤ x) (h1 : x < 18446744073709551616) (h2 : 0 ≤ y) (h3 : y < 18446744073709551616) : Go.bits .xor .u64 x y = ((x.toNat ^^^ y.toNat : Nat) : Int) := by
  have hlt : x.toNat ^^^ y.toNat < 2 ^ 64 := Nat.xor_lt_two_pow (by omega) (by omega)
  unfold Go.bits
  rw [IntKind.wrap_u64]
  show ((((BitVec.ofInt 64 x) ^^^ (BitVec.ofInt 64 y)).toNat : Nat) : Int) % 18446744073709551616 = _
  rw [BitVec.toNat_xor, ofInt64 x h0 h1, ofInt64 y h2 h3]
  omega
theorem and_nat (x y : Int) (h0 : 0 ≤ x) (h1 : x < 18446744073709551616) (h2 : 0 ≤ y) (h3 : y < 18446744073709551616) : Go.bits .and .u64 x y = ((x.toNat &&& y.toNat : Nat) : Int) := by
  have hlt : x.toNat &&& y.toNat < 2 ^ 64 := Nat.and_lt_two_pow _ (by omega)
  unfold Go.bits
  rw [IntKind.wrap_u64]
  show ((((BitVec.ofInt 64 x) &&& (BitVec.ofInt 64 y)).toNat : Nat) : Int) % 18446744073709551616 = _
  rw [BitVec.toNat_and, ofInt64 x h0 h1, ofInt64 y h2 h3]
  omega

theorem or_comm64 (x y : Int) : Go.bits .or .u64 x y = Go.bits .or .u64 y x := by
  unfold Go.bits
  simp only [BitVec.or_comm]
theorem le_or (k : Nat) (hk : k ≤ 56) (x b : Int) (P : Int) (hP : (2 : Int) ^ k = P) (h0 : 0 ≤ x) (h1 : x < P) (h2 : 0 ≤ b) (h3 : b < 256) (hP1 : P ≤ 72057594037927936) : Go.bits .or .u64 x (IntKind.u64.wrap (IntKind.u64.wrap b * P)) = x + b * P := by
  have e : IntKind.u64.wrap b = b := by rw [IntKind.wrap_u64]; omega
  have hbP : b * P ≤ 255 * P := Int.mul_le_mul_of_nonneg_right (by omega) (by omega)
  have hb0 : 0 ≤ b * P := Int.mul_nonneg h2 (by omega)
  have e2 : IntKind.u64.wrap (b * P) = b * P := by rw [IntKind.wrap_u64]; omega
  rw [e, e2, or_comm64]
  have := bits_join .u64 64 (by decide) (fun n a b => by rw [IntKind.wrap_u64]; omega) k (b * P) x hb0 (by rw [hP]; exact Int.mul_emod_left _ _) (by omega) h0 (by rw [hP]; exact h1) (by omega)
  rw [this]
  omega
theorem le64 (b0 b1 b2 b3 b4 b5 b6 b7 : Nat) (h0 : b0 < 256) (h1 : b1 < 256) (h2 : b2 < 256) (h3 : b3 < 256) (h4 : b4 < 256) (h5 : b5 < 256) (h6 : b6 < 256) (h7 : b7 < 256) :
    Go.bits .or .u64 (Go.bits .or .u64 (Go.bits .or .u64 (Go.bits .or .u64 (Go.bits .or .u64 (Go.bits .or .u64 (Go.bits .or .u64 (IntKind.u64.wrap (b0 : Int)) (IntKind.u64.wrap (IntKind.u64.wrap (b1 : Int) * 256))) (IntKind.u64.wrap (IntKind.u64.wrap (b2 : Int) * 65536))) (IntKind.u64.wrap (IntKind.u64.wrap (b3 : Int) * 16777216))) (IntKind.u64.wrap (IntKind.u64.wrap (b4 : Int) * 4294967296))) (IntKind.u64.wrap (IntKind.u64.wrap (b5 : Int) * 1099511627776))) (IntKind.u64.wrap (IntKind.u64.wrap (b6 : Int) * 281474976710656))) (IntKind.u64.wrap (IntKind.u64.wrap (b7 : Int) * 72057594037927936)) = ((w8 [b0, b1, b2, b3, b4, b5, b6, b7] : Nat) : Int) := by
  have e0 : IntKind.u64.wrap (b0 : Int) = b0 := by rw [IntKind.wrap_u64]; omega
  rw [e0, le_or 8 (by decide) b0 b1 256 (by decide) (by omega) (by omega) (by omega) (by omega) (by decide)]
  rw [le_or 16 (by decide) _ b2 65536 (by decide) (by omega) (by omega) (by omega) (by omega) (by decide)]
  rw [le_or 24 (by decide) _ b3 16777216 (by decide) (by omega) (by omega) (by omega) (by omega) (by decide)]
  rw [le_or 32 (by decide) _ b4 4294967296 (by decide) (by omega) (by omega) (by omega) (by omega) (by decide)]
  rw [le_or 40 (by decide) _ b5 1099511627776 (by decide) (by omega) (by omega) (by omega) (by omega) (by decide)]
  rw [le_or 48 (by decide) _ b6 281474976710656 (by decide) (by omega) (by omega) (by omega) (by omega) (by decide)]
  rw [le_or 56 (by decide) _ b7 72057594037927936 (by decide) (by omega) (by omega) (by omega) (by omega) (by decide)]
  simp only [w8]
  omega

set_option maxHeartbeats 4000000 in
set_option maxRecDepth 100000 in
theorem uint64 (ad : Addr) (n c : Nat) (b0 b1 b2 b3 b4 b5 b6 b7 : Nat) (w : World) (hn : 8 ≤ n) (l0 : b0 < 256) (l1 : b1 < 256) (l2 : b2 < 256) (l3 : b3 < 256) (l4 : b4 < 256) (l5 : b5 < 256) (l6 : b6 < 256) (l7 : b7 < 256)
    (h0 : w.cell? ad = some (.int .u8 b0)) (h1 : w.cell? ⟨ad.block, ad.off + 1, none⟩ = some (.int .u8 b1)) (h2 : w.cell? ⟨ad.block, ad.off + 2, none⟩ = some (.int .u8 b2)) (h3 : w.cell? ⟨ad.block, ad.off + 3, none⟩ = some (.int .u8 b3))
    (h4 : w.cell? ⟨ad.block, ad.off + 4, none⟩ = some (.int .u8 b4)) (h5 : w.cell? ⟨ad.block, ad.off + 5, none⟩ = some (.int .u8 b5)) (h6 : w.cell? ⟨ad.block, ad.off + 6, none⟩ = some (.int .u8 b6)) (h7 : w.cell? ⟨ad.block, ad.off + 7, none⟩ = some (.int .u8 b7)) :
    Calls Tryd.prog 114 #[.agg #[], .slice (some ad) n c] w fun e w' => e = .returned (.int .u64 ((w8 [b0, b1, b2, b3, b4, b5, b6, b7] : Nat) : Int)) ∧ Below w.heap.size w w' := by
  have hb := below_alloc (Below.refl w.heap.size w) (.cells #[] 160)
  have a0 := pw_cell_below hb h0
  have a1 := pw_cell_below hb h1
  have a2 := pw_cell_below hb h2
  have a3 := pw_cell_below hb h3
  have a4 := pw_cell_below hb h4
  have a5 := pw_cell_below hb h5
  have a6 := pw_cell_below hb h6
  have a7 := pw_cell_below hb h7
  clear h0 h1 h2 h3 h4 h5 h6 h7
  have HB := Aside0.mk hb
  clear hb
  have HX := Aside0.mk (le64 b0 b1 b2 b3 b4 b5 b6 b7 l0 l1 l2 l3 l4 l5 l6 l7)
  clear l0 l1 l2 l3 l4 l5 l6 l7
  go_enter Tryd.func114, Tryd.ntmps114
  go_upto_region 2 with fail
  go_quiet (fail)
  go_wp2
  go_ret
  refine ⟨congrArg Ending.returned (congrArg (Value.int .u64) HX.out), ?_⟩
  exact pw_below_drewN HB.out _

end Go.Proofs.YtekmminmgjoabaaDoor.Js



namespace Go.Proofs.YtekmminmgjoabaaDoor.Js
open Go.RowKit Go.Proofs.YtekmminmgjoabaaDoorW.PrintWords Go.Proofs.YtekmminmgjoabaaDoorW.PrintLast Go.Proofs.YtekmminmgjoabaaDoorW.PrintMore Go.Proofs.YtekmminmgjoabaaDoor.PFnJSTokens
set_option linter.unusedVariables false
set_option linter.unusedSimpArgs false
/-- What the laid table holds at the places that are read. -/
structure Tab (w : World) : Prop where
  t0 : w.cell? ⟨3, 62, none⟩ = some (.int .u8 7)
  t1 : w.cell? ⟨3, 51, none⟩ = some (.int .u8 15)
  t2 : w.cell? ⟨3, 46, none⟩ = some (.int .u8 23)
  t3 : w.cell? ⟨3, 54, none⟩ = some (.int .u8 31)
  t4 : w.cell? ⟨3, 25, none⟩ = some (.int .u8 39)
  t5 : w.cell? ⟨3, 17, none⟩ = some (.int .u8 47)
  t6 : w.cell? ⟨3, 33, none⟩ = some (.int .u8 55)
  t7 : w.cell? ⟨3, 32, none⟩ = some (.int .u8 63)
theorem Tab.below {w w' : World} (h : Tab w) (hb : Below w.heap.size w w') : Tab w' where
  t0 := pw_cell_below hb h.t0
  t1 := pw_cell_below hb h.t1
  t2 := pw_cell_below hb h.t2
  t3 := pw_cell_below hb h.t3
  t4 := pw_cell_below hb h.t4
  t5 := pw_cell_below hb h.t5
  t6 := pw_cell_below hb h.t6
  t7 := pw_cell_below hb h.t7
set_option maxHeartbeats 4000000 in
set_option maxRecDepth 100000 in
theorem tz0 (x : Int) (h0 : 0 < x) (h1 : x < 18446744073709551616) (h : Go.bits .and .u64 x (IntKind.u64.wrap (-x)) = 128) (w : World) (ht : Tab w) :
    Calls Tryd.prog 115 #[.int .u64 x] w fun e w' => e = .returned (.int .i64 7) ∧ Below w.heap.size w w' := by
  have hz : (x == 0) = false := beq_eq_false_iff_ne.2 (by omega)
  have c0 := ht.t0
  have hw : IntKind.u64.wrap 36591387270573294720 = 18144643196863743104 := by rw [IntKind.wrap_u64]; rfl
  clear h0 h1 ht
  go_enter Tryd.func115, Tryd.ntmps115
  go_upto_region 3 with fail
  go_wp2
  go_ret
  exact ⟨rfl, by repeat (first | exact Below.refl _ _ | apply pw_below_drewN | apply below_drew)⟩
set_option maxHeartbeats 4000000 in
set_option maxRecDepth 100000 in
theorem tz1 (x : Int) (h0 : 0 < x) (h1 : x < 18446744073709551616) (h : Go.bits .and .u64 x (IntKind.u64.wrap (-x)) = 32768) (w : World) (ht : Tab w) :
    Calls Tryd.prog 115 #[.int .u64 x] w fun e w' => e = .returned (.int .i64 15) ∧ Below w.heap.size w w' := by
  have hz : (x == 0) = false := beq_eq_false_iff_ne.2 (by omega)
  have c0 := ht.t1
  have hw : IntKind.u64.wrap 9367395141266763448320 = 14895895896020779008 := by rw [IntKind.wrap_u64]; rfl
  clear h0 h1 ht
  go_enter Tryd.func115, Tryd.ntmps115
  go_upto_region 3 with fail
  go_wp2
  go_ret
  exact ⟨rfl, by repeat (first | exact Below.refl _ _ | apply pw_below_drewN | apply below_drew)⟩
set_option maxHeartbeats 4000000 in
set_option maxRecDepth 100000 in
theorem tz2 (x : Int) (h0 : 0 < x) (h1 : x < 18446744073709551616) (h : Go.bits .and .u64 x (IntKind.u64.wrap (-x)) = 8388608) (w : World) (ht : Tab w) :
    Calls Tryd.prog 115 #[.int .u64 x] w fun e w' => e = .returned (.int .i64 23) ∧ Below w.heap.size w w' := by
  have hz : (x == 0) = false := beq_eq_false_iff_ne.2 (by omega)
  have c0 := ht.t2
  have hw : IntKind.u64.wrap 2398053156164291442769920 = 13320070197151793152 := by rw [IntKind.wrap_u64]; rfl
  clear h0 h1 ht
  go_enter Tryd.func115, Tryd.ntmps115
  go_upto_region 3 with fail
  go_wp2
  go_ret
  exact ⟨rfl, by repeat (first | exact Below.refl _ _ | apply pw_below_drewN | apply below_drew)⟩
set_option maxHeartbeats 4000000 in
set_option maxRecDepth 100000 in
theorem tz3 (x : Int) (h0 : 0 < x) (h1 : x < 18446744073709551616) (h : Go.bits .and .u64 x (IntKind.u64.wrap (-x)) = 2147483648) (w : World) (ht : Tab w) :
    Calls Tryd.prog 115 #[.int .u64 x] w fun e w' => e = .returned (.int .i64 31) ∧ Below w.heap.size w w' := by
  have hz : (x == 0) = false := beq_eq_false_iff_ne.2 (by omega)
  have c0 := ht.t3
  have hw : IntKind.u64.wrap 613901607978058609349099520 = 15737060908301549568 := by rw [IntKind.wrap_u64]; rfl
  clear h0 h1 ht
  go_enter Tryd.func115, Tryd.ntmps115
  go_upto_region 3 with fail
  go_wp2
  go_ret
  exact ⟨rfl, by repeat (first | exact Below.refl _ _ | apply pw_below_drewN | apply below_drew)⟩
set_option maxHeartbeats 4000000 in
set_option maxRecDepth 100000 in
theorem tz4 (x : Int) (h0 : 0 < x) (h1 : x < 18446744073709551616) (h : Go.bits .and .u64 x (IntKind.u64.wrap (-x)) = 549755813888) (w : World) (ht : Tab w) :
    Calls Tryd.prog 115 #[.int .u64 x] w fun e w' => e = .returned (.int .i64 39) ∧ Below w.heap.size w w' := by
  have hz : (x == 0) = false := beq_eq_false_iff_ne.2 (by omega)
  have c0 := ht.t4
  have hw : IntKind.u64.wrap 157158811642383003993369477120 = 7297384456514437120 := by rw [IntKind.wrap_u64]; rfl
  clear h0 h1 ht
  go_enter Tryd.func115, Tryd.ntmps115
  go_upto_region 3 with fail
  go_wp2
  go_ret
  exact ⟨rfl, by repeat (first | exact Below.refl _ _ | apply pw_below_drewN | apply below_drew)⟩
set_option maxHeartbeats 4000000 in
set_option maxRecDepth 100000 in
theorem tz5 (x : Int) (h0 : 0 < x) (h1 : x < 18446744073709551616) (h : Go.bits .and .u64 x (IntKind.u64.wrap (-x)) = 140737488355328) (w : World) (ht : Tab w) :
    Calls Tryd.prog 115 #[.int .u64 x] w fun e w' => e = .returned (.int .i64 47) ∧ Below w.heap.size w w' := by
  have hz : (x == 0) = false := beq_eq_false_iff_ne.2 (by omega)
  have c0 := ht.t5
  have hw : IntKind.u64.wrap 40232655780450049022302586142720 = 5009269423031189504 := by rw [IntKind.wrap_u64]; rfl
  clear h0 h1 ht
  go_enter Tryd.func115, Tryd.ntmps115
  go_upto_region 3 with fail
  go_wp2
  go_ret
  exact ⟨rfl, by repeat (first | exact Below.refl _ _ | apply pw_below_drewN | apply below_drew)⟩
set_option maxHeartbeats 4000000 in
set_option maxRecDepth 100000 in
theorem tz6 (x : Int) (h0 : 0 < x) (h1 : x < 18446744073709551616) (h : Go.bits .and .u64 x (IntKind.u64.wrap (-x)) = 36028797018963968) (w : World) (ht : Tab w) :
    Calls Tryd.prog 115 #[.int .u64 x] w fun e w' => e = .returned (.int .i64 55) ∧ Below w.heap.size w w' := by
  have hz : (x == 0) = false := beq_eq_false_iff_ne.2 (by omega)
  have c0 := ht.t6
  have hw : IntKind.u64.wrap 10299559879795212549709462052536320 = 9547631210025451520 := by rw [IntKind.wrap_u64]; rfl
  clear h0 h1 ht
  go_enter Tryd.func115, Tryd.ntmps115
  go_upto_region 3 with fail
  go_wp2
  go_ret
  exact ⟨rfl, by repeat (first | exact Below.refl _ _ | apply pw_below_drewN | apply below_drew)⟩
set_option maxHeartbeats 4000000 in
set_option maxRecDepth 100000 in
theorem tz7 (x : Int) (h0 : 0 < x) (h1 : x < 18446744073709551616) (h : Go.bits .and .u64 x (IntKind.u64.wrap (-x)) = 9223372036854775808) (w : World) (ht : Tab w) :
    Calls Tryd.prog 115 #[.int .u64 x] w fun e w' => e = .returned (.int .i64 63) ∧ Below w.heap.size w w' := by
  have hz : (x == 0) = false := beq_eq_false_iff_ne.2 (by omega)
  have c0 := ht.t7
  have hw : IntKind.u64.wrap 2636687329227574412725622285449297920 = 9223372036854775808 := by rw [IntKind.wrap_u64]; rfl
  clear h0 h1 ht
  go_enter Tryd.func115, Tryd.ntmps115
  go_upto_region 3 with fail
  go_wp2
  go_ret
  exact ⟨rfl, by repeat (first | exact Below.refl _ _ | apply pw_below_drewN | apply below_drew)⟩
/-- The lowest bit's place, where it is the highest bit of byte i. -/
theorem tz (i : Nat) (hi : i < 8) (x : Int) (h0 : 0 < x) (h1 : x < 18446744073709551616) (h : Go.bits .and .u64 x (IntKind.u64.wrap (-x)) = ((2 ^ (8 * i + 7) : Nat) : Int)) (w : World) (ht : Tab w) :
    Calls Tryd.prog 115 #[.int .u64 x] w fun e w' => e = .returned (.int .i64 ((8 * i + 7 : Nat) : Int)) ∧ Below w.heap.size w w' := by
  have hc : i = 0 ∨ i = 1 ∨ i = 2 ∨ i = 3 ∨ i = 4 ∨ i = 5 ∨ i = 6 ∨ i = 7 := by omega
  rcases hc with rfl | rfl | rfl | rfl | rfl | rfl | rfl | rfl
  · have e : ((2 ^ (8 * 0 + 7) : Nat) : Int) = 128 := by decide +kernel
    rw [e] at h
    exact tz0 x h0 h1 h w ht
  · have e : ((2 ^ (8 * 1 + 7) : Nat) : Int) = 32768 := by decide +kernel
    rw [e] at h
    exact tz1 x h0 h1 h w ht
  · have e : ((2 ^ (8 * 2 + 7) : Nat) : Int) = 8388608 := by decide +kernel
    rw [e] at h
    exact tz2 x h0 h1 h w ht
  · have e : ((2 ^ (8 * 3 + 7) : Nat) : Int) = 2147483648 := by decide +kernel
    rw [e] at h
    exact tz3 x h0 h1 h w ht
  · have e : ((2 ^ (8 * 4 + 7) : Nat) : Int) = 549755813888 := by decide +kernel
    rw [e] at h
    exact tz4 x h0 h1 h w ht
  · have e : ((2 ^ (8 * 5 + 7) : Nat) : Int) = 140737488355328 := by decide +kernel
    rw [e] at h
    exact tz5 x h0 h1 h w ht
  · have e : ((2 ^ (8 * 6 + 7) : Nat) : Int) = 36028797018963968 := by decide +kernel
    rw [e] at h
    exact tz6 x h0 h1 h w ht
  · have e : ((2 ^ (8 * 7 + 7) : Nat) : Int) = 9223372036854775808 := by decide +kernel
    rw [e] at h
    exact tz7 x h0 h1 h w ht
end Go.Proofs.YtekmminmgjoabaaDoor.Js

