/- Bits of numbers of 64 bits made of eight bytes: which of the highest bits of the bytes a difference has, and what the lowest bit of a number is. -/
import Derived.Test.YtlagcfdojbjmmaaDoorProg
import Derived.Laws.Entries
import Derived.WalkKit
namespace Go.Proofs.YtlagcfdojbjmmaaDoor.Esc
open Go.RowKit
set_option linter.unusedVariables false
set_option linter.unusedSimpArgs false

theorem ofInt64 (x : Int) (h0 : 0 ≤ x) (h1 : x < 18446744073709551616) : (BitVec.ofInt 64 x).toNat = x.toNat := by rw [BitVec.toNat_ofInt]; omega
theorem or_nat (x y : Int) (h0 : 0 ≤ x) (h1 : x < 18446744073709551616) (h2 : 0 ≤ y) (h3 : y < 18446744073709551616) : Go.bits .or .u64 x y = ((x.toNat ||| y.toNat : Nat) : Int) := by
  have hlt : x.toNat ||| y.toNat < 2 ^ 64 := Nat.or_lt_two_pow (by omega) (by omega)
  unfold Go.bits
  rw [IntKind.wrap_u64]
  show ((((BitVec.ofInt 64 x) ||| (BitVec.ofInt 64 y)).toNat : Nat) : Int) % 18446744073709551616 = _
  rw [BitVec.toNat_or, ofInt64 x h0 h1, ofInt64 y h2 h3]
  omega
theorem xor_nat (x y : Int) (h0 : 0 ≤ x) (h1 : x < 18446744073709551616) (h2 : 0 ≤ y) (h3 : y < 18446744073709551616) : Go.bits .xor .u64 x y = ((x.toNat ^^^ y.toNat : Nat) : Int) := by
  have hlt : x.toNat ^^^ y.toNat < 2 ^ 64 := Nat.xor_lt_two_pow (by omega) (by omega)
  unfold Go.bits
  rw [IntKind.wrap_u64]
  show ((((BitVec.ofInt 64 x) ^^^ (BitVec.ofInt 64 y)).toNat : Nat) : Int) % 18446744073709551616 = _
  rw [BitVec.toNat_xor, ofInt64 x h0 h1, ofInt64 y h2 h3]
  omega
theorem and_nat (x y : Int) (h0 : 0 ≤ x) (h1 : x < 18446744073709551616) (h2 : 0 ≤ y) (h3 : y < 18446744073709551616) : Go.bits .and .u64 x y = ((x.toNat &&& y.toNat : Nat) : Int) := by
  have hlt : x.toNat &&& y.toNat < 2 ^ 64 := Nat.and_lt_two_pow _ (by omega)
  unfold Go.bits
  rw [IntKind.wrap_u64]
  show ((((BitVec.ofInt 64 x) &&& (BitVec.ofInt 64 y)).toNat : Nat) : Int) % 18446744073709551616 = _
  rw [BitVec.toNat_and, ofInt64 x h0 h1, ofInt64 y h2 h3]
  omega

/-- The number of eight bytes, the lowest one first. -/
def w8 : List Nat → Nat
  | [] => 0
  | b :: r => b + 256 * w8 r
theorem w8_lt : ∀ (l : List Nat), (∀ b ∈ l, b < 256) → w8 l < 256 ^ l.length
  | [], _ => by simp [w8]
  | b :: r, h => by
    have h1 := w8_lt r (fun x hx => h x (by simp [hx]))
    have h2 := h b (by simp)
    simp only [w8, List.length_cons, Nat.pow_succ]
    omega
/-- The highest bit of byte j of a number. -/
def top (j n : Nat) : Bool := n.testBit (8 * j + 7)
theorem top_zero (n : Nat) : top 0 n = decide (n / 128 % 2 = 1) := by
  unfold top
  rw [Nat.testBit_eq_decide_div_mod_eq]
theorem top_succ (j n : Nat) : top (j + 1) n = top j (n / 256) := by
  unfold top
  rw [Nat.testBit_eq_decide_div_mod_eq, Nat.testBit_eq_decide_div_mod_eq, Nat.div_div_eq_div_mul]
  congr 3
  rw [show 8 * (j + 1) + 7 = 8 * j + 7 + 8 by omega, Nat.pow_add]
  rw [Nat.mul_comm]
theorem top_w8 : ∀ (j : Nat) (l : List Nat), (∀ b ∈ l, b < 128) → top j (w8 l) = false
  | 0, [], _ => by simp [w8, top_zero]
  | j + 1, [], _ => by simp [w8, top]
  | 0, b :: r, h => by
    have := h b (by simp)
    rw [top_zero, w8]
    simp
    omega
  | j + 1, b :: r, h => by
    have := h b (by simp)
    rw [top_succ, w8, show (b + 256 * w8 r) / 256 = w8 r by omega]
    exact top_w8 j r (fun x hx => h x (by simp [hx]))
theorem arith0 (a b U V P : Nat) (ha : a < 128) (hb : b < 128) (l1 : U < P) (l2 : V < P) : decide ((a + 256 * U + P * 256 - (b + 256 * V)) % (P * 256) / 128 % 2 = 1) = decide (a < b) := by
  have e : (a + 256 * U + P * 256 - (b + 256 * V)) % (P * 256) / 128 % 2 = (a + 256 - b) / 128 % 2 := by
    have hq : (a + 256 * U + P * 256 - (b + 256 * V)) % (P * 256) % 256 = (a + 256 * U + P * 256 - (b + 256 * V)) % 256 := Nat.mod_mod_of_dvd _ ⟨P, by rw [Nat.mul_comm]⟩
    have hz : ∀ z : Nat, z / 128 % 2 = z % 256 / 128 := by intro z; omega
    rw [hz, hq]
    omega
  rw [e]
  congr 1
  apply propext
  omega
theorem arith1 (a b U V P : Nat) (hab : b ≤ a) (ha : a < 128) (l2 : V < P) : (a + 256 * U + P * 256 - (b + 256 * V)) % (P * 256) / 256 = (U + P - V) % P := by
  have e1 : a + 256 * U + P * 256 - (b + 256 * V) = (a - b) + 256 * (U + P - V) := by omega
  rw [e1, Nat.mul_comm P 256, Nat.mod_mul_right_div_self]
  congr 1
  omega
/-- The difference of two rows of bytes, each below 128, as long as each byte of the first is at least as great as the second's: its highest bits. M is a power of 256 that is large enough. -/
theorem top_sub : ∀ (j m : Nat) (u v : List Nat), u.length = m → v.length = m → j < m → (∀ b ∈ u, b < 128) → (∀ b ∈ v, b < 128) → (∀ k, k < j → v.getD k 0 ≤ u.getD k 0) →
    top j ((w8 u + 256 ^ m - w8 v) % 256 ^ m) = decide (u.getD j 0 < v.getD j 0)
  | j, 0, u, v, hu, hv, hj, _, _, _ => by omega
  | 0, m + 1, a :: u, b :: v, hu, hv, hj, h1, h2, h3 => by
    have ha := h1 a (by simp)
    have hb := h2 b (by simp)
    have l2 := w8_lt v (fun x hx => by have := h2 x (by simp [hx]); omega)
    have l1 := w8_lt u (fun x hx => by have := h1 x (by simp [hx]); omega)
    simp only [List.length_cons, Nat.add_right_cancel_iff] at hu hv
    rw [hv] at l2
    rw [hu] at l1
    rw [top_zero]
    simp only [w8, List.getD_cons_zero, Nat.pow_succ]
    exact arith0 a b (w8 u) (w8 v) (256 ^ m) ha hb l1 l2
  | j + 1, m + 1, a :: u, b :: v, hu, hv, hj, h1, h2, h3 => by
    have ha := h1 a (by simp)
    have hb := h2 b (by simp)
    have hab : b ≤ a := by have := h3 0 (by omega); simpa using this
    have l2 := w8_lt v (fun x hx => by have := h2 x (by simp [hx]); omega)
    simp only [List.length_cons, Nat.add_right_cancel_iff] at hu hv
    have ih := top_sub j m u v hu hv (by omega) (fun x hx => h1 x (by simp [hx])) (fun x hx => h2 x (by simp [hx])) (fun k hk => by have := h3 (k + 1) (by omega); simpa using this)
    rw [top_succ]
    simp only [w8, List.getD_cons_succ]
    rw [← ih]
    congr 1
    rw [hv] at l2
    rw [Nat.pow_succ]
    exact arith1 a b (w8 u) (w8 v) (256 ^ m) hab ha l2

/-- The exclusive or of two rows of bytes, byte by byte. -/
theorem w8_xor : ∀ (u v : List Nat), u.length = v.length → (∀ b ∈ u, b < 256) → (∀ b ∈ v, b < 256) → w8 u ^^^ w8 v = w8 (List.zipWith (· ^^^ ·) u v)
  | [], [], _, _, _ => rfl
  | a :: u, b :: v, hl, h1, h2 => by
    have ha := h1 a (by simp)
    have hb := h2 b (by simp)
    have ih := w8_xor u v (by simpa using hl) (fun x hx => h1 x (by simp [hx])) (fun x hx => h2 x (by simp [hx]))
    simp only [w8, List.zipWith_cons_cons]
    rw [← ih]
    have e1 : (a + 256 * w8 u ^^^ b + 256 * w8 v) % 2 ^ 8 = a ^^^ b := by
      rw [Nat.xor_mod_two_pow]
      congr 1 <;> omega
    have e2 : (a + 256 * w8 u ^^^ b + 256 * w8 v) / 2 ^ 8 = w8 u ^^^ w8 v := by
      rw [Nat.xor_div_two_pow]
      congr 1 <;> omega
    have := Nat.div_add_mod (a + 256 * w8 u ^^^ b + 256 * w8 v) (2 ^ 8)
    rw [e1, e2] at this
    omega
/-- The lowest bit of a number of 64 bits. -/
theorem low_bit (x q : Nat) (hx : x < 2 ^ 64) (hq : q < 64) (h : ∀ p, p < q → x.testBit p = false) (h1 : x.testBit q = true) : x &&& (2 ^ 64 - x) = 2 ^ q := by
  have hm : x % 2 ^ (q + 1) = 2 ^ q := by
    apply Nat.eq_of_testBit_eq
    intro i
    rw [Nat.testBit_mod_two_pow, Nat.testBit_two_pow]
    by_cases hi : i < q + 1
    · by_cases hq' : i = q
      · subst hq'; simp [h1]
      · rw [h i (by omega)]; simp; omega
    · simp [hi]; omega
  have h64 : 2 ^ (q + 1) * 2 ^ (63 - q) = 2 ^ 64 := by rw [← Nat.pow_add]; congr 1; omega
  obtain ⟨H, hH⟩ : ∃ H, H = x / 2 ^ (q + 1) := ⟨_, rfl⟩
  have hxe : x = 2 ^ (q + 1) * H + 2 ^ q := by have := Nat.div_add_mod x (2 ^ (q + 1)); rw [hm, ← hH] at this; exact this.symm
  have hHlt : H < 2 ^ (63 - q) := by
    rw [hH, Nat.div_lt_iff_lt_mul (Nat.two_pow_pos _), Nat.mul_comm, h64]
    exact hx
  have hq2 : 2 ^ (q + 1) = 2 * 2 ^ q := by rw [Nat.pow_succ]; omega
  have hy : 2 ^ 64 - x = 2 ^ (q + 1) * (2 ^ (63 - q) - (H + 1)) + 2 ^ q := by
    rw [← h64, hxe, Nat.mul_sub, Nat.mul_add]
    have hle : 2 ^ (q + 1) * (H + 1) ≤ 2 ^ (q + 1) * 2 ^ (63 - q) := Nat.mul_le_mul_left _ hHlt
    rw [Nat.mul_add] at hle
    generalize 2 ^ (q + 1) * 2 ^ (63 - q) = A at *
    generalize 2 ^ (q + 1) * H = B at *
    omega
  have hpos := Nat.two_pow_pos q
  have hlt : 2 ^ q < 2 ^ (q + 1) := by omega
  have m1 : (x &&& (2 ^ 64 - x)) % 2 ^ (q + 1) = 2 ^ q := by
    rw [Nat.and_mod_two_pow, hm, hy, Nat.mul_add_mod, Nat.mod_eq_of_lt hlt, Nat.and_self]
  have m2 : (x &&& (2 ^ 64 - x)) / 2 ^ (q + 1) = 0 := by
    rw [Nat.and_div_two_pow, ← hH, hy, Nat.mul_add_div (Nat.two_pow_pos _), Nat.div_eq_of_lt hlt, Nat.add_zero]
    apply Nat.eq_of_testBit_eq
    intro i
    rw [Nat.testBit_and, Nat.testBit_two_pow_sub_succ hHlt]
    simp
    intro h2 h3
    exact h2
  have := Nat.div_add_mod (x &&& (2 ^ 64 - x)) (2 ^ (q + 1))
  rw [m1, m2] at this
  omega
end Go.Proofs.YtlagcfdojbjmmaaDoor.Esc
