/- The mask of eight bytes: it tells the first byte that must be escaped, or is nothing where there is none; for bytes below 127. -/
import Derived.Test.YtlagcfdojbjmmaaDoorEscBits
import Derived.Test.YtlagcfdojbjmmaaDoorPFnJSEscapesx1
namespace Go.Proofs.YtlagcfdojbjmmaaDoor.Esc
open Go.RowKit Go.Proofs.YtlagcfdojbjmmaaDoor.PFnJSEscapes
set_option linter.unusedVariables false
set_option linter.unusedSimpArgs false

/-- Must a byte be escaped? -/
def must (h : Bool) (b : Nat) : Bool := decide (b < 32) || decide (b = 34) || decide (b = 92) || (h && (decide (b = 60) || decide (b = 62) || decide (b = 38)))
theorem xor_zero (a b : Nat) : a ^^^ b = 0 ↔ a = b := by
  constructor
  · intro h
    have e : (a ^^^ b) ^^^ b = a := by rw [Nat.xor_assoc, Nat.xor_self, Nat.xor_zero]
    rw [h, Nat.zero_xor] at e
    exact e.symm
  · rintro rfl
    exact Nat.xor_self _
def belowW (n : Int) : Int := IntKind.u64.wrap (n - IntKind.u64.wrap (72340172838076673 * IntKind.u64.wrap 32))
def containsW (n c : Int) : Int := IntKind.u64.wrap (Go.bits .xor .u64 n (IntKind.u64.wrap (72340172838076673 * IntKind.u64.wrap c)) - 72340172838076673)
def mask0 (n : Int) : Int := Go.bits .or .u64 (Go.bits .or .u64 (Go.bits .or .u64 n (belowW n)) (containsW n 34)) (containsW n 92)
def mask1 (n : Int) : Int := Go.bits .or .u64 (mask0 n) (Go.bits .or .u64 (Go.bits .or .u64 (containsW n 60) (containsW n 62)) (containsW n 38))
def chk (h : Bool) (n : Int) : Int := Go.bits .and .u64 (if h then mask1 n else mask0 n) 9259542123273814144

theorem w8_rep (c : Nat) : w8 (List.replicate 8 c) = c * 72340172838076673 := by
  simp only [List.replicate, w8]
  omega
theorem zip_len {l : List Nat} (hl : l.length = 8) (c : Nat) : (List.zipWith (· ^^^ ·) l (List.replicate 8 c)).length = 8 := by simp [hl]
theorem zip_get {l : List Nat} (hl : l.length = 8) (c k : Nat) (hk : k < 8) : (List.zipWith (· ^^^ ·) l (List.replicate 8 c)).getD k 0 = l.getD k 0 ^^^ c := by
  have h1 : k < l.length := by omega
  rw [List.getD_eq_getElem?_getD, List.getElem?_zipWith, List.getElem?_replicate, if_pos hk, List.getD_eq_getElem?_getD, List.getElem?_eq_getElem h1]
  rfl
theorem zip_lt {l : List Nat} (hl : l.length = 8) (hb : ∀ b ∈ l, b < 127) (c : Nat) (hc : c < 128) : ∀ b ∈ List.zipWith (· ^^^ ·) l (List.replicate 8 c), b < 128 := by
  intro b h
  obtain ⟨i, hi, rfl⟩ := List.mem_iff_getElem.1 h
  rw [zip_len hl] at hi
  have := zip_get hl c i hi
  rw [List.getD_eq_getElem?_getD, List.getElem?_eq_getElem (by rw [zip_len hl]; exact hi)] at this
  simp only [Option.getD_some] at this
  rw [this]
  refine Nat.xor_lt_two_pow (n := 7) ?_ hc
  have h1 : i < l.length := by omega
  rw [List.getD_eq_getElem?_getD, List.getElem?_eq_getElem h1]
  have := hb l[i] (List.getElem_mem h1)
  simp only [Option.getD_some]
  omega
theorem getD_lt {l : List Nat} {m : Nat} (hm : 0 < m) (h : ∀ b ∈ l, b < m) (k : Nat) : l.getD k 0 < m := by
  rw [List.getD_eq_getElem?_getD]
  rcases Nat.lt_or_ge k l.length with h1 | h1
  · rw [List.getElem?_eq_getElem h1]
    exact h _ (List.getElem_mem h1)
  · rw [List.getElem?_eq_none h1]
    exact hm
theorem rep_get (c k : Nat) (hk : k < 8) : (List.replicate 8 c).getD k 0 = c := by
  rw [List.getD_eq_getElem?_getD, List.getElem?_replicate, if_pos hk]
  rfl
theorem n_lt {l : List Nat} (hl : l.length = 8) (hb : ∀ b ∈ l, b < 127) : w8 l < 18446744073709551616 := by
  have := w8_lt l (fun b h => by have := hb b h; omega)
  rw [hl] at this
  simpa using this
theorem below_top {l : List Nat} (hl : l.length = 8) (hb : ∀ b ∈ l, b < 127) (j : Nat) (hj : j < 8) (hp : ∀ k, k < j → 32 ≤ l.getD k 0) :
    0 ≤ belowW (w8 l : Nat) ∧ belowW (w8 l : Nat) < 18446744073709551616 ∧ top j (belowW (w8 l : Nat)).toNat = decide (l.getD j 0 < 32) := by
  have hn := n_lt hl hb
  have e : belowW (w8 l : Nat) = (((w8 l + 256 ^ 8 - w8 (List.replicate 8 32)) % 256 ^ 8 : Nat) : Int) := by
    rw [w8_rep]
    unfold belowW
    simp only [IntKind.wrap_u64]
    omega
  have ht := top_sub j 8 l (List.replicate 8 32) hl (by simp) hj (fun b h => by have := hb b h; omega) (by intro b h; have := List.eq_of_mem_replicate h; omega) (fun k hk => by rw [rep_get 32 k (by omega)]; exact hp k hk)
  rw [rep_get 32 j hj] at ht
  have hlt : (w8 l + 256 ^ 8 - w8 (List.replicate 8 32)) % 256 ^ 8 < 256 ^ 8 := Nat.mod_lt _ (by decide)
  rw [e]
  refine ⟨by omega, by omega, ?_⟩
  rw [Int.toNat_natCast]
  exact ht
theorem contains_top {l : List Nat} (hl : l.length = 8) (hb : ∀ b ∈ l, b < 127) (c : Nat) (hc : c < 128) (j : Nat) (hj : j < 8) (hp : ∀ k, k < j → l.getD k 0 ≠ c) :
    0 ≤ containsW (w8 l : Nat) (c : Int) ∧ containsW (w8 l : Nat) (c : Int) < 18446744073709551616 ∧ top j (containsW (w8 l : Nat) (c : Int)).toNat = decide (l.getD j 0 = c) := by
  have hn := n_lt hl hb
  have hx := w8_xor l (List.replicate 8 c) (by simp [hl]) (fun b h => by have := hb b h; omega) (by intro b h; have := List.eq_of_mem_replicate h; omega)
  rw [w8_rep] at hx
  have hz := zip_lt hl hb c hc
  have hzl := w8_lt _ (fun b h => Nat.lt_trans (hz b h) (by decide : 128 < 256))
  rw [zip_len hl] at hzl
  have e0 : IntKind.u64.wrap (72340172838076673 * IntKind.u64.wrap (c : Int)) = ((c * 72340172838076673 : Nat) : Int) := by
    simp only [IntKind.wrap_u64]
    omega
  have e : containsW (w8 l : Nat) (c : Int) = (((w8 (List.zipWith (· ^^^ ·) l (List.replicate 8 c)) + 256 ^ 8 - w8 (List.replicate 8 1)) % 256 ^ 8 : Nat) : Int) := by
    rw [w8_rep 1]
    unfold containsW
    rw [e0, xor_nat _ _ (by omega) (by omega) (by omega) (by omega), Int.toNat_natCast, Int.toNat_natCast, hx]
    simp only [IntKind.wrap_u64]
    omega
  have ht := top_sub j 8 _ (List.replicate 8 1) (zip_len hl c) (by simp) hj hz (by intro b h; have := List.eq_of_mem_replicate h; omega) (fun k hk => by
    rw [rep_get 1 k (by omega), zip_get hl c k (by omega)]
    have : l.getD k 0 ^^^ c ≠ 0 := fun h => hp k hk ((xor_zero _ _).1 h)
    omega)
  rw [rep_get 1 j hj, zip_get hl c j hj] at ht
  have hlt : (w8 (List.zipWith (· ^^^ ·) l (List.replicate 8 c)) + 256 ^ 8 - w8 (List.replicate 8 1)) % 256 ^ 8 < 256 ^ 8 := Nat.mod_lt _ (by decide)
  rw [e]
  refine ⟨by omega, by omega, ?_⟩
  rw [Int.toNat_natCast, ht]
  congr 1
  apply propext
  rw [show (l.getD j 0 ^^^ c < 1) ↔ (l.getD j 0 ^^^ c = 0) by omega, xor_zero]
theorem or_top (x y : Int) (h0 : 0 ≤ x) (h1 : x < 18446744073709551616) (h2 : 0 ≤ y) (h3 : y < 18446744073709551616) :
    0 ≤ Go.bits .or .u64 x y ∧ Go.bits .or .u64 x y < 18446744073709551616 ∧ ∀ j, top j (Go.bits .or .u64 x y).toNat = (top j x.toNat || top j y.toNat) := by
  have hlt : x.toNat ||| y.toNat < 2 ^ 64 := Nat.or_lt_two_pow (by omega) (by omega)
  rw [or_nat x y h0 h1 h2 h3]
  refine ⟨by omega, by omega, fun j => ?_⟩
  rw [Int.toNat_natCast]
  unfold top
  rw [Nat.testBit_or]
theorem msb_bits : ∀ p : Fin 64, (9259542123273814144 : Nat).testBit p.val = decide (p.val % 8 = 7) := by decide +kernel
/-- The mask's highest bits of the bytes up to the first one that must be escaped. -/
theorem mask_top (h : Bool) {l : List Nat} (hl : l.length = 8) (hb : ∀ b ∈ l, b < 127) (j : Nat) (hj : j < 8) (hp : ∀ k, k < j → must h (l.getD k 0) = false) :
    0 ≤ (if h then mask1 (w8 l : Nat) else mask0 (w8 l : Nat)) ∧ (if h then mask1 (w8 l : Nat) else mask0 (w8 l : Nat)) < 18446744073709551616 ∧ top j (if h then mask1 (w8 l : Nat) else mask0 (w8 l : Nat)).toNat = must h (l.getD j 0) := by
  have hn := n_lt hl hb
  have t0 : top j ((w8 l : Nat) : Int).toNat = false := by rw [Int.toNat_natCast]; exact top_w8 j l (fun b h => by have := hb b h; omega)
  have hm : ∀ k, k < j → 32 ≤ l.getD k 0 ∧ l.getD k 0 ≠ 34 ∧ l.getD k 0 ≠ 92 ∧ (h = true → l.getD k 0 ≠ 60 ∧ l.getD k 0 ≠ 62 ∧ l.getD k 0 ≠ 38) := by
    intro k hk
    have := hp k hk
    unfold must at this
    cases h <;> simp at this <;> simp <;> omega
  obtain ⟨a1, a2, a3⟩ := below_top hl hb j hj (fun k hk => (hm k hk).1)
  obtain ⟨b1, b2, b3⟩ := contains_top hl hb 34 (by decide) j hj (fun k hk => (hm k hk).2.1)
  obtain ⟨c1, c2, c3⟩ := contains_top hl hb 92 (by decide) j hj (fun k hk => (hm k hk).2.2.1)
  obtain ⟨o1, o2, o3⟩ := or_top (w8 l : Nat) (belowW (w8 l : Nat)) (by omega) (by omega) a1 a2
  obtain ⟨p1, p2, p3⟩ := or_top _ (containsW (w8 l : Nat) 34) o1 o2 b1 b2
  obtain ⟨q1, q2, q3⟩ := or_top _ (containsW (w8 l : Nat) 92) p1 p2 c1 c2
  have hq : top j (mask0 (w8 l : Nat)).toNat = (decide (l.getD j 0 < 32) || decide (l.getD j 0 = 34) || decide (l.getD j 0 = 92)) := by
    have := q3 j
    rw [p3 j, o3 j, t0, a3] at this
    unfold mask0
    rw [this]
    rw [show top j (containsW (w8 l : Nat) 34).toNat = _ from b3, show top j (containsW (w8 l : Nat) 92).toNat = _ from c3]
    simp
  have q1' : 0 ≤ mask0 (w8 l : Nat) := by unfold mask0; exact q1
  have q2' : mask0 (w8 l : Nat) < 18446744073709551616 := by unfold mask0; exact q2
  cases h with
  | false =>
    rw [if_neg (by decide)]
    refine ⟨q1', q2', ?_⟩
    rw [hq]
    simp [must]
  | true =>
    obtain ⟨d1, d2, d3⟩ := contains_top hl hb 60 (by decide) j hj (fun k hk => ((hm k hk).2.2.2 rfl).1)
    obtain ⟨e1, e2, e3⟩ := contains_top hl hb 62 (by decide) j hj (fun k hk => ((hm k hk).2.2.2 rfl).2.1)
    obtain ⟨f1, f2, f3⟩ := contains_top hl hb 38 (by decide) j hj (fun k hk => ((hm k hk).2.2.2 rfl).2.2)
    obtain ⟨r1, r2, r3⟩ := or_top (containsW (w8 l : Nat) 60) (containsW (w8 l : Nat) 62) d1 d2 e1 e2
    obtain ⟨s1, s2, s3⟩ := or_top _ (containsW (w8 l : Nat) 38) r1 r2 f1 f2
    obtain ⟨u1, u2, u3⟩ := or_top (mask0 (w8 l : Nat)) _ q1' q2' s1 s2
    rw [if_pos rfl]
    have := u3 j
    rw [s3 j, r3 j, hq] at this
    unfold mask1
    refine ⟨u1, u2, ?_⟩
    rw [this]
    rw [show top j (containsW (w8 l : Nat) 60).toNat = _ from d3, show top j (containsW (w8 l : Nat) 62).toNat = _ from e3, show top j (containsW (w8 l : Nat) 38).toNat = _ from f3]
    simp [must, Bool.or_assoc]
theorem chk_bits (h : Bool) {l : List Nat} (hl : l.length = 8) (hb : ∀ b ∈ l, b < 127) : 0 ≤ chk h (w8 l : Nat) ∧ chk h (w8 l : Nat) < 18446744073709551616 ∧ ∀ p, p < 64 → (∀ k, k < p / 8 → must h (l.getD k 0) = false) → (chk h (w8 l : Nat)).toNat.testBit p = (decide (p % 8 = 7) && must h (l.getD (p / 8) 0)) := by
  obtain ⟨m1, m2, _⟩ := mask_top h hl hb 0 (by decide) (fun k hk => by omega)
  have hlt : (if h then mask1 (w8 l : Nat) else mask0 (w8 l : Nat)).toNat &&& 9259542123273814144 < 2 ^ 64 := Nat.and_lt_two_pow _ (by decide)
  have e : chk h (w8 l : Nat) = (((if h then mask1 (w8 l : Nat) else mask0 (w8 l : Nat)).toNat &&& 9259542123273814144 : Nat) : Int) := by
    unfold chk
    rw [and_nat _ _ m1 m2 (by decide) (by decide)]
    rfl
  rw [e]
  refine ⟨by omega, by omega, fun p hp hq => ?_⟩
  rw [Int.toNat_natCast, Nat.testBit_and, msb_bits ⟨p, hp⟩]
  by_cases h7 : p % 8 = 7
  · obtain ⟨_, _, m3⟩ := mask_top h hl hb (p / 8) (by omega) hq
    unfold top at m3
    rw [show 8 * (p / 8) + 7 = p by omega] at m3
    rw [m3, decide_eq_true h7]
    simp
  · simp [h7]
/-- Where no byte must be escaped the mask is nothing. -/
theorem chk_plain (h : Bool) {l : List Nat} (hl : l.length = 8) (hb : ∀ b ∈ l, b < 127) (hp : ∀ k, k < 8 → must h (l.getD k 0) = false) : chk h (w8 l : Nat) = 0 := by
  obtain ⟨c1, c2, c3⟩ := chk_bits h hl hb
  have : (chk h (w8 l : Nat)).toNat = 0 := by
    apply Nat.eq_of_testBit_eq
    intro p
    rw [Nat.zero_testBit]
    rcases Nat.lt_or_ge p 64 with h1 | h1
    · rw [c3 p h1 (fun k hk => hp k (by omega)), hp (p / 8) (by omega)]
      simp
    · exact Nat.testBit_lt_two_pow (Nat.lt_of_lt_of_le (show (chk h (w8 l : Nat)).toNat < 2 ^ 64 by omega) (Nat.pow_le_pow_right (by decide) h1))
  omega
/-- The first byte that must be escaped: the lowest bit of the mask. -/
theorem chk_first (h : Bool) {l : List Nat} (hl : l.length = 8) (hb : ∀ b ∈ l, b < 127) (i : Nat) (hi : i < 8) (hp : ∀ k, k < i → must h (l.getD k 0) = false) (hm : must h (l.getD i 0) = true) :
    0 < chk h (w8 l : Nat) ∧ chk h (w8 l : Nat) < 18446744073709551616 ∧ Go.bits .and .u64 (chk h (w8 l : Nat)) (IntKind.u64.wrap (-(chk h (w8 l : Nat)))) = ((2 ^ (8 * i + 7) : Nat) : Int) := by
  obtain ⟨c1, c2, c3⟩ := chk_bits h hl hb
  have hq : (chk h (w8 l : Nat)).toNat.testBit (8 * i + 7) = true := by
    rw [c3 (8 * i + 7) (by omega) (fun k hk => hp k (by omega)), show (8 * i + 7) / 8 = i by omega, hm]
    simp
  have hpos : (chk h (w8 l : Nat)).toNat ≠ 0 := fun h0 => by rw [h0] at hq; simp at hq
  have hl' := low_bit (chk h (w8 l : Nat)).toNat (8 * i + 7) (by omega) (by omega) (fun p h1 => by
    rw [c3 p (by omega) (fun k hk => hp k (by omega))]
    by_cases h7 : p % 8 = 7
    · rw [hp (p / 8) (by omega)]; simp
    · simp [h7]) hq
  refine ⟨by omega, c2, ?_⟩
  have e : IntKind.u64.wrap (-(chk h (w8 l : Nat))) = ((2 ^ 64 - (chk h (w8 l : Nat)).toNat : Nat) : Int) := by
    rw [IntKind.wrap_u64]
    omega
  rw [e, and_nat _ _ c1 c2 (by omega) (by omega), Int.toNat_natCast, hl']
end Go.Proofs.YtlagcfdojbjmmaaDoor.Esc
