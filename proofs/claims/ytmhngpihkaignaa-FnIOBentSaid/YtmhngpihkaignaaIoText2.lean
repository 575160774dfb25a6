/- The plain side of the statements on times: the definition's text of a time, as a list of bytes; for every time whose parts lie in their ranges. -/
import Derived.Test.YtmhngpihkaignaaIoText
import Derived.Test.YtmhngpihkaignaaMFnIOValidx2
namespace Go.Proofs.Ytmhngpihkaignaa.IoText
open Go.RowKit Go.Proofs.Ytmhngpihkaignaa.PFnIOValid Go.Proofs.YtmhngpihkaignaaW.PrintWords Go.Proofs.YtmhngpihkaignaaW.PrintLast
set_option linter.unusedVariables false
set_option linter.unusedSimpArgs false

/-- A number in two digits. -/
def d2 (n : Int) : List Int := [48 + n / 10 % 10, 48 + n % 10]
theorem d2_len (n : Int) : (d2 n).length = 2 := rfl
theorem d2_dig (n : Int) : ∀ x ∈ d2 n, dig x = true := by
  intro x hx
  simp only [d2, List.mem_cons, List.mem_nil_iff, or_false] at hx
  unfold dig
  rcases hx with rfl | rfl <;> simp <;> omega
theorem d2_ok (n : Int) : okB (d2 n) := by
  intro x hx
  simp only [d2, List.mem_cons, List.mem_nil_iff, or_false] at hx
  rcases hx with rfl | rfl <;> omega
theorem ioTwo_is (n : Int) (h0 : 0 ≤ n) (h1 : n < 1000000000) : spec_ioTwo.f n = some (strOfNums (d2 n)) := by
  unfold spec_ioTwo.f d2
  have e1 : Int.tdiv n 10 = n / 10 := Int.tdiv_eq_ediv_of_nonneg h0
  have e2 : wrap64 (n / 10) = n / 10 := by unfold wrap64; omega
  have e3 : Int.tmod (n / 10) 10 = n / 10 % 10 := Int.tmod_eq_emod_of_nonneg (by omega)
  have e4 : Int.tmod n 10 = n % 10 := Int.tmod_eq_emod_of_nonneg h0
  have e5 : wrap64 (48 + n / 10 % 10) % 256 = 48 + n / 10 % 10 := by unfold wrap64; omega
  have e6 : wrap64 (48 + n % 10) % 256 = 48 + n % 10 := by unfold wrap64; omega
  rw [e1, e2, e3, e4, e5, e6]
def date (Y M D : Int) : List Int := d2 (Y / 100) ++ d2 Y ++ [45] ++ d2 M ++ [45] ++ d2 D
def clock (h m s : Int) : List Int := d2 h ++ [58] ++ d2 m ++ [58] ++ d2 s
/-- The zone's text: none, Z, by numbers with a colon, by numbers alone. -/
def zone (z o : Int) : List Int :=
  if z = 1 then [90] else
  if z = 2 then ((if o < 0 then [45] else [43]) ++ d2 ((if o < 0 then -o else o) / 60)) ++ [58] ++ d2 ((if o < 0 then -o else o) % 60) else
  if z = 3 then ((if o < 0 then [45] else [43]) ++ d2 ((if o < 0 then -o else o) / 60)) ++ d2 ((if o < 0 then -o else o) % 60) else []
/-- The part of a second's text. -/
def frac (dg : List Int) : List Int := if dg = [] then [] else 46 :: dg
theorem e45 : (⟨#[45]⟩ : ByteArray) = strOfNums [45] := rfl
theorem e43 : (⟨#[43]⟩ : ByteArray) = strOfNums [43] := rfl
theorem e58 : (⟨#[58]⟩ : ByteArray) = strOfNums [58] := rfl
theorem e32 : (⟨#[32]⟩ : ByteArray) = strOfNums [32] := rfl
theorem e84 : (⟨#[84]⟩ : ByteArray) = strOfNums [84] := rfl
theorem e46 : (⟨#[46]⟩ : ByteArray) = strOfNums [46] := rfl
theorem e90 : (⟨#[90]⟩ : ByteArray) = strOfNums [90] := rfl
theorem e0 : (⟨#[]⟩ : ByteArray) = strOfNums [] := rfl

section
variable (Y M D h m s : Int) (bl tm : Bool) (dgs part z o : Int)
theorem j4_is (X : List Int) (x7 : Int) (x8 : List Int) (hX : X.length < 1000) (h0 : 0 ≤ x7) (h1 : x7 < 1000000) (h8 : x8.length ≤ 10) (k : Nat) :
    spec_IOText.j4 (k + 1) (strOfNums X) x7 (strOfNums x8) Y M D h m s bl tm dgs part z o = some (strOfNums (X ++ ((x8 ++ d2 (x7 / 60)) ++ (if z = 2 then [58] else []) ++ d2 (x7 % 60)))) := by
  have e1 : Int.tdiv x7 60 = x7 / 60 := Int.tdiv_eq_ediv_of_nonneg h0
  have e2 : wrap64 (x7 / 60) = x7 / 60 := by unfold wrap64; omega
  have e3 : Int.tmod x7 60 = x7 % 60 := Int.tmod_eq_emod_of_nonneg h0
  rw [spec_IOText.j4, e1, e2, e3, ioTwo_is _ (by omega) (by omega), Option.bind_some]
  rw [if_pos (by rw [strOfNums_size, strOfNums_size, d2_len]; omega), str_app, if_pos (by rw [strOfNums_size, strOfNums_size, List.length_append, d2_len]; omega), str_app]
  by_cases hz : z = 2
  · rw [if_pos hz, if_pos hz, if_pos (by rw [strOfNums_size, List.length_append, List.length_append, d2_len]; omega), e58, str_app, ioTwo_is _ (by omega) (by omega), Option.bind_some]
    rw [if_pos (by rw [strOfNums_size, strOfNums_size]; simp only [List.length_append, d2_len, List.length_cons, List.length_nil]; omega), str_app]
    simp [List.append_assoc]
  · rw [if_neg hz, if_neg hz, ioTwo_is _ (by omega) (by omega), Option.bind_some]
    rw [if_pos (by rw [strOfNums_size, strOfNums_size]; simp only [List.length_append, d2_len, List.length_cons, List.length_nil]; omega), str_app]
    simp [List.append_assoc]
theorem j3_is (X : List Int) (hX : X.length < 1000) (ho : -1000 < o) (ho' : o < 1000) (hz : z = 2 ∨ z = 3) (k : Nat) :
    spec_IOText.j3 (k + 2) (strOfNums X) true Y M D h m s bl tm dgs part z o = some (strOfNums (X ++ zone z o)) := by
  have ew : wrap64 (-o) = -o := by unfold wrap64; omega
  rw [spec_IOText.j3, if_pos rfl]
  by_cases hn : o < 0
  · rw [if_pos hn, ew, e45, j4_is Y M D h m s bl tm dgs part z o X (-o) [45] hX (by omega) (by omega) (by simp)]
    unfold zone
    rcases hz with rfl | rfl <;> simp [hn, List.append_assoc]
  · rw [if_neg hn, e43, j4_is Y M D h m s bl tm dgs part z o X o [43] hX (by omega) (by omega) (by simp)]
    unfold zone
    rcases hz with rfl | rfl <;> simp [hn, List.append_assoc]
theorem j2_is (X : List Int) (hX : X.length < 1000) (ho : -1000 < o) (ho' : o < 1000) (hz0 : 0 ≤ z) (hz1 : z ≤ 3) (k : Nat) :
    spec_IOText.j2 (k + 3) (strOfNums X) Y M D h m s bl tm dgs part z o = some (strOfNums (X ++ zone z o)) := by
  rw [spec_IOText.j2]
  by_cases z1 : z = 1
  · rw [if_pos z1, if_pos (by rw [strOfNums_size]; omega), e90, str_app]
    unfold zone
    rw [if_pos z1]
  rw [if_neg z1]
  by_cases z2 : z = 2
  · rw [if_pos z2, beq_iff_eq.2 z2, j3_is Y M D h m s bl tm dgs part z o X hX ho ho' (Or.inl z2)]
  rw [if_neg z2]
  by_cases z3 : z = 3
  · rw [beq_iff_eq.2 z3, j3_is Y M D h m s bl tm dgs part z o X hX ho ho' (Or.inr z3)]
  · rw [beq_eq_false_iff_ne.2 z3, spec_IOText.j3, if_neg (by simp)]
    unfold zone
    rw [if_neg z1, if_neg z2, if_neg z3, List.append_nil]
theorem l0_is (X : List Int) (hX : X.length < 500) (hd1 : dgs ≤ 9) (ho : -1000 < o) (ho' : o < 1000) (hz0 : 0 ≤ z) (hz1 : z ≤ 3) (d : Nat) : ∀ (k : Nat) (p : List Int) (i n : Int), 0 ≤ i → i ≤ dgs → dgs - i = d → d + 4 ≤ k → (p.length : Int) = i → (∀ x ∈ p, dig x = true) → 0 ≤ n → n < 1000000000 →
    ∃ dg, (dg.length : Int) = dgs ∧ (∀ x ∈ dg, dig x = true) ∧ spec_IOText.l0 k (strOfNums X) (strOfNums p) i n Y M D h m s bl tm dgs part z o = some (strOfNums (X ++ dg ++ zone z o)) := by
  induction d with
  | zero =>
    intro k p i n h0 h1 hd hk hp hx n0 n1
    obtain ⟨k, rfl⟩ : ∃ m, k = m + 1 := ⟨k - 1, by omega⟩
    refine ⟨p, by omega, hx, ?_⟩
    obtain ⟨k, rfl⟩ : ∃ m, k = m + 3 := ⟨k - 3, by omega⟩
    rw [spec_IOText.l0, if_neg (by omega), if_pos (by rw [strOfNums_size, strOfNums_size]; omega), str_app]
    exact j2_is Y M D h m s bl tm dgs part z o (X ++ p) (by rw [List.length_append]; omega) ho ho' hz0 hz1 k
  | succ d ih =>
    intro k p i n h0 h1 hd hk hp hx n0 n1
    obtain ⟨k, rfl⟩ : ∃ m, k = m + 1 := ⟨k - 1, by omega⟩
    have e1 : Int.tdiv n 10 = n / 10 := Int.tdiv_eq_ediv_of_nonneg n0
    have e2 : wrap64 (n / 10) = n / 10 := by unfold wrap64; omega
    have e4 : Int.tmod n 10 = n % 10 := Int.tmod_eq_emod_of_nonneg n0
    have e6 : wrap64 (48 + n % 10) % 256 = 48 + n % 10 := by unfold wrap64; omega
    have e7 : wrap64 (i + 1) = i + 1 := by unfold wrap64; omega
    obtain ⟨dg, a1, a2, a3⟩ := ih k ((48 + n % 10) :: p) (i + 1) (n / 10) (by omega) (by omega) (by omega) (by omega) (by simp; omega) (by
      intro x hx'
      rcases List.mem_cons.1 hx' with rfl | hx'
      · unfold dig; simp; omega
      · exact hx x hx') (by omega) (by omega)
    refine ⟨dg, a1, a2, ?_⟩
    rw [spec_IOText.l0, if_pos (by omega), e4, e6, Option.bind_some, if_pos (by rw [strOfNums_size, strOfNums_size]; simp; omega), str_app, e7, e1, e2]
    exact a3
theorem j0_is (X : List Int) (hX : X.length < 400) (h0 : 0 ≤ h) (h1 : h < 100) (m0 : 0 ≤ m) (m1 : m < 100) (s0 : 0 ≤ s) (s1 : s < 100) (hd0 : 0 ≤ dgs) (hd1 : dgs ≤ 9) (p0 : 0 ≤ part) (p1 : part < 1000000000) (ho : -1000 < o) (ho' : o < 1000) (hz0 : 0 ≤ z) (hz1 : z ≤ 3) (k : Nat) (hk : 20 ≤ k) :
    ∃ dg, (dg.length : Int) = dgs ∧ (∀ x ∈ dg, dig x = true) ∧ spec_IOText.j0 (k + 1) (strOfNums X) Y M D h m s bl tm dgs part z o = some (strOfNums (X ++ clock h m s ++ frac dg ++ zone z o)) := by
  have key : ∀ R, (dgs > 0 → spec_IOText.l0 k (strOfNums (X ++ clock h m s ++ [46])) (strOfNums []) 0 part Y M D h m s bl tm dgs part z o = R) → (¬ dgs > 0 → spec_IOText.j2 k (strOfNums (X ++ clock h m s)) Y M D h m s bl tm dgs part z o = R) →
      spec_IOText.j0 (k + 1) (strOfNums X) Y M D h m s bl tm dgs part z o = R := by
    intro R r1 r2
    rw [spec_IOText.j0, ioTwo_is h h0 (by omega), Option.bind_some, if_pos (by rw [strOfNums_size, d2_len]; omega), ioTwo_is m m0 (by omega), Option.bind_some, e58, str_app]
    rw [if_pos (by rw [strOfNums_size, strOfNums_size]; simp only [List.length_append, d2_len, List.length_cons, List.length_nil]; omega), str_app]
    rw [if_pos (by rw [strOfNums_size]; simp only [List.length_append, d2_len, List.length_cons, List.length_nil]; omega), str_app, ioTwo_is s s0 (by omega), Option.bind_some]
    rw [if_pos (by rw [strOfNums_size, strOfNums_size]; simp only [List.length_append, d2_len, List.length_cons, List.length_nil]; omega), str_app]
    rw [if_pos (by rw [strOfNums_size, strOfNums_size]; simp only [List.length_append, d2_len, List.length_cons, List.length_nil]; omega), str_app]
    by_cases hd : dgs > 0
    · rw [if_pos hd, if_pos (by rw [strOfNums_size]; simp only [List.length_append, d2_len, List.length_cons, List.length_nil]; omega), e46, str_app, e0]
      exact r1 hd
    · rw [if_neg hd]
      exact r2 hd
  have hcl : (clock h m s).length = 8 := rfl
  by_cases hd : dgs > 0
  · obtain ⟨dg, a1, a2, a3⟩ := l0_is Y M D h m s bl tm dgs part z o (X ++ clock h m s ++ [46]) (by simp only [List.length_append, hcl, List.length_cons, List.length_nil]; omega) hd1 ho ho' hz0 hz1 dgs.toNat k [] 0 part (by omega) (by omega) (by omega) (by omega) rfl (by simp) p0 p1
    refine ⟨dg, a1, a2, key _ (fun _ => ?_) (fun h => absurd hd h)⟩
    rw [a3]
    have hne : dg ≠ [] := by intro e; rw [e] at a1; simp at a1; omega
    unfold frac
    rw [if_neg hne]
    simp [List.append_assoc]
  · refine ⟨[], by simp; omega, by simp, key _ (fun h => absurd h hd) (fun _ => ?_)⟩
    obtain ⟨k, rfl⟩ : ∃ m, k = m + 3 := ⟨k - 3, by omega⟩
    rw [j2_is Y M D h m s bl tm dgs part z o (X ++ clock h m s) (by simp only [List.length_append, hcl]; omega) ho ho' hz0 hz1 k]
    unfold frac
    rw [if_pos rfl, List.append_nil]
/-- The whole text. -/
theorem text_is (y0 : 0 ≤ Y) (y1 : Y < 10000) (mo0 : 0 ≤ M) (mo1 : M < 100) (da0 : 0 ≤ D) (da1 : D < 100) (h0 : 0 ≤ h) (h1 : h < 100) (m0 : 0 ≤ m) (m1 : m < 100) (s0 : 0 ≤ s) (s1 : s < 100) (hd0 : 0 ≤ dgs) (hd1 : dgs ≤ 9) (p0 : 0 ≤ part) (p1 : part < 1000000000) (ho : -1000 < o) (ho' : o < 1000) (hz0 : 0 ≤ z) (hz1 : z ≤ 3) :
    ∃ dg, (dg.length : Int) = dgs ∧ (∀ x ∈ dg, dig x = true) ∧ spec_IOText.f 40 Y M D h m s bl tm dgs part z o =
      some (strOfNums (date Y M D ++ if tm = true then [if bl = true then 32 else 84] ++ clock h m s ++ frac dg ++ zone z o else [])) := by
  have e1 : Int.tdiv Y 100 = Y / 100 := Int.tdiv_eq_ediv_of_nonneg y0
  have e2 : wrap64 (Y / 100) = Y / 100 := by unfold wrap64; omega
  have hdl : (date Y M D).length = 10 := rfl
  have key : ∀ R, (tm = true → ∀ c, c = (if bl = true then 32 else 84) → spec_IOText.j0 40 (strOfNums (date Y M D ++ [c])) Y M D h m s bl tm dgs part z o = R) → (¬ tm = true → some (strOfNums (date Y M D)) = R) →
      spec_IOText.f 40 Y M D h m s bl tm dgs part z o = R := by
    intro R r1 r2
    unfold spec_IOText.f
    rw [e1, e2, ioTwo_is _ (by omega) (by omega), Option.bind_some, ioTwo_is Y y0 (by omega), Option.bind_some, if_pos (by rw [strOfNums_size, strOfNums_size, d2_len, d2_len]; omega), str_app]
    rw [if_pos (by rw [strOfNums_size]; simp only [List.length_append, d2_len]; omega), ioTwo_is M mo0 (by omega), Option.bind_some, e45, str_app]
    rw [if_pos (by rw [strOfNums_size, strOfNums_size]; simp only [List.length_append, d2_len, List.length_cons, List.length_nil]; omega), str_app]
    rw [if_pos (by rw [strOfNums_size]; simp only [List.length_append, d2_len, List.length_cons, List.length_nil]; omega), ioTwo_is D da0 (by omega), Option.bind_some, str_app]
    rw [if_pos (by rw [strOfNums_size, strOfNums_size]; simp only [List.length_append, d2_len, List.length_cons, List.length_nil]; omega), str_app]
    by_cases ht : tm = true
    · rw [if_pos ht]
      by_cases hb : bl = true
      · rw [if_pos hb, if_pos (by rw [strOfNums_size]; simp only [List.length_append, d2_len, List.length_cons, List.length_nil]; omega), e32, str_app]
        exact r1 ht 32 (by rw [if_pos hb])
      · rw [if_neg hb, if_pos (by rw [strOfNums_size]; simp only [List.length_append, d2_len, List.length_cons, List.length_nil]; omega), e84, str_app]
        exact r1 ht 84 (by rw [if_neg hb])
    · rw [if_neg ht]
      exact r2 ht
  obtain ⟨c, hc⟩ : ∃ c : Int, c = (if bl = true then 32 else 84) := ⟨_, rfl⟩
  obtain ⟨dg, a1, a2, a3⟩ := j0_is Y M D h m s bl tm dgs part z o (date Y M D ++ [c]) (by simp only [List.length_append, hdl, List.length_cons, List.length_nil]; omega) h0 h1 m0 m1 s0 s1 hd0 hd1 p0 p1 ho ho' hz0 hz1 39 (by omega)
  refine ⟨dg, a1, a2, key _ (fun ht c' hc' => ?_) (fun ht => ?_)⟩
  · rw [if_pos ht, hc', ← hc, a3]
    simp [List.append_assoc]
  · rw [if_neg ht, List.append_nil]
end
end Go.Proofs.Ytmhngpihkaignaa.IoText
