/- A text begins, or ends, with another one but for small and capital letters as the definition says, as bytes and as texts, and with parts of itself it does; for all texts and places, with no condition. -/
import Derived.Test.YtmhngpihkaignaaMFnASEndsx3
import Derived.Laws.BitsLemmas
import Derived.OpenShut
import Derived.Lib.Strings
namespace Go.Proofs.Ytmhngpihkaignaa.Pure
open Go.RowKit Go.Proofs.Ytmhngpihkaignaa.PFnASEnds Go.Proofs.YtmhngpihkaignaaW.PrintWords Go.Proofs.YtmhngpihkaignaaW.PrintLast

set_option linter.unusedVariables false
set_option linter.unusedSimpArgs false
theorem wf8 {a : Int} (h : (Lit.int .u8 a).wf = true) : 0 ≤ a ∧ a < 256 := by
  have := bounds_u8 h
  omega
theorem wrap_up {i : Int} {n : Nat} (h0 : 0 ≤ i) (h : i < (n : Int)) (hn : n ≤ 140737488351232) : wrap64 (i + 1) = i + 1 := by
  unfold wrap64
  omega
theorem byte_str (xs : List Int) (wf : ∀ x ∈ xs, 0 ≤ x ∧ x < 256) (i : Int) (h0 : 0 ≤ i) (h : i < xs.length) : bt (strOfNums xs) i = rd xs i := by
  have hi : i.toNat < xs.length := by omega
  have hsz : i.toNat < (strOfNums xs).size := by rw [strOfNums_size]; exact hi
  unfold bt rd
  rw [dif_pos hsz]
  have e : (strOfNums xs)[i.toNat]'hsz = UInt8.ofNat (xs[i.toNat]).toNat := by
    show (strOfNums xs).data[i.toNat] = _
    simp [strOfNums]
  rw [e]
  have := wf _ (List.getElem_mem hi)
  rw [List.getD_eq_getElem?_getD, List.getElem?_eq_getElem hi, Option.getD_some]
  simp only [UInt8.toNat_ofNat', Nat.reducePow]
  omega

/-- A letter as a small one. -/
def lw (c : Int) : Int := if 65 ≤ c ∧ c ≤ 90 then c + 32 else c
theorem lower_is (c : Int) : ascii_lower.f c = some (lw c) := by
  unfold ascii_lower.f lw
  by_cases h1 : 65 ≤ c
  · by_cases h2 : c ≤ 90
    · rw [if_pos h1, if_pos h2, if_pos ⟨h1, h2⟩]; congr 1; omega
    · rw [if_pos h1, if_neg h2, if_neg (by omega)]
  · rw [if_neg h1, if_neg (by omega)]
theorem slower_is (c : Int) : spec_ASLower.f c = some (lw c) := by
  unfold spec_ASLower.f lw
  by_cases h1 : 65 ≤ c
  · by_cases h2 : c ≤ 90
    · rw [if_pos h1, if_pos h2, if_pos ⟨h1, h2⟩]; congr 1; omega
    · rw [if_pos h1, if_neg h2, if_neg (by omega)]
  · rw [if_neg h1, if_neg (by omega)]
/-- Two texts, from a place on, but for small and capital letters. -/
def same (xs ys : List Int) (n : Nat) : Bool := decide ((xs.drop n).map lw = (ys.drop n).map lw)
theorem same_step (xs ys : List Int) (n : Nat) (hx : n < xs.length) (hy : n < ys.length) : same xs ys n = (decide (lw (rd xs n) = lw (rd ys n)) && same xs ys (n + 1)) := by
  unfold same rd
  rw [List.drop_eq_getElem_cons hx, List.drop_eq_getElem_cons hy, List.map_cons, List.map_cons]
  simp [List.getD_eq_getElem?_getD, List.getElem?_eq_getElem hx, List.getElem?_eq_getElem hy]
theorem fold_loops (xs ys : List Int) (wx : ∀ x ∈ xs, 0 ≤ x ∧ x < 256) (wy : ∀ x ∈ ys, 0 ≤ x ∧ x < 256) (hl : xs.length = ys.length) (hn : xs.length ≤ 140737488351232) (d : Nat) : ∀ (k : Nat) (i : Int), 0 ≤ i → i ≤ xs.length → (xs.length : Int) - i = d → d < k →
    ascii_EqualFoldString_63.l0 k (strOfNums xs) (strOfNums ys) i = some (same xs ys i.toNat) ∧ spec_ASFold.l0 k xs ys i = some (same xs ys i.toNat) := by
  induction d with
  | zero =>
    intro k i h0 h1 hd hk
    obtain ⟨k, rfl⟩ : ∃ m, k = m + 1 := ⟨k - 1, by omega⟩
    have e : same xs ys i.toNat = true := by
      unfold same
      rw [List.drop_eq_nil_of_le (by omega), List.drop_eq_nil_of_le (by omega)]
      rfl
    rw [e]
    constructor
    · simp only [ascii_EqualFoldString_63.l0]; rw [if_neg (by rw [strOfNums_size]; omega)]
    · simp only [spec_ASFold.l0]; rw [if_neg (by omega)]
  | succ d ih =>
    intro k i h0 h1 hd hk
    obtain ⟨k, rfl⟩ : ∃ m, k = m + 1 := ⟨k - 1, by omega⟩
    have hlt : i < (xs.length : Int) := by omega
    have hlt' : i < (ys.length : Int) := by omega
    have e := byte_str xs wx i h0 hlt
    have e' := byte_str ys wy i h0 hlt'
    have hw := wrap_up h0 hlt hn
    obtain ⟨hb1, hb2⟩ := ih k (i + 1) (by omega) (by omega) (by omega) (by omega)
    have en : (i + 1).toNat = i.toNat + 1 := by omega
    rw [en] at hb1 hb2
    have st := same_step xs ys i.toNat (by omega) (by omega)
    have ei : ((i.toNat : Nat) : Int) = i := by omega
    rw [ei] at st
    rw [st]
    constructor
    · simp only [ascii_EqualFoldString_63.l0]
      rw [if_pos (by rw [strOfNums_size]; exact hlt), if_pos h0, e, lower_is]; simp only [Option.bind_some]
      rw [if_pos (by rw [strOfNums_size]; exact hlt'), e', lower_is]; simp only [Option.bind_some]
      by_cases c : lw (rd xs i) = lw (rd ys i)
      · rw [if_pos c, hw, hb1, decide_eq_true c]; rfl
      · rw [if_neg c, decide_eq_false c]; rfl
    · simp only [spec_ASFold.l0]
      rw [if_pos hlt, if_pos h0, slower_is]; simp only [Option.bind_some]
      rw [if_pos hlt', slower_is]; simp only [Option.bind_some]
      by_cases c : lw (rd xs i) = lw (rd ys i)
      · rw [if_pos c, hw, hb2, decide_eq_true c]; rfl
      · rw [if_neg c, decide_eq_false c]; rfl
/-- Two texts are the same but for small and capital letters. -/
def eqf (xs ys : List Int) : Bool := decide (xs.map lw = ys.map lw)
theorem eqf_ne (xs ys : List Int) (h : xs.length ≠ ys.length) : eqf xs ys = false := by
  unfold eqf
  refine decide_eq_false fun e => h ?_
  have := congrArg List.length e
  simpa using this
theorem eqf_comm (xs ys : List Int) : eqf xs ys = eqf ys xs := by
  unfold eqf
  exact decide_eq_decide.mpr ⟨Eq.symm, Eq.symm⟩
theorem fold_str (xs ys : List Int) (wx : ∀ x ∈ xs, 0 ≤ x ∧ x < 256) (wy : ∀ x ∈ ys, 0 ≤ x ∧ x < 256) (hn : xs.length ≤ 100) (k : Nat) (hk : 101 ≤ k) :
    ascii_EqualFoldString_63.f k (strOfNums xs) (strOfNums ys) = some (eqf xs ys) ∧ spec_ASFold.f k xs ys = some (eqf xs ys) := by
  unfold ascii_EqualFoldString_63.f spec_ASFold.f
  rw [strOfNums_size, strOfNums_size]
  by_cases hl : xs.length = ys.length
  · rw [if_pos (by omega), if_pos (by omega)]
    exact fold_loops xs ys wx wy hl (by omega) xs.length k 0 (by omega) (by omega) (by omega) (by omega)
  · rw [if_neg (by omega), if_neg (by omega), eqf_ne _ _ hl]
    exact ⟨rfl, rfl⟩
theorem mask127 : ∀ n : Fin 256, 0 ≤ Go.bits .and .u8 (n.val : Int) 127 ∧ Go.bits .and .u8 (n.val : Int) 127 < 128 := by decide +kernel
theorem only_loop (t : List Int) (wf : ∀ x ∈ t, 0 ≤ x ∧ x < 256) (hn : t.length ≤ 100) (d : Nat) : ∀ (k : Nat) (o : List Int) (i : Int), 0 ≤ i → i ≤ t.length → (t.length : Int) - i = d → d < k → o.length = i.toNat → (∀ x ∈ o, 0 ≤ x ∧ x < 128) →
    ∃ r, laws_asOnly.l0 k o t (t.length : Int) i = some r ∧ r.length = t.length ∧ ∀ x ∈ r, 0 ≤ x ∧ x < 128 := by
  induction d with
  | zero =>
    intro k o i h0 h1 hd hk hol hox
    obtain ⟨k, rfl⟩ : ∃ m, k = m + 1 := ⟨k - 1, by omega⟩
    exact ⟨o, by simp only [laws_asOnly.l0]; rw [if_neg (by omega)], by omega, hox⟩
  | succ d ih =>
    intro k o i h0 h1 hd hk hol hox
    obtain ⟨k, rfl⟩ : ∃ m, k = m + 1 := ⟨k - 1, by omega⟩
    have hlt : i < (t.length : Int) := by omega
    have hr : 0 ≤ rd t i ∧ rd t i < 256 := by
      unfold rd
      rw [List.getD_eq_getElem?_getD, List.getElem?_eq_getElem (by omega : i.toNat < t.length)]
      exact wf _ (List.getElem_mem _)
    have hm := mask127 ⟨(rd t i).toNat, by omega⟩
    have ec : (((rd t i).toNat : Nat) : Int) = rd t i := by omega
    simp only [ec] at hm
    obtain ⟨r, a1, a2, a3⟩ := ih k (o ++ [Go.bits .and .u8 (rd t i) 127]) (i + 1) (by omega) (by omega) (by omega) (by omega) (by simp; omega) (by
      intro x hx
      rcases List.mem_append.1 hx with hx | hx
      · exact hox x hx
      · simp at hx; subst hx; exact hm)
    refine ⟨r, ?_, a2, a3⟩
    simp only [laws_asOnly.l0]
    rw [if_pos hlt, if_pos h0, if_pos hlt, if_pos (by omega), wrap_up h0 hlt (by omega)]
    exact a1
theorem only_is (l0 : List Int) (wf : ∀ x ∈ l0, 0 ≤ x ∧ x < 256) (k : Nat) (hk : 101 ≤ k) : ∃ r, laws_asOnly.f k l0 = some r ∧ r.length ≤ 100 ∧ ∀ x ∈ r, 0 ≤ x ∧ x < 128 := by
  have hm : 0 ≤ mn (l0.length : Int) 100 ∧ mn (l0.length : Int) 100 ≤ l0.length ∧ mn (l0.length : Int) 100 ≤ 100 := by unfold mn; split <;> omega
  have hfew : laws_asFew.f l0 = some (l0.take (mn (l0.length : Int) 100).toNat) := by
    unfold laws_asFew.f; rw [if_pos hm.1, if_pos hm.2.1]
  have hlen : (l0.take (mn (l0.length : Int) 100).toNat).length ≤ 100 := by rw [List.length_take]; omega
  obtain ⟨r, a1, a2, a3⟩ := only_loop _ (fun x hx => wf x (List.mem_of_mem_take hx)) hlen (l0.take (mn (l0.length : Int) 100).toNat).length k [] 0 (by omega) (by omega) (by omega) (by omega) rfl (by simp)
  refine ⟨r, ?_, by omega, a3⟩
  unfold laws_asOnly.f
  rw [hfew]
  exact a1
theorem only_at (l0 : List Int) (wf : ∀ x ∈ l0, 0 ≤ x ∧ x < 256) : ∃ r, (∀ k, 101 ≤ k → laws_asOnly.f k l0 = some r) ∧ r.length ≤ 100 ∧ ∀ x ∈ r, 0 ≤ x ∧ x < 128 := by
  obtain ⟨r, a1, a2, a3⟩ := only_is l0 wf 101 (by omega)
  refine ⟨r, fun k hk => ?_, a2, a3⟩
  exact at_rounds (fun k => laws_asOnly.mono l0 k) hk a1

theorem str_take (a : List Int) (n : Nat) : (strOfNums a).extract 0 n = strOfNums (a.take n) := by
  apply ByteArray.ext
  apply Array.toList_inj.mp
  rw [Lib.extract_data]
  simp [strOfNums, List.map_take]
theorem str_drop (a : List Int) (n : Nat) : (strOfNums a).extract n (strOfNums a).size = strOfNums (a.drop n) := by
  apply ByteArray.ext
  apply Array.toList_inj.mp
  rw [Lib.extract_data, strOfNums_size]
  simp only [strOfNums, List.map_drop]
  rw [List.take_of_length_le (by simp)]
theorem up128 {xs : List Int} (wx : ∀ x ∈ xs, 0 ≤ x ∧ x < 128) : ∀ x ∈ xs, 0 ≤ x ∧ x < 256 := fun x hx => ⟨(wx x hx).1, by have := (wx x hx).2; omega⟩
/-- A text begins with another one; a text ends with another one. -/
def pf (a b : List Int) : Bool := if b.length ≤ a.length then eqf (a.take b.length) b else false
def sf (a b : List Int) : Bool := if b.length ≤ a.length then eqf (a.drop (a.length - b.length)) b else false
theorem both_pf (a b : List Int) (wa : ∀ x ∈ a, 0 ≤ x ∧ x < 128) (wb : ∀ x ∈ b, 0 ≤ x ∧ x < 128) (hn : a.length ≤ 100) (k : Nat) (hk : 101 ≤ k) :
    (∀ t, impl_ASPrefix.f k a b t = some (pf a b)) ∧ spec_ASPrefix.f k a b = some (pf a b) := by
  unfold impl_ASPrefix.f ascii_HasPrefixFoldString_53.f ascii_HasPrefixFold_54.f ascii_HasPrefixFold_74.f ascii_HasPrefixFoldString_73.f spec_ASPrefix.f
  rw [strOfNums_size, strOfNums_size]
  by_cases h : b.length ≤ a.length
  · have e1 : pf a b = eqf (a.take b.length) b := by unfold pf; rw [if_pos h]
    have c1 : (a.length : Int) ≥ (b.length : Int) := by omega
    have c2 : 0 ≤ (b.length : Int) := by omega
    have c3 : (b.length : Int) ≤ (a.length : Int) := by omega
    simp only [if_pos c1, if_pos c2, if_pos c3]
    have e : ((b.length : Int)).toNat = b.length := by omega
    rw [e, str_take, e1]
    obtain ⟨h1, h2⟩ := fold_str (a.take b.length) b (fun x hx => up128 wa x (List.mem_of_mem_take hx)) (up128 wb) (by rw [List.length_take]; omega) k hk
    rw [h1, h2]
    exact ⟨fun t => by cases t <;> rfl, rfl⟩
  · have e1 : pf a b = false := by unfold pf; rw [if_neg h]
    have c1 : ¬ (a.length : Int) ≥ (b.length : Int) := by omega
    have c3 : ¬ (b.length : Int) ≤ (a.length : Int) := by omega
    simp only [if_neg c1, if_neg c3, e1]
    exact ⟨fun t => by cases t <;> rfl, trivial⟩
theorem both_sf (a b : List Int) (wa : ∀ x ∈ a, 0 ≤ x ∧ x < 128) (wb : ∀ x ∈ b, 0 ≤ x ∧ x < 128) (hn : a.length ≤ 100) (k : Nat) (hk : 101 ≤ k) :
    (∀ t, impl_ASSuffix.f k a b t = some (sf a b)) ∧ spec_ASSuffix.f k a b = some (sf a b) := by
  unfold impl_ASSuffix.f ascii_HasSuffixFoldString_55.f ascii_HasSuffixFold_56.f ascii_HasSuffixFold_76.f ascii_HasSuffixFoldString_75.f spec_ASSuffix.f
  by_cases h : b.length ≤ a.length
  · have e1 : sf a b = eqf (a.drop (a.length - b.length)) b := by unfold sf; rw [if_pos h]
    have ew : wrap64 ((a.length : Int) - (b.length : Int)) = (a.length : Int) - (b.length : Int) := by unfold wrap64; omega
    have e : ((a.length : Int) - (b.length : Int)).toNat = a.length - b.length := by omega
    have es : wrap64 (((strOfNums a).size : Int) - ((strOfNums b).size : Int)) = (a.length : Int) - (b.length : Int) := by rw [strOfNums_size, strOfNums_size]; exact ew
    rw [es, ew, e, str_drop, strOfNums_size, strOfNums_size]
    have c1 : (a.length : Int) ≥ (b.length : Int) := by omega
    have c2 : 0 ≤ (a.length : Int) - (b.length : Int) := by omega
    have c3 : (a.length : Int) - (b.length : Int) ≤ (a.length : Int) := by omega
    have c4 : (b.length : Int) ≤ (a.length : Int) := by omega
    simp only [if_pos c1, if_pos c2, if_pos c3, if_pos c4]
    rw [e1]
    obtain ⟨h1, h2⟩ := fold_str (a.drop (a.length - b.length)) b (fun x hx => up128 wa x (List.mem_of_mem_drop hx)) (up128 wb) (by rw [List.length_drop]; omega) k hk
    rw [h1, h2]
    exact ⟨fun t => by cases t <;> rfl, rfl⟩
  · have e1 : sf a b = false := by unfold sf; rw [if_neg h]
    have c1 : ¬ (a.length : Int) ≥ (b.length : Int) := by omega
    have c3 : ¬ (b.length : Int) ≤ (a.length : Int) := by omega
    rw [strOfNums_size, strOfNums_size]
    simp only [if_neg c1, if_neg c3, e1]
    exact ⟨fun t => by cases t <;> rfl, trivial⟩
theorem pf_own (a : List Int) (n : Nat) (h : n ≤ a.length) : pf a (a.take n) = true := by
  have e : (a.take n).length = n := by rw [List.length_take]; omega
  unfold pf
  rw [e, if_pos h]
  exact decide_eq_true rfl
theorem sf_own (a : List Int) (n : Nat) (h : n ≤ a.length) : sf a (a.drop n) = true := by
  have e : (a.drop n).length = a.length - n := List.length_drop ..
  unfold sf
  rw [e, if_pos (by omega)]
  have e2 : a.length - (a.length - n) = n := by omega
  rw [e2]
  exact decide_eq_true rfl

/-- The plain statement: ∀ (l0 : List Int) (l1 : List Int) (a2 : Int), l0.length ≤ maxLen → l0.length * 1 ≤ 140737488351232 → (∀ x ∈ l0, (Lit.int .u8 x).wf = true) → l1.length ≤ maxLen → l1.length * 1 ≤ 140737488351232 → (∀ x ∈ l1, (Lit.int .u8 x).wf = true) → (Lit.int .u8 a2).wf = true → ∃ k, laws_FnASEnds.f k l0 l1 a2 = some true
What it reaches (each with k first where it has rounds; `.mono`: more rounds tell the same; `.l0`, ..: its loops, with `.mono_l`): laws_asFew.f, laws_asOnly.f, ascii_lower.f, ascii_EqualFoldString_63.f, ascii_EqualFoldString_42.f, ascii_EqualFold_64.f, ascii_EqualFold_43.f, impl_ASFold.f, ascii_ValidByte.f, ascii_ValidString_65.f, ascii_ValidString_45.f, ascii_Valid_66.f, ascii_Valid_46.f, impl_ASValid.f, ascii_ValidPrintByte.f, ascii_ValidPrintString_67.f, ascii_ValidPrintString_47.f, ascii_ValidPrint_68.f, ascii_ValidPrint_48.f, impl_ASPrint.f, laws_asAwake.f, ascii_HasPrefixFoldString_73.f, ascii_HasPrefixFoldString_53.f, ascii_HasPrefixFold_74.f, ascii_HasPrefixFold_54.f, impl_ASPrefix.f, spec_ASLower.f, spec_ASFold.f, spec_ASPrefix.f, ascii_HasSuffixFoldString_75.f, ascii_HasSuffixFoldString_55.f, ascii_HasSuffixFold_76.f, ascii_HasSuffixFold_56.f, impl_ASSuffix.f, spec_ASSuffix.f, laws_FnASEnds.f -/
theorem FnASEnds : laws_FnASEnds.Pure := by
  intro l0 l1 a2 _ _ w0 _ _ w1 wa2
  unfold laws_FnASEnds.f
  obtain ⟨K, hK⟩ : ∃ K : Nat, 200 ≤ K := ⟨200, Nat.le_refl _⟩
  have hbig : ∀ x0 x1 x2, laws_FnASEnds.j0 (K + 3 + 1) x0 x1 x2 true = some true := fun _ _ _ => by rw [laws_FnASEnds.j0, if_pos rfl]
  refine ⟨K + 3 + 1, ?_⟩
  by_cases b0 : (l0.length : Int) > 2147483647
  · rw [if_pos b0]; exact hbig _ _ _
  rw [if_neg b0]
  by_cases b1 : (l1.length : Int) > 2147483647
  · rw [decide_eq_true b1]; exact hbig _ _ _
  rw [decide_eq_false b1]
  obtain ⟨a, a1, aL, a3⟩ := only_at l0 (fun x hx => wf8 (w0 x hx))
  obtain ⟨b, c1, bL, c3⟩ := only_at l1 (fun x hx => wf8 (w1 x hx))
  have h2 := bounds_u8 wa2
  have e1 : wrap64 ((a.length : Int) + 1) = (a.length : Int) + 1 := by unfold wrap64; omega
  have e2 : wrap64 a2 = a2 := by unfold wrap64; omega
  rw [laws_FnASEnds.j0, if_neg (by decide), a1 (K + 3) (by omega), c1 (K + 3) (by omega), Option.bind_some, Option.bind_some, e1, e2, if_neg (by omega), Option.bind_some]
  have hn0 : 0 ≤ Int.tmod a2 ((a.length : Int) + 1) := Int.tmod_nonneg _ h2.1
  have hn1 : Int.tmod a2 ((a.length : Int) + 1) < (a.length : Int) + 1 := Int.tmod_lt_of_pos _ (by omega)
  obtain ⟨n, hn⟩ : ∃ n, Int.tmod a2 ((a.length : Int) + 1) = n := ⟨_, rfl⟩
  rw [hn] at hn0 hn1 ⊢
  have z1 : wrap64 (0 + 1) = 1 := by unfold wrap64; decide
  have z2 : wrap64 (1 + 1) = 2 := by unfold wrap64; decide
  have f1 := fun k (h : 101 ≤ k) => both_pf a b a3 c3 aL k h
  have f2 := fun k (h : 101 ≤ k) => both_sf a b a3 c3 aL k h
  have f3 := fun k (h : 101 ≤ k) => both_pf a (a.take n.toNat) a3 (fun x hx => a3 x (List.mem_of_mem_take hx)) aL k h
  have f4 := fun k (h : 101 ≤ k) => both_sf a (a.drop n.toNat) a3 (fun x hx => a3 x (List.mem_of_mem_drop hx)) aL k h
  have o1 := pf_own a n.toNat (by omega)
  have o2 := sf_own a n.toNat (by omega)
  have key : ∀ k, 110 ≤ k → laws_FnASEnds.l0 (k + 3) a b n [false, true] 2 0 = some true := by
    intro k hk
    have aw : laws_asAwake.f k = some true := at_rounds (fun k => laws_asAwake.mono k) (by omega : 6 ≤ k) (by decide +kernel)
    rw [laws_FnASEnds.l0, if_pos (by decide), if_pos (by decide), if_pos (by decide), (f1 (k + 2) (by omega)).1, (f1 (k + 2) (by omega)).2]
    simp only [Option.bind_some]
    rw [if_neg (by simp), (f2 (k + 2) (by omega)).1, (f2 (k + 2) (by omega)).2]
    simp only [Option.bind_some]
    rw [if_neg (by simp), if_pos hn0, if_pos (by omega), (f3 (k + 2) (by omega)).1, o1]
    simp only [Option.bind_some]
    rw [if_pos trivial, (f4 (k + 2) (by omega)).1, o2]
    simp only [Option.bind_some]
    rw [if_pos trivial, z1]
    rw [laws_FnASEnds.l0, if_pos (by decide), if_pos (by decide), if_pos (by decide), (f1 (k + 1) (by omega)).1, (f1 (k + 1) (by omega)).2]
    simp only [Option.bind_some]
    rw [if_neg (by simp), (f2 (k + 1) (by omega)).1, (f2 (k + 1) (by omega)).2]
    simp only [Option.bind_some]
    rw [if_neg (by simp), if_pos hn0, if_pos (by omega), (f3 (k + 1) (by omega)).1, o1]
    simp only [Option.bind_some]
    rw [if_pos trivial, (f4 (k + 1) (by omega)).1, o2]
    simp only [Option.bind_some]
    rw [if_pos trivial, z2]
    rw [laws_FnASEnds.l0, if_neg (by decide), aw]
    rfl
  exact key K (by omega)

end Go.Proofs.Ytmhngpihkaignaa.Pure
