/- Two texts are told to be the same but for small and capital letters as the definition says, either way round, as bytes and as texts, and so is a text with other letters; for all texts, with no condition. -/
import Derived.Test.YtmhngpihkaignaaMFnASFoldx3
import Derived.Laws.BitsLemmas
import Derived.OpenShut
import Derived.Lib.Strings
namespace Go.Proofs.Ytmhngpihkaignaa.Pure
open Go.RowKit Go.Proofs.Ytmhngpihkaignaa.PFnASFold Go.Proofs.YtmhngpihkaignaaW.PrintWords Go.Proofs.YtmhngpihkaignaaW.PrintLast

set_option linter.unusedVariables false
set_option linter.unusedSimpArgs false
theorem wf8 {a : Int} (h : (Lit.int .u8 a).wf = true) : 0 ≤ a ∧ a < 256 := by
  have := bounds_u8 h
  omega
theorem wrap_up {i : Int} {n : Nat} (h0 : 0 ≤ i) (h : i < (n : Int)) (hn : n ≤ 140737488351232) : wrap64 (i + 1) = i + 1 := by
  unfold wrap64
  omega
theorem byte_str (xs : List Int) (wf : ∀ x ∈ xs, 0 ≤ x ∧ x < 256) (i : Int) (h0 : 0 ≤ i) (h : i < xs.length) : bt (strOfNums xs) i = rd xs i := by
  have hi : i.toNat < xs.length := by omega
  have hsz : i.toNat < (strOfNums xs).size := by rw [strOfNums_size]; exact hi
  unfold bt rd
  rw [dif_pos hsz]
  have e : (strOfNums xs)[i.toNat]'hsz = UInt8.ofNat (xs[i.toNat]).toNat := by
    show (strOfNums xs).data[i.toNat] = _
    simp [strOfNums]
  rw [e]
  have := wf _ (List.getElem_mem hi)
  rw [List.getD_eq_getElem?_getD, List.getElem?_eq_getElem hi, Option.getD_some]
  simp only [UInt8.toNat_ofNat', Nat.reducePow]
  omega

/-- A letter as a small one. -/
def lw (c : Int) : Int := if 65 ≤ c ∧ c ≤ 90 then c + 32 else c
theorem lower_is (c : Int) : ascii_lower.f c = some (lw c) := by
  unfold ascii_lower.f lw
  by_cases h1 : 65 ≤ c
  · by_cases h2 : c ≤ 90
    · rw [if_pos h1, if_pos h2, if_pos ⟨h1, h2⟩]; congr 1; omega
    · rw [if_pos h1, if_neg h2, if_neg (by omega)]
  · rw [if_neg h1, if_neg (by omega)]
theorem slower_is (c : Int) : spec_ASLower.f c = some (lw c) := by
  unfold spec_ASLower.f lw
  by_cases h1 : 65 ≤ c
  · by_cases h2 : c ≤ 90
    · rw [if_pos h1, if_pos h2, if_pos ⟨h1, h2⟩]; congr 1; omega
    · rw [if_pos h1, if_neg h2, if_neg (by omega)]
  · rw [if_neg h1, if_neg (by omega)]
/-- Two texts, from a place on, but for small and capital letters. -/
def same (xs ys : List Int) (n : Nat) : Bool := decide ((xs.drop n).map lw = (ys.drop n).map lw)
theorem same_step (xs ys : List Int) (n : Nat) (hx : n < xs.length) (hy : n < ys.length) : same xs ys n = (decide (lw (rd xs n) = lw (rd ys n)) && same xs ys (n + 1)) := by
  unfold same rd
  rw [List.drop_eq_getElem_cons hx, List.drop_eq_getElem_cons hy, List.map_cons, List.map_cons]
  simp [List.getD_eq_getElem?_getD, List.getElem?_eq_getElem hx, List.getElem?_eq_getElem hy]
theorem fold_loops (xs ys : List Int) (wx : ∀ x ∈ xs, 0 ≤ x ∧ x < 256) (wy : ∀ x ∈ ys, 0 ≤ x ∧ x < 256) (hl : xs.length = ys.length) (hn : xs.length ≤ 140737488351232) (d : Nat) : ∀ (k : Nat) (i : Int), 0 ≤ i → i ≤ xs.length → (xs.length : Int) - i = d → d < k →
    ascii_EqualFoldString_63.l0 k (strOfNums xs) (strOfNums ys) i = some (same xs ys i.toNat) ∧ spec_ASFold.l0 k xs ys i = some (same xs ys i.toNat) := by
  induction d with
  | zero =>
    intro k i h0 h1 hd hk
    obtain ⟨k, rfl⟩ : ∃ m, k = m + 1 := ⟨k - 1, by omega⟩
    have e : same xs ys i.toNat = true := by
      unfold same
      rw [List.drop_eq_nil_of_le (by omega), List.drop_eq_nil_of_le (by omega)]
      rfl
    rw [e]
    constructor
    · simp only [ascii_EqualFoldString_63.l0]; rw [if_neg (by rw [strOfNums_size]; omega)]
    · simp only [spec_ASFold.l0]; rw [if_neg (by omega)]
  | succ d ih =>
    intro k i h0 h1 hd hk
    obtain ⟨k, rfl⟩ : ∃ m, k = m + 1 := ⟨k - 1, by omega⟩
    have hlt : i < (xs.length : Int) := by omega
    have hlt' : i < (ys.length : Int) := by omega
    have e := byte_str xs wx i h0 hlt
    have e' := byte_str ys wy i h0 hlt'
    have hw := wrap_up h0 hlt hn
    obtain ⟨hb1, hb2⟩ := ih k (i + 1) (by omega) (by omega) (by omega) (by omega)
    have en : (i + 1).toNat = i.toNat + 1 := by omega
    rw [en] at hb1 hb2
    have st := same_step xs ys i.toNat (by omega) (by omega)
    have ei : ((i.toNat : Nat) : Int) = i := by omega
    rw [ei] at st
    rw [st]
    constructor
    · simp only [ascii_EqualFoldString_63.l0]
      rw [if_pos (by rw [strOfNums_size]; exact hlt), if_pos h0, e, lower_is]; simp only [Option.bind_some]
      rw [if_pos (by rw [strOfNums_size]; exact hlt'), e', lower_is]; simp only [Option.bind_some]
      by_cases c : lw (rd xs i) = lw (rd ys i)
      · rw [if_pos c, hw, hb1, decide_eq_true c]; rfl
      · rw [if_neg c, decide_eq_false c]; rfl
    · simp only [spec_ASFold.l0]
      rw [if_pos hlt, if_pos h0, slower_is]; simp only [Option.bind_some]
      rw [if_pos hlt', slower_is]; simp only [Option.bind_some]
      by_cases c : lw (rd xs i) = lw (rd ys i)
      · rw [if_pos c, hw, hb2, decide_eq_true c]; rfl
      · rw [if_neg c, decide_eq_false c]; rfl
/-- Two texts are the same but for small and capital letters. -/
def eqf (xs ys : List Int) : Bool := decide (xs.map lw = ys.map lw)
theorem eqf_ne (xs ys : List Int) (h : xs.length ≠ ys.length) : eqf xs ys = false := by
  unfold eqf
  refine decide_eq_false fun e => h ?_
  have := congrArg List.length e
  simpa using this
theorem eqf_comm (xs ys : List Int) : eqf xs ys = eqf ys xs := by
  unfold eqf
  exact decide_eq_decide.mpr ⟨Eq.symm, Eq.symm⟩
theorem fold_str (xs ys : List Int) (wx : ∀ x ∈ xs, 0 ≤ x ∧ x < 256) (wy : ∀ x ∈ ys, 0 ≤ x ∧ x < 256) (hn : xs.length ≤ 100) (k : Nat) (hk : 101 ≤ k) :
    ascii_EqualFoldString_63.f k (strOfNums xs) (strOfNums ys) = some (eqf xs ys) ∧ spec_ASFold.f k xs ys = some (eqf xs ys) := by
  unfold ascii_EqualFoldString_63.f spec_ASFold.f
  rw [strOfNums_size, strOfNums_size]
  by_cases hl : xs.length = ys.length
  · rw [if_pos (by omega), if_pos (by omega)]
    exact fold_loops xs ys wx wy hl (by omega) xs.length k 0 (by omega) (by omega) (by omega) (by omega)
  · rw [if_neg (by omega), if_neg (by omega), eqf_ne _ _ hl]
    exact ⟨rfl, rfl⟩
theorem mask127 : ∀ n : Fin 256, 0 ≤ Go.bits .and .u8 (n.val : Int) 127 ∧ Go.bits .and .u8 (n.val : Int) 127 < 128 := by decide +kernel
theorem only_loop (t : List Int) (wf : ∀ x ∈ t, 0 ≤ x ∧ x < 256) (hn : t.length ≤ 100) (d : Nat) : ∀ (k : Nat) (o : List Int) (i : Int), 0 ≤ i → i ≤ t.length → (t.length : Int) - i = d → d < k → o.length = i.toNat → (∀ x ∈ o, 0 ≤ x ∧ x < 128) →
    ∃ r, laws_asOnly.l0 k o t (t.length : Int) i = some r ∧ r.length = t.length ∧ ∀ x ∈ r, 0 ≤ x ∧ x < 128 := by
  induction d with
  | zero =>
    intro k o i h0 h1 hd hk hol hox
    obtain ⟨k, rfl⟩ : ∃ m, k = m + 1 := ⟨k - 1, by omega⟩
    exact ⟨o, by simp only [laws_asOnly.l0]; rw [if_neg (by omega)], by omega, hox⟩
  | succ d ih =>
    intro k o i h0 h1 hd hk hol hox
    obtain ⟨k, rfl⟩ : ∃ m, k = m + 1 := ⟨k - 1, by omega⟩
    have hlt : i < (t.length : Int) := by omega
    have hr : 0 ≤ rd t i ∧ rd t i < 256 := by
      unfold rd
      rw [List.getD_eq_getElem?_getD, List.getElem?_eq_getElem (by omega : i.toNat < t.length)]
      exact wf _ (List.getElem_mem _)
    have hm := mask127 ⟨(rd t i).toNat, by omega⟩
    have ec : (((rd t i).toNat : Nat) : Int) = rd t i := by omega
    simp only [ec] at hm
    obtain ⟨r, a1, a2, a3⟩ := ih k (o ++ [Go.bits .and .u8 (rd t i) 127]) (i + 1) (by omega) (by omega) (by omega) (by omega) (by simp; omega) (by
      intro x hx
      rcases List.mem_append.1 hx with hx | hx
      · exact hox x hx
      · simp at hx; subst hx; exact hm)
    refine ⟨r, ?_, a2, a3⟩
    simp only [laws_asOnly.l0]
    rw [if_pos hlt, if_pos h0, if_pos hlt, if_pos (by omega), wrap_up h0 hlt (by omega)]
    exact a1
theorem only_is (l0 : List Int) (wf : ∀ x ∈ l0, 0 ≤ x ∧ x < 256) (k : Nat) (hk : 101 ≤ k) : ∃ r, laws_asOnly.f k l0 = some r ∧ r.length ≤ 100 ∧ ∀ x ∈ r, 0 ≤ x ∧ x < 128 := by
  have hm : 0 ≤ mn (l0.length : Int) 100 ∧ mn (l0.length : Int) 100 ≤ l0.length ∧ mn (l0.length : Int) 100 ≤ 100 := by unfold mn; split <;> omega
  have hfew : laws_asFew.f l0 = some (l0.take (mn (l0.length : Int) 100).toNat) := by
    unfold laws_asFew.f; rw [if_pos hm.1, if_pos hm.2.1]
  have hlen : (l0.take (mn (l0.length : Int) 100).toNat).length ≤ 100 := by rw [List.length_take]; omega
  obtain ⟨r, a1, a2, a3⟩ := only_loop _ (fun x hx => wf x (List.mem_of_mem_take hx)) hlen (l0.take (mn (l0.length : Int) 100).toNat).length k [] 0 (by omega) (by omega) (by omega) (by omega) rfl (by simp)
  refine ⟨r, ?_, by omega, a3⟩
  unfold laws_asOnly.f
  rw [hfew]
  exact a1
theorem only_at (l0 : List Int) (wf : ∀ x ∈ l0, 0 ≤ x ∧ x < 256) : ∃ r, (∀ k, 101 ≤ k → laws_asOnly.f k l0 = some r) ∧ r.length ≤ 100 ∧ ∀ x ∈ r, 0 ≤ x ∧ x < 128 := by
  obtain ⟨r, a1, a2, a3⟩ := only_is l0 wf 101 (by omega)
  refine ⟨r, fun k hk => ?_, a2, a3⟩
  exact at_rounds (fun k => laws_asOnly.mono l0 k) hk a1

theorem both_fold (xs ys : List Int) (wx : ∀ x ∈ xs, 0 ≤ x ∧ x < 128) (wy : ∀ x ∈ ys, 0 ≤ x ∧ x < 128) (hn : xs.length ≤ 100) (k : Nat) (hk : 101 ≤ k) :
    (∀ t, impl_ASFold.f k xs ys t = some (eqf xs ys)) ∧ spec_ASFold.f k xs ys = some (eqf xs ys) := by
  obtain ⟨h1, h2⟩ := fold_str xs ys (fun x hx => ⟨(wx x hx).1, by have := (wx x hx).2; omega⟩) (fun x hx => ⟨(wy x hx).1, by have := (wy x hx).2; omega⟩) hn k hk
  refine ⟨fun t => ?_, h2⟩
  unfold impl_ASFold.f ascii_EqualFoldString_42.f ascii_EqualFold_43.f ascii_EqualFold_64.f
  rw [h1]; cases t <;> rfl
theorem flip_low : ∀ n : Fin 128, Go.bits .or .u8 (n.val : Int) 32 ≥ 97 → Go.bits .or .u8 (n.val : Int) 32 ≤ 122 → lw (Go.bits .xor .u8 (n.val : Int) 32) = lw (n.val : Int) ∧ 0 ≤ Go.bits .xor .u8 (n.val : Int) 32 ∧ Go.bits .xor .u8 (n.val : Int) 32 < 128 := by decide +kernel
theorem map_set_same (xs : List Int) (i : Nat) (v : Int) (h : i < xs.length) (e : lw v = lw (xs[i])) : (xs.set i v).map lw = xs.map lw := by
  apply List.ext_getElem
  · simp
  · intro j h1 h2
    simp only [List.getElem_map, List.getElem_set]
    split
    · rename_i hij
      subst hij
      exact e
    · rfl
/-- The loop that turns letters: what comes behind it is the same text but for small and capital letters. -/
theorem turn_loop (a b turn : List Int) (ha : ∀ x ∈ a, 0 ≤ x ∧ x < 128) (hb : ∀ x ∈ b, 0 ≤ x ∧ x < 128) (hal : a.length ≤ 100) (hbl : b.length ≤ 100) (K : Nat)
    (fin : ∀ (c : List Int) (k : Nat), 110 ≤ k → c.length = a.length → (∀ x ∈ c, 0 ≤ x ∧ x < 128) → c.map lw = a.map lw → laws_FnASFold.l1 k a b c [false, true] 2 0 = some true) (d : Nat) :
    ∀ (k : Nat) (c : List Int) (i : Int), 0 ≤ i → i ≤ a.length → (a.length : Int) - i = d → d + 110 < k → c.length = a.length → (∀ x ∈ c, 0 ≤ x ∧ x < 128) → c.map lw = a.map lw →
    laws_FnASFold.l0 k turn a b c (a.length : Int) i = some true := by
  induction d with
  | zero =>
    intro k c i h0 h1 hd hk hcl hcx hcm
    obtain ⟨k, rfl⟩ : ∃ m, k = m + 1 := ⟨k - 1, by omega⟩
    rw [laws_FnASFold.l0, if_neg (by omega)]
    exact fin c k (by omega) hcl hcx hcm
  | succ d ih =>
    intro k c i h0 h1 hd hk hcl hcx hcm
    obtain ⟨k, rfl⟩ : ∃ m, k = m + 1 := ⟨k - 1, by omega⟩
    have hlt : i < (a.length : Int) := by omega
    have hw := wrap_up h0 hlt (by omega)
    have keep := ih k c (i + 1) (by omega) (by omega) (by omega) (by omega) hcl hcx hcm
    have hil : i.toNat < c.length := by omega
    have er : rd c i = c[i.toNat] := by
      unfold rd
      rw [List.getD_eq_getElem?_getD, List.getElem?_eq_getElem hil, Option.getD_some]
    have hr : 0 ≤ rd c i ∧ rd c i < 128 := by rw [er]; exact hcx _ (List.getElem_mem _)
    have fl := flip_low ⟨(rd c i).toNat, by omega⟩
    have ec : (((rd c i).toNat : Nat) : Int) = rd c i := by omega
    simp only [ec] at fl
    rw [laws_FnASFold.l0, if_pos hlt, if_pos h0, if_pos (by omega), hw]
    by_cases ht : (turn.length : Int) > 0
    · rw [if_pos ht, if_neg (by omega)]
      have hm0 : 0 ≤ Int.tmod i (turn.length : Int) := Int.tmod_nonneg _ h0
      have hm1 : Int.tmod i (turn.length : Int) < (turn.length : Int) := Int.tmod_lt_of_pos _ ht
      rw [if_pos hm0, if_pos hm1]
      by_cases c1 : Int.tmod (rd turn (Int.tmod i (turn.length : Int))) 2 = 0
      · rw [if_pos c1]
        by_cases c2 : Go.bits .or .u8 (rd c i) 32 ≥ 97
        · rw [if_pos c2]
          by_cases c3 : Go.bits .or .u8 (rd c i) 32 ≤ 122
          · rw [if_pos c3]
            obtain ⟨f1, f2, f3⟩ := fl c2 c3
            refine ih k _ (i + 1) (by omega) (by omega) (by omega) (by omega) (by rw [List.length_set]; exact hcl) ?_ ?_
            · intro x hx
              rcases List.mem_or_eq_of_mem_set hx with hx | hx
              · exact hcx x hx
              · subst hx; exact ⟨f2, f3⟩
            · rw [map_set_same c i.toNat _ hil (by rw [f1, er])]; exact hcm
          · rw [if_neg c3]; exact keep
        · rw [if_neg c2]; exact keep
      · rw [if_neg c1]; exact keep
    · rw [if_neg ht]; exact keep

/-- The plain statement: ∀ (l0 : List Int) (l1 : List Int) (l2 : List Int), l0.length ≤ maxLen → l0.length * 1 ≤ 140737488351232 → (∀ x ∈ l0, (Lit.int .u8 x).wf = true) → l1.length ≤ maxLen → l1.length * 1 ≤ 140737488351232 → (∀ x ∈ l1, (Lit.int .u8 x).wf = true) → l2.length ≤ maxLen → l2.length * 1 ≤ 140737488351232 → (∀ x ∈ l2, (Lit.int .u8 x).wf = true) → ∃ k, laws_FnASFold.f k l0 l1 l2 = some true
What it reaches (each with k first where it has rounds; `.mono`: more rounds tell the same; `.l0`, ..: its loops, with `.mono_l`): laws_asFew.f, laws_asOnly.f, ascii_lower.f, ascii_EqualFoldString_63.f, ascii_EqualFoldString_42.f, ascii_EqualFold_64.f, ascii_EqualFold_43.f, impl_ASFold.f, spec_ASLower.f, spec_ASFold.f, ascii_ValidByte.f, ascii_ValidString_65.f, ascii_ValidString_45.f, ascii_Valid_66.f, ascii_Valid_46.f, impl_ASValid.f, ascii_ValidPrintByte.f, ascii_ValidPrintString_67.f, ascii_ValidPrintString_47.f, ascii_ValidPrint_68.f, ascii_ValidPrint_48.f, impl_ASPrint.f, laws_asAwake.f, laws_FnASFold.f -/
theorem FnASFold : laws_FnASFold.Pure := by
  intro l0 l1 l2 _ _ w0 _ _ w1 _ _ _
  unfold laws_FnASFold.f
  have hbig : ∀ x0 x1 x2, laws_FnASFold.j0 400 x0 x1 x2 true = some true := fun _ _ _ => by rw [show (400 : Nat) = 399 + 1 from rfl, laws_FnASFold.j0, if_pos rfl]
  refine ⟨400, ?_⟩
  by_cases b0 : (l0.length : Int) > 2147483647
  · rw [if_pos b0]; exact hbig _ _ _
  rw [if_neg b0]
  by_cases b1 : (l1.length : Int) > 2147483647
  · rw [if_pos b1]; exact hbig _ _ _
  rw [if_neg b1]
  by_cases b2 : (l2.length : Int) > 2147483647
  · rw [decide_eq_true b2]; exact hbig _ _ _
  rw [decide_eq_false b2]
  obtain ⟨a, a1, a2, a3⟩ := only_at l0 (fun x hx => wf8 (w0 x hx))
  obtain ⟨b, c1, c2, c3⟩ := only_at l1 (fun x hx => wf8 (w1 x hx))
  show laws_FnASFold.j0 (399 + 1) l0 l1 l2 false = some true
  rw [laws_FnASFold.j0, if_neg (by decide), a1 399 (by omega), c1 399 (by omega)]
  simp only [Option.bind_some, List.nil_append, List.length_nil]
  rw [if_pos (by omega)]
  refine turn_loop a b l2 a3 c3 a2 c2 0 ?_ a.length 399 a 0 (by omega) (by omega) (by omega) (by omega) rfl a3 rfl
  intro c k hk hcl hcx hcm
  obtain ⟨k, rfl⟩ : ∃ m, k = m + 3 := ⟨k - 3, by omega⟩
  have z1 : wrap64 (0 + 1) = 1 := by unfold wrap64; decide
  have z2 : wrap64 (1 + 1) = 2 := by unfold wrap64; decide
  have hac : eqf a c = true := by unfold eqf; exact decide_eq_true hcm.symm
  have f1 := fun n (h : 101 ≤ n) => both_fold a b a3 c3 a2 n h
  have f2 := fun n (h : 101 ≤ n) => both_fold b a c3 a3 c2 n h
  have f3 := fun n (h : 101 ≤ n) => both_fold a c a3 hcx a2 n h
  have aw : laws_asAwake.f k = some true := at_rounds (fun k => laws_asAwake.mono k) (by omega : 6 ≤ k) (by decide +kernel)
  rw [laws_FnASFold.l1, if_pos (by decide), if_pos (by decide), if_pos (by decide), (f1 (k + 2) (by omega)).1, (f1 (k + 2) (by omega)).2]
  simp only [Option.bind_some]
  rw [if_neg (by simp), (f2 (k + 2) (by omega)).1]
  simp only [Option.bind_some]
  rw [eqf_comm b a, if_neg (by simp), (f3 (k + 2) (by omega)).1, hac]
  simp only [Option.bind_some]
  rw [if_pos trivial, z1]
  rw [laws_FnASFold.l1, if_pos (by decide), if_pos (by decide), if_pos (by decide), (f1 (k + 1) (by omega)).1, (f1 (k + 1) (by omega)).2]
  simp only [Option.bind_some]
  rw [if_neg (by simp), (f2 (k + 1) (by omega)).1]
  simp only [Option.bind_some]
  rw [eqf_comm b a, if_neg (by simp), (f3 (k + 1) (by omega)).1, hac]
  simp only [Option.bind_some]
  rw [if_pos trivial, z2]
  rw [laws_FnASFold.l1, if_neg (by decide), aw]
  rfl

end Go.Proofs.Ytmhngpihkaignaa.Pure
