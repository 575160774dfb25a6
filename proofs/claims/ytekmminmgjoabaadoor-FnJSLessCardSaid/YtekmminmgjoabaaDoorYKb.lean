/- The maker's code points. The short escapes: a map by code points. A code point's bytes and a number's four hexadecimal digits, as the definition writes them. A code point as it stands in a string, and what it means, as the definition makes them. The maker's strings. -/
import Derived.Test.YtekmminmgjoabaaDoorYKa
import Derived.Maps.OwnOps
import Derived.Maps.StringElems
import Derived.Maps.OwnSet
import Derived.Laws.BitsAllLaws
import Derived.Laws.BitsLemmas
import Derived.Deep.DeepCutAuto
import Derived.Deep.LoopGhost
namespace Go.Proofs.YtekmminmgjoabaaDoor.Js
open Go.RowKit Go.Proofs.YtekmminmgjoabaaDoorW.PrintWords Go.Proofs.YtekmminmgjoabaaDoorW.PrintLast Go.Proofs.YtekmminmgjoabaaDoorW.PrintMore
set_option linter.unusedVariables false
set_option linter.unusedSimpArgs false
theorem MadeAt.bytes {w : World} {B m : Nat} {code : List Int} {left : Int} (h : MadeAt w B m code left) : Bytes code := by
  obtain ⟨cv, -, -, h⟩ := h
  exact h
theorem eight_in (x : Int) : 0 ≤ [34, 92, 47, 8, 12, 10, 13, 9].getD (x % 8).toNat (0 : Int) ∧ [34, 92, 47, 8, 12, 10, 13, 9].getD (x % 8).toNat (0 : Int) ≤ 255 := by
  have : (x % 8).toNat = 0 ∨ (x % 8).toNat = 1 ∨ (x % 8).toNat = 2 ∨ (x % 8).toNat = 3 ∨ (x % 8).toNat = 4 ∨ (x % 8).toNat = 5 ∨ (x % 8).toNat = 6 ∨ (x % 8).toNat = 7 := by omega
  generalize (x % 8).toNat = q at *
  rcases this with rfl | rfl | rfl | rfl | rfl | rfl | rfl | rfl <;> decide
theorem eight (x : Int) (h0 : 0 ≤ x) : ∀ h : (x % 8).toNat < (ByteArray.mk #[34, 92, 47, 8, 12, 10, 13, 9]).size, (((ByteArray.mk #[34, 92, 47, 8, 12, 10, 13, 9])[(x % 8).toNat]'h).toNat : Int) = [34, 92, 47, 8, 12, 10, 13, 9].getD (x % 8).toNat (0 : Int) := by
  have : (x % 8).toNat = 0 ∨ (x % 8).toNat = 1 ∨ (x % 8).toNat = 2 ∨ (x % 8).toNat = 3 ∨ (x % 8).toNat = 4 ∨ (x % 8).toNat = 5 ∨ (x % 8).toNat = 6 ∨ (x % 8).toNat = 7 := by omega
  generalize (x % 8).toNat = q at *
  rcases this with rfl | rfl | rfl | rfl | rfl | rfl | rfl | rfl <;> intro h <;> rfl
set_option maxHeartbeats 4000000 in
theorem point_calls (w : World) (B m : Nat) (code : List Int) (left : Int) (hB : B ≤ m) (hm : MadeAt w B m code left) :
    Calls Tryd.prog 62 #[.pointer (some ⟨m, 0, none⟩)] w fun e w' => e = .returned (.int .i64 (pointF code).1) ∧ MadeAt w' B m (pointF code).2 left ∧ Mv w w' m := by
  obtain ⟨a0, a1, a2⟩ := byteF_in hm.bytes
  obtain ⟨b0, b1, b2⟩ := byteF_in a2
  obtain ⟨k, hk⟩ : ∃ k, k = (byteF code).1 := ⟨_, rfl⟩
  obtain ⟨x, hx⟩ : ∃ x, x = (byteF (byteF code).2).1 := ⟨_, rfl⟩
  have HF : Aside0 ((pointF code) = (if k % 12 = 0 then x % 128 else if k % 12 = 1 then 128 + x * 7 else if k % 12 = 2 then 2048 + x * 251 % 53248 else if k % 12 = 3 then 65536 + x * 4000 else if k % 12 = 4 then 55296 + x * 8
    else if k % 12 = 5 then [34, 92, 47, 8, 12, 10, 13, 9].getD (x % 8).toNat 0 else 97 + x % 26, (byteF (byteF code).2).2)) := ⟨by rw [hk, hx]; rfl⟩
  have H1 := Aside0.mk (byte_calls w B m code left hB hm)
  have H2 := Aside0.mk (fun w1 h => byte_calls w1 B m (byteF code).2 left hB h)
  rw [← hk] at a0 a1 H1
  rw [← hx] at b0 b1 H2
  clear hm hB hk hx a2 b2
  have h8 := eight x b0
  have e0 := eight_in x
  obtain ⟨e8, he8⟩ : ∃ e8, e8 = [34, 92, 47, 8, 12, 10, 13, 9].getD (x % 8).toNat (0 : Int) := ⟨_, rfl⟩
  rw [← he8] at h8 e0 HF
  obtain ⟨e0, e1⟩ := e0
  clear he8
  have hcases : k % 12 = 0 ∨ k % 12 = 1 ∨ k % 12 = 2 ∨ k % 12 = 3 ∨ k % 12 = 4 ∨ k % 12 = 5 ∨ 6 ≤ k % 12 := by omega
  go_enter Tryd.func62, Tryd.ntmps62
  go_upto_region 2 with (go_at_call 46; (with_reducible refine H1.out.mono ?_); rintro e w1 ⟨rfl, hm1, hv1⟩; have HM1 := Aside0.mk hm1; have HV1 := Aside0.mk hv1; clear hm1 hv1)
  obtain ⟨q, hq⟩ : ∃ q, q = k % 12 := ⟨_, rfl⟩
  rw [← hq] at hcases HF ⊢
  clear hq
  rcases hcases with rfl | rfl | rfl | rfl | rfl | rfl | hc
  all_goals first
    | (have c0 : (q == 0) = false := by rw [beq_eq_false_iff_ne]; omega
       have c1 : (q == 1) = false := by rw [beq_eq_false_iff_ne]; omega
       have c2 : (q == 2) = false := by rw [beq_eq_false_iff_ne]; omega
       have c3 : (q == 3) = false := by rw [beq_eq_false_iff_ne]; omega
       have c4 : (q == 4) = false := by rw [beq_eq_false_iff_ne]; omega
       have c5 : (q == 5) = false := by rw [beq_eq_false_iff_ne]; omega
       have hf : pointF code = (97 + x % 26, (byteF (byteF code).2).2) := by rw [HF.out, if_neg (by omega), if_neg (by omega), if_neg (by omega), if_neg (by omega), if_neg (by omega), if_neg (by omega)]
       have HF2 := Aside0.mk hf
       clear hf HF hc)
    | have HF2 := HF
  all_goals
    go_wp2_with (go_at_call 46; (with_reducible refine (H2.out _ HM1.out).mono ?_); rintro e w2 ⟨rfl, hm2, hv2⟩; have HM2 := Aside0.mk hm2; have HV2 := Aside0.mk hv2; clear hm2 hv2)
    go_ret
    rw [HF2.out]
    exact ⟨rfl, HM2.out, HV1.out.trans HV2.out⟩
end Go.Proofs.YtekmminmgjoabaaDoor.Js





namespace Go.Proofs.YtekmminmgjoabaaDoor.Js
open Go.RowKit Go.Proofs.YtekmminmgjoabaaDoorW.PrintWords Go.Proofs.YtekmminmgjoabaaDoorW.PrintLast Go.Proofs.YtekmminmgjoabaaDoorW.PrintMore
set_option linter.unusedVariables false
set_option linter.unusedSimpArgs false
theorem key3 : Go.Maps.Keyed Tryd.prog 3 := Go.Maps.int_keyed Tryd.underlying3
/-- How a text reads. -/
def Rs (v : Value) : Option (DataW Unit × List MemPlace) := match v with
  | .string s => some (.lit (.string s.data.toList), [])
  | _ => none
theorem insert_own (w : World) {ops : Array Oper} {rest : List Oper} {o : Oper} {a : Act} {Q : Exit → Act → World → Prop}
    (hg : o.guard = none) (m x v : Operand) (hop : o.op = Op.insert 136 m x v) (b n : Nat) (D : DataW Unit) (hm : a.eval m = .map (some b)) (hown : w.ownsMap Tryd.prog 3 Rs b n D) (hn : n < 100)
    (key : Int) (s : ByteArray) (hx : a.eval x = .int .i64 key) (hv : a.eval v = .string s) (h0 : 0 ≤ key) (h1 : key ≤ 255)
    (hK : ∀ w', w'.ownsMap Tryd.prog 3 Rs b (n + 1) (D.put (.int .i64 key) (.lit (.string s.data.toList))) → w.grownBy w' (some b) → wpList Tryd.prog ops Q rest (a.put o.dst undef) w') :
    wpList Tryd.prog ops Q (o :: rest) a w := by
  refine wpList_plain hg fun K' hK' => ?_
  have hkey : keyOf Tryd.prog 3 (.int .i64 key) = some (.int .i64 key) := Go.Maps.keyOf_int_mk Tryd.underlying3 (by simp [Lit.wf, IntKind.min, IntKind.max, IntKind.bits, IntKind.signed]; omega)
  obtain ⟨w', hrun, r1, r2⟩ := hown.update key3 Tryd.underlying136 (by unfold maxLen; omega) hkey (d := .lit (.string s.data.toList)) (ps := []) (val := .string s) rfl
  unfold Oper.wp
  simp [execOp, hop, hm, hx, hv, hrun, Result.andThen]
  exact hK' _ _ (hK w' r1 r2)
/-- The map of the short escapes. -/
def shortD : DataW Unit := .map [(.int .i64 8, .lit (.string [92, 98])), (.int .i64 9, .lit (.string [92, 116])), (.int .i64 10, .lit (.string [92, 110])), (.int .i64 12, .lit (.string [92, 102])), (.int .i64 13, .lit (.string [92, 114])), (.int .i64 34, .lit (.string [92, 34])), (.int .i64 47, .lit (.string [92, 47])), (.int .i64 92, .lit (.string [92, 92]))]
theorem short_put : ((((((((DataW.map [] : DataW Unit).put (.int .i64 34) (.lit (.string [92, 34]))).put (.int .i64 92) (.lit (.string [92, 92]))).put (.int .i64 47) (.lit (.string [92, 47]))).put (.int .i64 8) (.lit (.string [92, 98]))).put (.int .i64 12) (.lit (.string [92, 102]))).put (.int .i64 10) (.lit (.string [92, 110]))).put (.int .i64 13) (.lit (.string [92, 114]))).put (.int .i64 9) (.lit (.string [92, 116])) = shortD := by
  rfl
def shortS (r : Int) : ByteArray := strOfNums (match shortF r with
  | some c => [92, c]
  | none => [])
theorem Rs_inv {v : Value} {l : List UInt8} {ps : List MemPlace} (h : Rs v = some (.lit (.string l), ps)) : v = .string ⟨l.toArray⟩ := by
  unfold Rs at h
  split at h
  · injection h with h
    injection h with h _
    injection h with h
    injection h with h
    rw [← h]
  · cases h
theorem shortF_cases (r : Int) : r = 34 ∨ r = 92 ∨ r = 47 ∨ r = 8 ∨ r = 12 ∨ r = 10 ∨ r = 13 ∨ r = 9 ∨ (shortF r = none ∧ r ≠ 34 ∧ r ≠ 92 ∧ r ≠ 47 ∧ r ≠ 8 ∧ r ≠ 12 ∧ r ≠ 10 ∧ r ≠ 13 ∧ r ≠ 9) := by
  by_cases h1 : r = 34; · simp [h1]
  by_cases h2 : r = 92; · simp [h2]
  by_cases h3 : r = 47; · simp [h3]
  by_cases h4 : r = 8; · simp [h4]
  by_cases h5 : r = 12; · simp [h5]
  by_cases h6 : r = 10; · simp [h6]
  by_cases h7 : r = 13; · simp [h7]
  by_cases h8 : r = 9; · simp [h8]
  simp [shortF, h1, h2, h3, h4, h5, h6, h7, h8]
theorem short_look (w : World) (b n : Nat) (r : Int) (h0 : 0 ≤ r) (h1 : r < 1114112) (h : w.ownsMap Tryd.prog 3 Rs b n shortD) : (Instr.lookup 136 (.map (some b)) (.int .i64 r) true).run Tryd.prog w = .ok (.tuple #[.string (shortS r), .bool (shortF r).isSome]) w := by
  have hkey : keyOf Tryd.prog 3 (.int .i64 r) = some (.int .i64 r) := Go.Maps.keyOf_int_mk Tryd.underlying3 (by simp [Lit.wf, IntKind.min, IntKind.max, IntKind.bits, IntKind.signed]; omega)
  have hz : (zeroValue 9).run Tryd.prog w = .ok (.string ⟨#[]⟩) w := by kernel_rfl
  obtain ⟨v, ps, hrun, hv⟩ := h.look_ok key3 Tryd.underlying136 hz (zd := .lit (.string [])) (zp := []) rfl hkey
  rw [hrun]
  rcases shortF_cases r with rfl | rfl | rfl | rfl | rfl | rfl | rfl | rfl | ⟨e, h1, h2, h3, h4, h5, h6, h7, h8⟩
  · rw [Rs_inv (l := [92, 34]) hv]; rfl
  · rw [Rs_inv (l := [92, 92]) hv]; rfl
  · rw [Rs_inv (l := [92, 47]) hv]; rfl
  · rw [Rs_inv (l := [92, 98]) hv]; rfl
  · rw [Rs_inv (l := [92, 102]) hv]; rfl
  · rw [Rs_inv (l := [92, 110]) hv]; rfl
  · rw [Rs_inv (l := [92, 114]) hv]; rfl
  · rw [Rs_inv (l := [92, 116]) hv]; rfl
  · have a1 : Go.Maps.has shortD (.int .i64 r) = false := by simp [shortD, Go.Maps.has, Lit.sameKey]; omega
    have a2 : shortD.atKey (.int .i64 r) (.lit (.string [])) = .lit (.string []) := by
      have n1 := Ne.symm h1; have n2 := Ne.symm h2; have n3 := Ne.symm h3; have n4 := Ne.symm h4; have n5 := Ne.symm h5; have n6 := Ne.symm h6; have n7 := Ne.symm h7; have n8 := Ne.symm h8
      simp [shortD, DataW.atKey, Lit.sameKey, List.find?, n1, n2, n3, n4, n5, n6, n7, n8]
    rw [a2] at hv
    rw [Rs_inv hv, a1, e]
    simp [shortS, e, strOfNums]
end Go.Proofs.YtekmminmgjoabaaDoor.Js



namespace Go.Proofs.YtekmminmgjoabaaDoor.Js
open Go.RowKit Go.Proofs.YtekmminmgjoabaaDoorW.PrintWords Go.Proofs.YtekmminmgjoabaaDoorW.PrintLast Go.Proofs.YtekmminmgjoabaaDoorW.PrintMore Go.Proofs.YtekmminmgjoabaaDoor.PFnJSTokens
set_option linter.unusedVariables false
set_option linter.unusedSimpArgs false
theorem ofInt_i64 (a : Nat) (ha : a < 9223372036854775808) : (BitVec.ofInt 64 (a : Int)).toNat = a := by
  rw [BitVec.ofInt_natCast, BitVec.toNat_ofNat]; exact Nat.mod_eq_of_lt (by omega)
theorem i64_and_nat (a b : Nat) (ha : a < 9223372036854775808) (hb : b < 9223372036854775808) : bits .and .i64 (a : Int) (b : Int) = ((a &&& b : Nat) : Int) := by
  have hx : a &&& b < 2 ^ 63 := Nat.and_lt_two_pow _ (by omega)
  show IntKind.i64.wrap ((BitVec.ofInt 64 (a : Int) &&& BitVec.ofInt 64 (b : Int)).toNat : Int) = _
  rw [BitVec.toNat_and, ofInt_i64 a ha, ofInt_i64 b hb, IntKind.wrap_i64]
  omega
theorem i64_or_nat (a b : Nat) (ha : a < 9223372036854775808) (hb : b < 9223372036854775808) : bits .or .i64 (a : Int) (b : Int) = ((a ||| b : Nat) : Int) := by
  have hx : a ||| b < 2 ^ 63 := Nat.or_lt_two_pow (by omega) (by omega)
  show IntKind.i64.wrap ((BitVec.ofInt 64 (a : Int) ||| BitVec.ofInt 64 (b : Int)).toNat : Int) = _
  rw [BitVec.toNat_or, ofInt_i64 a ha, ofInt_i64 b hb, IntKind.wrap_i64]
  omega
theorem and_mask (a : Int) (n : Nat) (h0 : 0 ≤ a) (h1 : a < 1000000000) (hn : n < 20) : bits .and .i64 a ((2 ^ n - 1 : Nat) : Int) = a % (2 ^ n : Nat) := by
  obtain ⟨m, rfl⟩ := Int.eq_ofNat_of_zero_le h0
  have h2 : 2 ^ n ≤ 2 ^ 20 := Nat.pow_le_pow_right (by decide) (by omega)
  rw [i64_and_nat m _ (by omega) (by omega), Nat.and_two_pow_sub_one_eq_mod]
  simp
theorem and63 (a : Int) (h0 : 0 ≤ a) (h1 : a < 1000000000) : bits .and .i64 a 63 = a % 64 := and_mask a 6 h0 h1 (by decide)
theorem and15 (a : Int) (h0 : 0 ≤ a) (h1 : a < 1000000000) : bits .and .i64 a 15 = a % 16 := and_mask a 4 h0 h1 (by decide)
theorem and1023 (a : Int) (h0 : 0 ≤ a) (h1 : a < 1000000000) : bits .and .i64 a 1023 = a % 1024 := and_mask a 10 h0 h1 (by decide)
theorem or_add (c n : Nat) (hc : c < 256) (h : ∀ x, x < n → c ||| x = c + x) (x : Int) (h0 : 0 ≤ x) (h1 : x < n) (hn : n < 256) : bits .or .i64 (c : Int) x = c + x := by
  obtain ⟨m, rfl⟩ := Int.eq_ofNat_of_zero_le h0
  rw [i64_or_nat c m (by omega) (by omega), h m (by omega)]
  omega
theorem or128 (x : Int) (h0 : 0 ≤ x) (h1 : x < 64) : bits .or .i64 128 x = 128 + x := or_add 128 64 (by decide) (by decide +kernel) x h0 h1 (by decide)
theorem or192 (x : Int) (h0 : 0 ≤ x) (h1 : x < 32) : bits .or .i64 192 x = 192 + x := or_add 192 32 (by decide) (by decide +kernel) x h0 h1 (by decide)
theorem or224 (x : Int) (h0 : 0 ≤ x) (h1 : x < 16) : bits .or .i64 224 x = 224 + x := or_add 224 16 (by decide) (by decide +kernel) x h0 h1 (by decide)
theorem or240 (x : Int) (h0 : 0 ≤ x) (h1 : x < 8) : bits .or .i64 240 x = 240 + x := or_add 240 8 (by decide) (by decide +kernel) x h0 h1 (by decide)
theorem rune_eq (r : Int) (h0 : 0 ≤ r) (h1 : r < 1114112) : spec_jsRune.f r = some (strOfNums (runeF r)) := by
  unfold spec_jsRune.f runeF
  by_cases a : r < 128
  · rw [if_pos a, if_pos a, Int.emod_eq_of_lt h0 (by omega)]
  rw [if_neg a, if_neg a]
  by_cases b : r < 2048
  · rw [if_pos b, if_pos b, and63 r h0 (by omega), or192 _ (by omega) (by omega), or128 _ (by omega) (by omega), Int.emod_eq_of_lt (by omega) (by omega), Int.emod_eq_of_lt (a := 128 + r % 64) (by omega) (by omega)]
  rw [if_neg b, if_neg b]
  by_cases c : r < 65536
  · rw [if_pos c, if_pos c, and63 r h0 (by omega), and63 _ (by omega) (by omega), or224 _ (by omega) (by omega), or128 _ (by omega) (by omega), or128 _ (by omega) (by omega), Int.emod_eq_of_lt (a := 224 + r / 4096) (by omega) (by omega), Int.emod_eq_of_lt (a := 128 + r % 64) (by omega) (by omega), Int.emod_eq_of_lt (a := 128 + r / 64 % 64) (by omega) (by omega)]
  · rw [if_neg c, if_neg c, and63 r h0 (by omega), and63 (r / 64) (by omega) (by omega), and63 (r / 4096) (by omega) (by omega), or240 _ (by omega) (by omega), or128 _ (by omega) (by omega), or128 (r / 64 % 64) (by omega) (by omega), or128 (r % 64) (by omega) (by omega), Int.emod_eq_of_lt (a := 240 + r / 262144) (by omega) (by omega), Int.emod_eq_of_lt (a := 128 + r % 64) (by omega) (by omega), Int.emod_eq_of_lt (a := 128 + r / 64 % 64) (by omega) (by omega), Int.emod_eq_of_lt (a := 128 + r / 4096 % 64) (by omega) (by omega)]
theorem bt_hi (x : Int) (h0 : 0 ≤ x) (h1 : x < 16) : bt (⟨#[48, 49, 50, 51, 52, 53, 54, 55, 56, 57, 65, 66, 67, 68, 69, 70]⟩ : ByteArray) x = hexC x true := by
  obtain ⟨m, rfl⟩ := Int.eq_ofNat_of_zero_le h0
  have : m < 16 := by omega
  have h : ∀ m : Nat, m < 16 → bt (⟨#[48, 49, 50, 51, 52, 53, 54, 55, 56, 57, 65, 66, 67, 68, 69, 70]⟩ : ByteArray) (m : Int) = hexC (m : Int) true := by decide +kernel
  exact h m this
theorem bt_lo (x : Int) (h0 : 0 ≤ x) (h1 : x < 16) : bt (⟨#[48, 49, 50, 51, 52, 53, 54, 55, 56, 57, 97, 98, 99, 100, 101, 102]⟩ : ByteArray) x = hexC x false := by
  obtain ⟨m, rfl⟩ := Int.eq_ofNat_of_zero_le h0
  have : m < 16 := by omega
  have h : ∀ m : Nat, m < 16 → bt (⟨#[48, 49, 50, 51, 52, 53, 54, 55, 56, 57, 97, 98, 99, 100, 101, 102]⟩ : ByteArray) (m : Int) = hexC (m : Int) false := by decide +kernel
  exact h m this
theorem hex_eq (n : Int) (cap : Bool) (h0 : 0 ≤ n) (h1 : n < 65536) : spec_jsHex.f n cap = some (strOfNums (hexF n cap)) := by
  unfold spec_jsHex.f hexF
  rw [and15 n h0 (by omega), and15 (n / 16) (by omega) (by omega), and15 (n / 256) (by omega) (by omega), and15 (n / 4096) (by omega) (by omega)]
  have a1 : 0 ≤ n % 16 := by omega
  have a2 : n % 16 < 16 := by omega
  have b1 : 0 ≤ n / 16 % 16 := by omega
  have b2 : n / 16 % 16 < 16 := by omega
  have c1 : 0 ≤ n / 256 % 16 := by omega
  have c2 : n / 256 % 16 < 16 := by omega
  have d1 : 0 ≤ n / 4096 % 16 := by omega
  have d2 : n / 4096 % 16 < 16 := by omega
  cases cap
  · rw [if_neg (by decide), if_pos d1, if_pos d2, if_pos c1, if_pos c2, if_pos b1, if_pos b2, if_pos a1, if_pos a2, bt_lo _ a1 a2, bt_lo _ b1 b2, bt_lo _ c1 c2, bt_lo _ d1 d2]
  · rw [if_pos rfl, if_pos d1, if_pos d2, if_pos c1, if_pos c2, if_pos b1, if_pos b2, if_pos a1, if_pos a2, bt_hi _ a1 a2, bt_hi _ b1 b2, bt_hi _ c1 c2, bt_hi _ d1 d2]
end Go.Proofs.YtekmminmgjoabaaDoor.Js


namespace Go.Proofs.YtekmminmgjoabaaDoor.Js
open Go.RowKit Go.Proofs.YtekmminmgjoabaaDoorW.PrintWords Go.Proofs.YtekmminmgjoabaaDoorW.PrintLast Go.Proofs.YtekmminmgjoabaaDoorW.PrintMore Go.Proofs.YtekmminmgjoabaaDoor.PFnJSTokens
set_option linter.unusedVariables false
set_option linter.unusedSimpArgs false
theorem gate_ins {P : Program} {ops : Array Oper} {rest : List Oper} {o : Oper} {a : Act} {Q : Exit → Act → World → Prop} {W : World} {t : TypeId} {m x v : Operand} (_ho : o.op = .insert t m x v) (h : wpList P ops Q (o :: rest) a W) : wpList P ops Q (o :: rest) a W := h
theorem tup2 {a b c d : ByteArray} (h : a = b) (h' : c = d) : Ending.returned (.tuple #[.string a, .string c]) = Ending.returned (.tuple #[.string b, .string d]) := by rw [h, h']
theorem means_eq {r : Int} {half : Bool} (h : isHalf r = half) : (if half then (⟨#[239, 191, 189]⟩ : ByteArray) else strOfNums (runeF r)) = strOfNums (meansF r) := by
  unfold meansF
  rw [h]
  cases half <;> rfl
theorem esc_short {r how : Int} (h : true = (shortF r).isSome) (e : (how % 2 == 0) = true) : shortS r = strOfNums (escF r how) := by
  unfold escF shortS
  rw [if_pos ⟨h.symm, by simpa using e⟩]
  cases hs : shortF r with
  | none => rw [hs] at h; simp at h
  | some c => rfl
theorem not_short1 {r how : Int} (e : (how % 2 == 0) = false) : ¬ ((shortF r).isSome = true ∧ how % 2 = 0) := by
  rintro ⟨-, h⟩
  simp [h] at e
theorem not_short2 {r how : Int} (e : false = (shortF r).isSome) : ¬ ((shortF r).isSome = true ∧ how % 2 = 0) := by
  rintro ⟨h, -⟩
  rw [h] at e
  cases e
theorem esc_raw {r how : Int} (hs : ¬ ((shortF r).isSome = true ∧ how % 2 = 0)) (hm : mustF r = false) (h3 : 0 < how % 3) : strOfNums (meansF r) = strOfNums (escF r how) := by
  unfold escF
  rw [if_neg hs, if_pos ⟨hm, h3⟩]
theorem esc_big {r how : Int} (hs : ¬ ((shortF r).isSome = true ∧ how % 2 = 0)) (hm : ¬ (mustF r = false ∧ 0 < how % 3)) (hr : 65536 ≤ r) : (⟨#[92, 117]⟩ : ByteArray) ++ strOfNums (hexF (55296 + (r - 65536) / 1024) (how % 5 == 0)) ++ (⟨#[92, 117]⟩ : ByteArray) ++ strOfNums (hexF (56320 + (r - 65536) % 1024) (how % 5 == 1)) = strOfNums (escF r how) := by
  unfold escF
  rw [if_neg hs, if_neg hm, if_pos hr]
  rw [show ∀ l m : List Int, (92 :: 117 :: (l ++ (92 :: 117 :: m))) = [92, 117] ++ l ++ [92, 117] ++ m from fun l m => by simp]
  rw [strOf_append, strOf_append, strOf_append]
  rfl
theorem esc_small {r how : Int} (hs : ¬ ((shortF r).isSome = true ∧ how % 2 = 0)) (hm : ¬ (mustF r = false ∧ 0 < how % 3)) (hr : r < 65536) : (⟨#[92, 117]⟩ : ByteArray) ++ strOfNums (hexF r (how % 5 == 0)) = strOfNums (escF r how) := by
  unfold escF
  rw [if_neg hs, if_neg hm, if_neg (by omega)]
  rw [show ∀ l : List Int, (92 :: 117 :: l) = [92, 117] ++ l from fun l => by simp]
  rw [strOf_append]
  rfl
/-- The post. -/
def EscPost (w : World) (r how : Int) (e : Ending) (w' : World) : Prop := e = .returned (.tuple #[.string (strOfNums (escF r how)), .string (strOfNums (meansF r))]) ∧ Below w.heap.size w w'
set_option maxHeartbeats 8000000 in
set_option maxRecDepth 100000 in
theorem escaped_go (w : World) (r how : Int) (h0 : 0 ≤ r) (h1 : r < 1114112) (k0 : 0 ≤ how) (k1 : how ≤ 255) (half : Bool)
    (hh : (half = true ∧ decide (55296 ≤ r) = true ∧ decide (r < 57344) = true) ∨ (half = false ∧ decide (55296 ≤ r) = true ∧ decide (r < 57344) = false) ∨ (half = false ∧ decide (55296 ≤ r) = false)) :
    Calls Tryd.prog 63 #[.int .i64 r, .int .u8 how] w (EscPost w r how) := by
  have HM := Aside0.mk (World.ownsMap_made w Tryd.prog 3 Rs)
  have HB := Aside0.mk (below_alloc (Below.refl w.heap.size w) (.map #[] 0))
  have hmm := @run_makeMap Tryd.prog
  have HR := Aside0.mk (rune_eq r h0 h1)
  go_enter Tryd.func63, Tryd.ntmps63
  go_upto_region 2 with ((with_reducible refine gate_ins rfl ?_); refine insert_own _ rfl _ _ _ rfl _ _ _ rfl HM.out (by omega) _ _ rfl rfl (by decide) (by decide) ?_; intro w2 hO hG; have HB2 := Aside0.mk (pw_below_grown HB.out _ HB.out.size hG (fun k hk => by injection hk with hk; omega)); clear HM HB; have HM := Aside0.mk hO; have HB := HB2; clear hO hG HB2)
  have hm := HM.out
  rw [short_put] at hm
  obtain ⟨n2, hm⟩ : ∃ n2, w2.ownsMap Tryd.prog 3 Rs w.heap.size n2 shortD := ⟨_, hm⟩
  have HM2 := Aside0.mk hm
  clear hmm HM hm
  have hf : isHalf r = half := by
    unfold isHalf
    rcases hh with ⟨rfl, a, b⟩ | ⟨rfl, a, b⟩ | ⟨rfl, a⟩
    · rw [a, b]; rfl
    · rw [a, b]; rfl
    · rw [a]; rfl
  have hm4 : (decide (r < 32) = true ∧ Aside0 (mustF r = true)) ∨ (decide (r < 32) = false ∧ (r == 34) = true ∧ Aside0 (mustF r = true)) ∨ (decide (r < 32) = false ∧ (r == 34) = false ∧ (r == 92) = true ∧ Aside0 (mustF r = true)) ∨ (decide (r < 32) = false ∧ (r == 34) = false ∧ (r == 92) = false ∧ Aside0 (mustF r = half)) := by
    have e : mustF r = (decide (r < 32) || (r == 34) || (r == 92) || half) := by unfold mustF; rw [hf]
    cases h1 : decide (r < 32)
    · cases h2 : (r == 34)
      · cases h3 : (r == 92)
        · exact .inr (.inr (.inr ⟨rfl, rfl, rfl, ⟨by rw [e, h1, h2, h3]; rfl⟩⟩))
        · exact .inr (.inr (.inl ⟨rfl, rfl, rfl, ⟨by rw [e, h1, h2, h3]; rfl⟩⟩))
      · exact .inr (.inl ⟨rfl, rfl, ⟨by rw [e, h1, h2]; rfl⟩⟩)
    · exact .inl ⟨rfl, ⟨by rw [e, h1]; rfl⟩⟩
  have HF := Aside0.mk hf
  have HM4 := Aside0.mk hm4
  clear hf hm4
  rcases hh with ⟨rfl, g1, g2⟩ | ⟨rfl, g1, g2⟩ | ⟨rfl, g1⟩
  all_goals
    go_upto_region 6 with (go_at_call 97; (with_reducible refine (spec_jsRune.calls r _ _ HR.out).mono ?_); rintro e w3 ⟨rfl, hb⟩; have hm3 := HM2.out.kept (grown_of_below hb none) (by simp); have HM3 := Aside0.mk hm3; have HB3 := Aside0.mk (HB.out.trans (hb.mono HB.out.size)); have hlook := short_look _ _ _ r h0 h1 hm3; clear hb hm3)
  all_goals
    obtain ⟨sb, hsb⟩ : ∃ sb, sb = (shortF r).isSome := ⟨_, rfl⟩
    rw [← hsb] at hlook
    have HSB := Aside0.mk hsb
    clear hsb
    have hc : (sb = true ∧ (how % 2 == 0) = true) ∨ (sb = true ∧ (how % 2 == 0) = false) ∨ sb = false := by
      cases sb <;> cases (how % 2 == 0) <;> simp
    rcases hc with ⟨rfl, c2⟩ | ⟨rfl, c2⟩ | rfl
  all_goals first
    | (go_wp2_with fail
       go_ret2
       exact ⟨tup2 (esc_short HSB.out c2) (means_eq HF.out), HB3.out⟩)
    | (first | (have HS := Aside0.mk (not_short1 (r := r) c2)) | (have HS := Aside0.mk (not_short2 (how := how) HSB.out))
       rcases HM4.out with ⟨m1, HMU⟩ | ⟨m1, m2, HMU⟩ | ⟨m1, m2, m3, HMU⟩ | ⟨m1, m2, m3, HMU⟩)
  all_goals clear HM4 HM3 HM2 hm
  all_goals first
    | (have g3 : r < 57344 := by simpa using g2
       have g4 : 55296 ≤ r := by simpa using g1
       have b1 : decide (65536 ≤ r) = false := by simp; omega
       have hr : r < 65536 := by omega
       first | (exfalso; simp at m1; omega) | skip)
    | (have hb1 : (decide (65536 ≤ r) = true ∧ 65536 ≤ r) ∨ (decide (65536 ≤ r) = false ∧ r < 65536) := by
         by_cases h : 65536 ≤ r
         · left; exact ⟨by simpa using h, h⟩
         · right; exact ⟨by simpa using h, by omega⟩
       rcases hb1 with ⟨b1, hr⟩ | ⟨b1, hr⟩)
  all_goals try (exfalso; simp at m1; omega)
  all_goals try (exfalso; simp at m2; omega)
  all_goals try (exfalso; simp at m3; omega)
  all_goals try (have hA := and1023 (r - 65536) (by omega) (by omega))
  all_goals first
    | (have hm : mustF r = true := HMU.out
       have HN : Aside0 (¬ (mustF r = false ∧ 0 < how % 3)) := ⟨by rintro ⟨a, -⟩; rw [hm] at a; cases a⟩
       clear hm)
    | (have hm : mustF r = false := HMU.out
       clear hm
       have hb3 : (decide (0 < how % 3) = true ∧ 0 < how % 3) ∨ (decide (0 < how % 3) = false ∧ how % 3 ≤ 0) := by
         by_cases h : 0 < how % 3
         · left; exact ⟨by simpa using h, h⟩
         · right; exact ⟨by simpa using h, by omega⟩
       rcases hb3 with ⟨m4, h3⟩ | ⟨m4, h3⟩)
  all_goals try (have HN : Aside0 (¬ (mustF r = false ∧ 0 < how % 3)) := ⟨by rintro ⟨-, a⟩; omega⟩)
  all_goals
    go_wp2_with (go_at_call 98; (with_reducible refine (spec_jsHex.calls _ _ _ _ (hex_eq _ _ (by omega) (by omega))).mono ?_); rintro e w4 ⟨rfl, hb⟩; have HBn := Aside0.mk (HB3.out.trans (hb.mono HB3.out.size)); clear HB3 hb; have HB3 := HBn; clear HBn)
    go_ret2
    refine ⟨tup2 ?_ (means_eq HF.out), HB3.out⟩
    first
      | (have h9 : 65536 ≤ r := hr; exact esc_big HS.out HN.out hr)
      | (have h9 := HN.out; exact esc_small HS.out HN.out hr)
      | exact (means_eq HF.out).trans (esc_raw HS.out HMU.out h3)
theorem escaped_calls (w : World) (r how : Int) (h0 : 0 ≤ r) (h1 : r < 1114112) (k0 : 0 ≤ how) (k1 : how ≤ 255) : Calls Tryd.prog 63 #[.int .i64 r, .int .u8 how] w (EscPost w r how) := by
  by_cases a : 55296 ≤ r
  · by_cases b : r < 57344
    · exact escaped_go w r how h0 h1 k0 k1 true (.inl ⟨rfl, by simpa using a, by simpa using b⟩)
    · exact escaped_go w r how h0 h1 k0 k1 false (.inr (.inl ⟨rfl, by simpa using a, by simpa using b⟩))
  · exact escaped_go w r how h0 h1 k0 k1 false (.inr (.inr ⟨rfl, by simpa using a⟩))
end Go.Proofs.YtekmminmgjoabaaDoor.Js


namespace Go.Proofs.YtekmminmgjoabaaDoor.Js
open Go.RowKit Go.Proofs.YtekmminmgjoabaaDoorW.PrintWords Go.Proofs.YtekmminmgjoabaaDoorW.PrintLast Go.Proofs.YtekmminmgjoabaaDoorW.PrintMore
set_option linter.unusedVariables false
set_option linter.unusedSimpArgs false
theorem Mv.of_below {w w1 : World} {m : Nat} (hb : Below w.heap.size w w1) (hm : m ≤ w.heap.size) : Mv w w1 m := ⟨KeepBut.of_below hb m none, hb.mono hm⟩
theorem Mv.size {w w1 : World} {m : Nat} (h : Mv w w1 m) : w.heap.size ≤ w1.heap.size := h.below.size
theorem half_cases (r : Int) : (decide (55296 ≤ r) = true ∧ decide (r < 57344) = true ∧ Aside0 (isHalf r = true)) ∨ (decide (55296 ≤ r) = true ∧ decide (r < 57344) = false ∧ Aside0 (isHalf r = false)) ∨ (decide (55296 ≤ r) = false ∧ Aside0 (isHalf r = false)) := by
  unfold isHalf
  cases a : decide (55296 ≤ r)
  · exact .inr (.inr ⟨rfl, ⟨rfl⟩⟩)
  · cases b : decide (r < 57344)
    · exact .inr (.inl ⟨rfl, rfl, ⟨rfl⟩⟩)
    · exact .inl ⟨rfl, rfl, ⟨rfl⟩⟩
theorem signs_step (n : Nat) (code : List Int) (r : Int) (c1 : List Int) (how : Int) (c2 : List Int) (h1 : pointF code = (r, c1)) (h2 : byteF c1 = (how, c2)) :
    signsF (n + 1) code = (escF r how ++ (if isHalf r then [120] else []) ++ (signsF n c2).1, meansF r ++ (if isHalf r then [120] else []) ++ (signsF n c2).2.1, (signsF n c2).2.2) := by
  simp only [signsF, h1, h2]
theorem means_len (r : Int) : (meansF r).length ≤ 4 := by
  unfold meansF
  split
  · simp
  · unfold runeF; split; · simp
    split; · simp
    split <;> simp
theorem signs_len2 : ∀ (n : Nat) (code : List Int), (signsF n code).2.1.length ≤ 13 * n := by
  intro n
  induction n with
  | zero => intro code; simp [signsF]
  | succ n ih =>
    intro code
    simp only [signsF, List.length_append]
    have h1 := means_len (pointF code).1
    have h2 := ih (byteF (pointF code).2).2
    have h3 : (if isHalf (pointF code).1 = true then [120] else ([] : List Int)).length ≤ 1 := by split <;> simp
    omega
theorem cat_x (a e : List Int) : Value.string (strOfNums a ++ strOfNums e ++ ⟨#[120]⟩) = .string (strOfNums (a ++ (e ++ [120]))) := by
  rw [strOf_append, strOf_append, ByteArray.append_assoc]; rfl
theorem cat_xc (c : Int) (a e : List Int) : Value.string (strOfNums (c :: a) ++ strOfNums e ++ ⟨#[120]⟩) = .string (strOfNums (c :: (a ++ (e ++ [120])))) := by
  rw [cat_x]; rfl
theorem cat_y (a e : List Int) : Value.string (strOfNums a ++ strOfNums e) = .string (strOfNums (a ++ e)) := by
  rw [strOf_append]
def TextPost (w : World) (B m : Nat) (code : List Int) (left : Int) (e : Ending) (w' : World) : Prop := e = .returned (.tuple #[.string (strOfNums (textF code).1), .string (strOfNums (textF code).2.1)]) ∧ MadeAt w' B m (textF code).2.2 left ∧ Mv w w' m
set_option maxHeartbeats 4000000 in
set_option maxRecDepth 100000 in
theorem text_calls (w : World) (B m : Nat) (code : List Int) (left : Int) (hB : B ≤ m) (hm : MadeAt w B m code left) :
    Calls Tryd.prog 31 #[.pointer (some ⟨m, 0, none⟩)] w (TextPost w B m code left) := by
  obtain ⟨a0, a1, a2⟩ := byteF_in hm.bytes
  have H1 := Aside0.mk (byte_calls w B m code left hB hm)
  have HB := Aside0.mk hB
  obtain ⟨b, hb⟩ : ∃ b, b = (byteF code).1 := ⟨_, rfl⟩
  obtain ⟨c, hc⟩ : ∃ c, c = (byteF code).2 := ⟨_, rfl⟩
  have HT := Aside0.mk (show textF code = (34 :: ((signsF (b % 7).toNat c).1 ++ [34]), (signsF (b % 7).toNat c).2.1, (signsF (b % 7).toNat c).2.2) by rw [hb, hc]; rfl)
  rw [← hb] at a0 a1 H1
  rw [← hc] at H1
  clear hm hB hb hc a2
  obtain ⟨N, hN⟩ : ∃ N : Nat, b % 7 = (N : Int) := ⟨(b % 7).toNat, by omega⟩
  have HN := Aside0.mk hN
  have HNL := Aside0.mk (show N ≤ 6 by omega)
  have HT2 : Aside0 (textF code = (34 :: ((signsF N c).1 ++ [34]), (signsF N c).2.1, (signsF N c).2.2)) := by
    have := HT.out
    rw [hN] at this
    exact ⟨this⟩
  clear HT hN
  go_enter Tryd.func31, Tryd.ntmps31
  go_upto_region 3 with (go_at_call 46; (with_reducible refine H1.out.mono ?_); rintro e w1 ⟨rfl, hm1, hv1⟩; have HM1 := Aside0.mk hm1; have HV1 := Aside0.mk hv1; clear hm1 hv1)
  rw [HN.out]
  go_loopg [4, 5, 6] N (fun n v4 v5 v6 w' => ∃ p ms c1, v4 = .string (strOfNums (34 :: p)) ∧ v5 = .string (strOfNums ms) ∧ v6 = .int .i64 (n : Int) ∧ Aside0 (n ≤ 6) ∧ Aside0 (MadeAt w' B m c1 left) ∧ Aside0 (Mv w w' m) ∧ Aside0 (p ++ (signsF n c1).1 = (signsF N c).1 ∧ ms ++ (signsF n c1).2.1 = (signsF N c).2.1 ∧ (signsF n c1).2.2 = (signsF N c).2.2))
  case atStart => exact ⟨[], [], c, rfl, rfl, rfl, HNL, HM1, HV1, ⟨rfl, rfl, rfl⟩⟩
  case round =>
    obtain ⟨p, ms, c1, rfl, rfl, rfl, HG, HM, HV, HE⟩ := hrel
    clear HM1 HV1
    have lp : p.length ≤ 78 := by
      have h1 := signs_len N c
      rw [← HE.out.1, List.length_append] at h1
      have := HNL.out
      omega
    have lm : ms.length ≤ 78 := by
      have h1 := signs_len2 N c
      rw [← HE.out.2.1, List.length_append] at h1
      have := HNL.out
      omega
    cases gk with
    | zero =>
      have z5 : ¬ (9223372036854775807 < (strOfNums (34 :: p)).size + 1) := by rw [strOf_size, List.length_cons]; omega
      clear lp lm
      go_wp2_with fail
      go_ret2
      obtain ⟨e1, e2, e3⟩ := HE.out
      simp only [signsF, List.append_nil] at e1 e2 e3
      refine ⟨?_, ?_, HV.out⟩
      · rw [HT2.out, ← e1, ← e2]
        refine tup2 ?_ rfl
        exact (strOf_append (34 :: p) [34]).symm
      · rw [HT2.out, ← e3]; exact HM.out
    | succ k1 =>
      have d : decide (0 < ((k1 + 1 : Nat) : Int)) = true := by simp
      have hk6 : (k1 : Int) ≤ 6 := by have := HG.out; omega
      obtain ⟨r0, r1, r2⟩ := pointF_in HM.out.bytes
      obtain ⟨q0, q1, q2⟩ := byteF_in r2
      have HP := Aside0.mk (point_calls wr B m c1 left HB.out HM.out)
      have hq := Aside0.mk (fun w2 h => byte_calls w2 B m (pointF c1).2 left HB.out h)
      obtain ⟨r, hr⟩ : ∃ r, r = (pointF c1).1 := ⟨_, rfl⟩
      obtain ⟨c2, hc2⟩ : ∃ c2, c2 = (pointF c1).2 := ⟨_, rfl⟩
      obtain ⟨how, hhow⟩ : ∃ how, how = (byteF c2).1 := ⟨_, rfl⟩
      obtain ⟨c3, hc3⟩ : ∃ c3, c3 = (byteF c2).2 := ⟨_, rfl⟩
      have HST := Aside0.mk (signs_step k1 c1 r c2 how c3 (by rw [hr, hc2]) (by rw [hhow, hc3]))
      rw [← hc2] at q0 q1 hq HP
      rw [← hr] at r0 r1 HP
      rw [← hhow] at q0 q1 hq
      rw [← hc3] at hq
      clear hr hc2 hhow hc3 r2 q2
      have le := escF_len r how
      have lm2 := means_len r
      have z1 : ¬ (9223372036854775807 < (strOfNums (34 :: p)).size + (strOfNums (escF r how)).size) := by rw [strOf_size, strOf_size]; simp; omega
      have z2 : ¬ (9223372036854775807 < (strOfNums ms).size + (strOfNums (meansF r)).size) := by rw [strOf_size, strOf_size]; omega
      have z3 : ¬ (9223372036854775807 < (strOfNums (34 :: p)).size + (strOfNums (escF r how)).size + 1) := by rw [strOf_size, strOf_size]; simp; omega
      have z4 : ¬ (9223372036854775807 < (strOfNums ms).size + (strOfNums (meansF r)).size + 1) := by rw [strOf_size, strOf_size]; omega
      clear lp lm le lm2
      rcases half_cases r with ⟨g1, g2, HH⟩ | ⟨g1, g2, HH⟩ | ⟨g1, HH⟩
      all_goals
        go_wp2_with (first
          | (go_at_call 62; (with_reducible refine HP.out.mono ?_); rintro e w2 ⟨rfl, hm2, hv2⟩; have HM2 := Aside0.mk hm2; have HV2 := Aside0.mk hv2; clear hm2 hv2)
          | (go_at_call 46; (with_reducible refine (hq.out _ HM2.out).mono ?_); rintro e w3 ⟨rfl, hm3, hv3⟩; have HM3 := Aside0.mk hm3; have HV3 := Aside0.mk hv3; clear hm3 hv3)
          | (go_at_call 63; (with_reducible refine (escaped_calls _ r how r0 r1 q0 q1).mono ?_); rintro e w4 ⟨rfl, hb4⟩; have HB4 := Aside0.mk hb4; clear hb4))
        go_roundg k1
        case measure => omega
      all_goals
        have e := HE.out
        rw [HST.out, HH.out] at e
        simp only [if_true, Bool.false_eq_true, if_false, List.append_nil] at e
      · refine ⟨p ++ (escF r how ++ [120]), ms ++ (meansF r ++ [120]), c3, cat_xc 34 p (escF r how), cat_x ms (meansF r), rfl, ⟨by omega⟩, ⟨HM3.out.below HB.out HB4.out⟩, ⟨((HV.out.trans HV2.out).trans HV3.out).trans (Mv.of_below HB4.out (Nat.le_of_lt HM3.out.lt))⟩, ⟨?_, ?_, e.2.2⟩⟩
        · rw [← e.1]; simp
        · rw [← e.2.1]; simp
      · refine ⟨p ++ escF r how, ms ++ meansF r, c3, cat_y (34 :: p) (escF r how), cat_y ms (meansF r), rfl, ⟨by omega⟩, ⟨HM3.out.below HB.out HB4.out⟩, ⟨((HV.out.trans HV2.out).trans HV3.out).trans (Mv.of_below HB4.out (Nat.le_of_lt HM3.out.lt))⟩, ⟨?_, ?_, e.2.2⟩⟩
        · rw [← e.1]; simp
        · rw [← e.2.1]; simp
      · refine ⟨p ++ escF r how, ms ++ meansF r, c3, cat_y (34 :: p) (escF r how), cat_y ms (meansF r), rfl, ⟨by omega⟩, ⟨HM3.out.below HB.out HB4.out⟩, ⟨((HV.out.trans HV2.out).trans HV3.out).trans (Mv.of_below HB4.out (Nat.le_of_lt HM3.out.lt))⟩, ⟨?_, ?_, e.2.2⟩⟩
        · rw [← e.1]; simp
        · rw [← e.2.1]; simp
end Go.Proofs.YtekmminmgjoabaaDoor.Js

