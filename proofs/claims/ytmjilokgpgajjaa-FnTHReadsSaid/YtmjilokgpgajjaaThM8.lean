/- Merged by merge.py (wip/tpl) out of ThGood, ThGood2: Written by thgood.py (wip/tpl): the calls that the laws speak of, with their bytes, kind by kind; what THWrite writes of each, and what the definition tells of each. Written by thgood2.py (wip/tpl): what the definition tells of each call; and that the calls that the laws make are among these. -/
import Derived.Test.YtmjilokgpgajjaaThM1
import Derived.Laws.BitsLemmas
import Derived.Test.YtmjilokgpgajjaaThWrCall
import Derived.Test.YtmjilokgpgajjaaThM4
import Derived.Test.YtmjilokgpgajjaaThSpecC
import Derived.Test.YtmjilokgpgajjaaThM5
import Derived.Test.YtmjilokgpgajjaaThM6
namespace Go.Proofs.Ytmjilokgpgajjaa.Th
open Go.RowKit Go.Proofs.YtmjilokgpgajjaaW.PrintWords Go.Proofs.YtmjilokgpgajjaaW.PrintLast Go.Proofs.YtmjilokgpgajjaaW.PrintMore Go.Proofs.Ytmjilokgpgajjaa.PFnTHWrites
set_option linter.unusedVariables false
set_option linter.unusedSimpArgs false
/-- A call of the binary protocols, but of a message. -/
inductive GoodB : Cl → List Int → Prop
  | i1z   : GoodB (⟨1, 0, ⟨#[]⟩, 0, 0, false⟩) (hib 1 0)
  | i1o   : GoodB (⟨1, 1, ⟨#[]⟩, 0, 0, false⟩) (hib 1 1)
  | i2 (n : Int) (h0 : -128 ≤ n) (h1 : n < 128) : GoodB (⟨2, n, ⟨#[]⟩, 0, 0, false⟩) (hib 1 n)
  | i3 (n : Int) (h0 : -32768 ≤ n) (h1 : n < 32768) : GoodB (⟨3, n, ⟨#[]⟩, 0, 0, false⟩) (hib 2 n)
  | i4 (n : Int) (h0 : -2147483648 ≤ n) (h1 : n < 2147483648) : GoodB (⟨4, n, ⟨#[]⟩, 0, 0, false⟩) (hib 4 n)
  | i5 (n : Int) (h0 : -9223372036854775808 ≤ n) (h1 : n < 9223372036854775808) : GoodB (⟨5, n, ⟨#[]⟩, 0, 0, false⟩) (hib 8 n)
  | i6 (n : Int) (h0 : -9223372036854775808 ≤ n) (h1 : n < 9223372036854775808) : GoodB (⟨6, n, ⟨#[]⟩, 0, 0, false⟩) (hib 8 n)
  | i7 (S : ByteArray) (hS : S.size < 2147483648) : GoodB (⟨7, 0, S, 0, 0, false⟩) (hib 4 (S.size : Int) ++ bytesOf S)
  | i8 (S : ByteArray) (hS : S.size < 2147483648) : GoodB (⟨8, 0, S, 0, 0, false⟩) (hib 4 (S.size : Int) ++ bytesOf S)
  | i9 (n : Int) (h0 : 0 ≤ n) (h1 : n < 1048576) : GoodB (⟨9, n, ⟨#[]⟩, 0, 0, false⟩) (hib 4 n)
  | i11 (n a : Int) (h0 : -32768 ≤ n) (h1 : n < 32768) (a0 : 2 ≤ a) (a1 : a < 13) : GoodB (⟨11, n, ⟨#[]⟩, a, 0, false⟩) ([IntKind.u8.wrap a] ++ hib 2 n)
  | i12 (n a : Int) (h0 : 0 ≤ n) (h1 : n < 1048576) (a0 : 2 ≤ a) (a1 : a < 13) : GoodB (⟨12, n, ⟨#[]⟩, a, 0, false⟩) ([IntKind.u8.wrap a] ++ hib 4 n)
  | i13 (n a : Int) (h0 : 0 ≤ n) (h1 : n < 1048576) (a0 : 2 ≤ a) (a1 : a < 13) : GoodB (⟨13, n, ⟨#[]⟩, a, 0, false⟩) ([IntKind.u8.wrap a] ++ hib 4 n)
  | i14 (n a b : Int) (h0 : 0 ≤ n) (h1 : n < 1048576) (a0 : 2 ≤ a) (a1 : a < 13) (b0 : 2 ≤ b) (b1 : b < 13) : GoodB (⟨14, n, ⟨#[]⟩, a, b, false⟩) ([IntKind.u8.wrap a, IntKind.u8.wrap b] ++ hib 4 n)
/-- A message of the elder binary protocol. -/
inductive GoodO : Cl → List Int → Prop
  | i10 (n a : Int) (S : ByteArray) (h0 : -2147483648 ≤ n) (h1 : n < 2147483648) (a0 : 0 ≤ a) (a1 : a < 4) (hS : S.size < 2147483648) : GoodO (⟨10, n, S, a, 0, false⟩) (((hib 4 (S.size : Int) ++ bytesOf S) ++ [IntKind.u8.wrap a]) ++ hib 4 n)
/-- A message of the binary protocol. -/
inductive GoodN : Cl → List Int → Prop
  | i10 (n a : Int) (S : ByteArray) (h0 : -2147483648 ≤ n) (h1 : n < 2147483648) (a0 : 0 ≤ a) (a1 : a < 4) (hS : S.size < 2147483648) : GoodN (⟨10, n, S, a, 0, false⟩) (([128, 0, 0, IntKind.u8.wrap a] ++ (hib 4 (S.size : Int) ++ bytesOf S)) ++ hib 4 n)
/-- A call of the compact protocol. -/
inductive GoodC : Cl → List Int → Prop
  | i1z   : GoodC (⟨1, 0, ⟨#[]⟩, 0, 0, false⟩) (hib 1 0)
  | i1o   : GoodC (⟨1, 1, ⟨#[]⟩, 0, 0, false⟩) (hib 1 1)
  | i2 (n : Int) (h0 : -128 ≤ n) (h1 : n < 128) : GoodC (⟨2, n, ⟨#[]⟩, 0, 0, false⟩) (hib 1 n)
  | i3 (n : Int) (h0 : -32768 ≤ n) (h1 : n < 32768) (j : Nat) (hj : j < 10) (hn : nb j (zig n)) : GoodC (⟨3, n, ⟨#[]⟩, 0, 0, false⟩) (vbytes j (zig n))
  | i4 (n : Int) (h0 : -2147483648 ≤ n) (h1 : n < 2147483648) (j : Nat) (hj : j < 10) (hn : nb j (zig n)) : GoodC (⟨4, n, ⟨#[]⟩, 0, 0, false⟩) (vbytes j (zig n))
  | i5 (n : Int) (h0 : -9223372036854775808 ≤ n) (h1 : n < 9223372036854775808) (j : Nat) (hj : j < 10) (hn : nb j (zig n)) : GoodC (⟨5, n, ⟨#[]⟩, 0, 0, false⟩) (vbytes j (zig n))
  | i6 (n : Int) (h0 : -9223372036854775808 ≤ n) (h1 : n < 9223372036854775808) : GoodC (⟨6, n, ⟨#[]⟩, 0, 0, false⟩) (hib 8 n)
  | i7 (S : ByteArray) (hS : S.size < 2147483648) (j0 : Nat) (hj0 : j0 < 10) (hn0 : nb j0 (S.size : Int)) : GoodC (⟨7, 0, S, 0, 0, false⟩) (vbytes j0 (S.size : Int) ++ bytesOf S)
  | i8 (S : ByteArray) (hS : S.size < 2147483648) (j0 : Nat) (hj0 : j0 < 10) (hn0 : nb j0 (S.size : Int)) : GoodC (⟨8, 0, S, 0, 0, false⟩) (vbytes j0 (S.size : Int) ++ bytesOf S)
  | i9 (n : Int) (h0 : 0 ≤ n) (h1 : n < 1048576) (j : Nat) (hj : j < 10) (hn : nb j n) : GoodC (⟨9, n, ⟨#[]⟩, 0, 0, false⟩) (vbytes j n)
  | i10 (n a : Int) (S : ByteArray) (h0 : 0 ≤ n) (h1 : n < 2147483648) (a0 : 0 ≤ a) (a1 : a < 4) (hS : S.size < 2147483648) (j : Nat) (hj : j < 10) (hn : nb j n) (j0 : Nat) (hj0 : j0 < 10) (hn0 : nb j0 (S.size : Int)) : GoodC (⟨10, n, S, a, 0, false⟩) (([130, IntKind.u8.wrap a] ++ vbytes j n) ++ (vbytes j0 (S.size : Int) ++ bytesOf S))
  | i11s (n a : Int) (h0 : 1 ≤ n) (h1 : n < 16) (a0 : 2 ≤ a) (a1 : a < 13) : GoodC (⟨11, n, ⟨#[]⟩, a, 0, false⟩) ([Go.bits .or .u8 (IntKind.u8.wrap (IntKind.u8.wrap n * 16)) (IntKind.u8.wrap a)])
  | i11l (n a : Int) (h0 : 16 ≤ n) (h1 : n < 32768) (a0 : 2 ≤ a) (a1 : a < 13) (j : Nat) (hj : j < 10) (hn : nb j (zig n)) : GoodC (⟨11, n, ⟨#[]⟩, a, 0, false⟩) ([IntKind.u8.wrap a] ++ vbytes j (zig n))
  | i12s (n a : Int) (h0 : 0 ≤ n) (h1 : n < 15) (a0 : 2 ≤ a) (a1 : a < 13) : GoodC (⟨12, n, ⟨#[]⟩, a, 0, false⟩) ([Go.bits .or .u8 (IntKind.u8.wrap (IntKind.u8.wrap n * 16)) (IntKind.u8.wrap a)])
  | i12l (n a : Int) (h0 : 15 ≤ n) (h1 : n < 1048576) (a0 : 2 ≤ a) (a1 : a < 13) (j : Nat) (hj : j < 10) (hn : nb j n) : GoodC (⟨12, n, ⟨#[]⟩, a, 0, false⟩) ([Go.bits .or .u8 240 (IntKind.u8.wrap a)] ++ vbytes j n)
  | i13s (n a : Int) (h0 : 0 ≤ n) (h1 : n < 15) (a0 : 2 ≤ a) (a1 : a < 13) : GoodC (⟨13, n, ⟨#[]⟩, a, 0, false⟩) ([Go.bits .or .u8 (IntKind.u8.wrap (IntKind.u8.wrap n * 16)) (IntKind.u8.wrap a)])
  | i13l (n a : Int) (h0 : 15 ≤ n) (h1 : n < 1048576) (a0 : 2 ≤ a) (a1 : a < 13) (j : Nat) (hj : j < 10) (hn : nb j n) : GoodC (⟨13, n, ⟨#[]⟩, a, 0, false⟩) ([Go.bits .or .u8 240 (IntKind.u8.wrap a)] ++ vbytes j n)
  | i14z (a b : Int) (a0 : 2 ≤ a) (a1 : a < 13) (b0 : 2 ≤ b) (b1 : b < 13) : GoodC (⟨14, 0, ⟨#[]⟩, a, b, false⟩) ([0])
  | i14l (n a b : Int) (h0 : 0 < n) (h1 : n < 1048576) (a0 : 2 ≤ a) (a1 : a < 13) (b0 : 2 ≤ b) (b1 : b < 13) (j : Nat) (hj : j < 10) (hn : nb j n) : GoodC (⟨14, n, ⟨#[]⟩, a, b, false⟩) (vbytes j n ++ [Go.bits .or .u8 (IntKind.u8.wrap (IntKind.u8.wrap a * 16)) (IntKind.u8.wrap b)])
/-- The calls that the laws speak of, by protocol. -/
def Good (p : Int) (c : Cl) (zs : List Int) : Prop := (p = 0 ∧ (GoodB c zs ∨ GoodN c zs)) ∨ (p = 1 ∧ (GoodB c zs ∨ GoodO c zs)) ∨ (p = 2 ∧ GoodC c zs)
theorem one_hib (n : Int) : [IntKind.u8.wrap n] = hib 1 n := by simp [hib, IntKind.wrap_u8]
theorem or16 (n a : Int) : Go.bits .or .u8 (IntKind.u8.wrap (IntKind.i16.wrap (n * 16))) (IntKind.u8.wrap a) = Go.bits .or .u8 (IntKind.u8.wrap (IntKind.u8.wrap n * 16)) (IntKind.u8.wrap a) := by
  congr 1
  have e : IntKind.i16.wrap (n * 16) = (n * 16 + 32768) % 65536 - 32768 := by simp [IntKind.wrap, IntKind.signed, IntKind.bits, IntKind.min, IntKind.max]; omega
  rw [e]
  simp only [IntKind.wrap_u8]
  omega
theorem or32 (n a : Int) : Go.bits .or .u8 (IntKind.u8.wrap (IntKind.i32.wrap (n * 16))) (IntKind.u8.wrap a) = Go.bits .or .u8 (IntKind.u8.wrap (IntKind.u8.wrap n * 16)) (IntKind.u8.wrap a) := by
  congr 1
  simp only [IntKind.wrap_u8, IntKind.wrap_i32]
  omega
theorem and7 (a : Int) (a0 : 0 ≤ a) (a1 : a < 4) : Go.bits .and .u8 (IntKind.u8.wrap a) 7 = IntKind.u8.wrap a := by
  rcases (by omega : a = 0 ∨ a = 1 ∨ a = 2 ∨ a = 3) with rfl | rfl | rfl | rfl <;> decide
end Go.Proofs.Ytmjilokgpgajjaa.Th

namespace Go.Proofs.Ytmjilokgpgajjaa.Th
open Go.RowKit Go.Proofs.YtmjilokgpgajjaaW.PrintWords Go.Proofs.YtmjilokgpgajjaaW.PrintLast Go.Proofs.YtmjilokgpgajjaaW.PrintMore Go.Proofs.Ytmjilokgpgajjaa.PFnTHWrites
set_option linter.unusedVariables false
set_option linter.unusedSimpArgs false
set_option maxHeartbeats 4000000 in
set_option maxRecDepth 100000 in
theorem sp_two (op n : Int) (S : ByteArray) (a b : Int) (d : Bool) (zs : List Int) (w : World) (h : ∀ w : World, Calls Try.prog 18 #[.agg #[.int .i64 op, .int .i64 n, .string S, .int .i64 a, .int .i64 b, .bool d]] w fun e w' => ∃ v, e = .returned v ∧ (Kd.int .u8).R 5 w' w.heap.size (fun _ => True) v zs ∧ Below w.heap.size w w') :
    Calls Try.prog 13 #[.int .i64 2, .agg #[.int .i64 op, .int .i64 n, .string S, .int .i64 a, .int .i64 b, .bool d]] w fun e w' => ∃ v, e = .returned v ∧ (Kd.int .u8).R 5 w' w.heap.size (fun _ => True) v zs ∧ Below w.heap.size w w' := by
  have H := Aside0.mk h
  clear h
  go_enter Try.func13, Try.ntmps13
  go_wp2_with (first | ((with_reducible refine gate_dst (N := 3) rfl ?_); refine box_event ?xhg (N := 3) ?xhd (cs := #[.int .i64 op, .int .i64 n, .string S, .int .i64 a, .int .i64 b, .bool d]) (t := 30) ?xhr ?_; (case xhd => rfl); (case xhg => rfl); (case xhr => first | (go_simp; done) | (go_simp; rfl)); intro G hG W hb1 hg1; have HB := Aside0.mk hg1; have hsz := hg1.size; have c0 : W.cell? ⟨G, 0, none⟩ = some (.int .i64 op) := (blk_cell hb1 0).trans rfl; have c1 : W.cell? ⟨G, 1, none⟩ = some (.int .i64 n) := (blk_cell hb1 1).trans rfl; have c2 : W.cell? ⟨G, 2, none⟩ = some (.string S) := (blk_cell hb1 2).trans rfl; have c3 : W.cell? ⟨G, 3, none⟩ = some (.int .i64 a) := (blk_cell hb1 3).trans rfl; have c4 : W.cell? ⟨G, 4, none⟩ = some (.int .i64 b) := (blk_cell hb1 4).trans rfl; have c5 : W.cell? ⟨G, 5, none⟩ = some (.bool d) := (blk_cell hb1 5).trans rfl; have hlt := blk_lt hb1; clear hb1 hg1 hG) | (go_at_call 18; (with_reducible refine (H.out _).mono ?_); rintro e w5 ⟨v5, rfl, ho, hb⟩; have HR5 := Aside0.mk (Kd.R_lower ho hsz); have HB5 := Aside0.mk (HB.out.trans (hb.mono hsz)); clear ho hb))
  go_ret
  exact ⟨v5, rfl, HR5.out, HB5.out⟩
theorem nb_zero : nb 0 (((⟨#[]⟩ : ByteArray).size : Nat) : Int) := by simp only [nb]; decide
theorem small_zero : (⟨#[]⟩ : ByteArray).size < 2147483648 := by decide
theorem sp_B {p : Int} (hp : decide (p = 2) = false) {c : Cl} {ys : List Int} (h : GoodB c ys) : Sp p c ys := by
  cases h with
  | i1z  => exact fun w => thb_1 p 0 _ 0 0 false w hp small_zero
  | i1o  => exact fun w => thb_1 p 1 _ 0 0 false w hp small_zero
  | i2 n h0 h1 => exact fun w => thb_2 p n _ 0 0 false w hp small_zero
  | i3 n h0 h1 => exact fun w => thb_3 p n _ 0 0 false w hp small_zero
  | i4 n h0 h1 => exact fun w => thb_4 p n _ 0 0 false w hp small_zero
  | i5 n h0 h1 => exact fun w => thb_5 p n _ 0 0 false w hp small_zero
  | i6 n h0 h1 => exact fun w => thb_6 p n _ 0 0 false w hp small_zero
  | i7 S hS => exact fun w => thb_7 p 0 S 0 0 false w hp hS
  | i8 S hS => exact fun w => thb_8 p 0 S 0 0 false w hp hS
  | i9 n h0 h1 => exact fun w => thb_9 p n _ 0 0 false w hp small_zero
  | i11 n a h0 h1 a0 a1 => exact fun w => thb_11 p n _ a 0 false w hp small_zero
  | i12 n a h0 h1 a0 a1 => exact fun w => thb_12 p n _ a 0 false w hp small_zero
  | i13 n a h0 h1 a0 a1 => exact fun w => thb_13 p n _ a 0 false w hp small_zero
  | i14 n a b h0 h1 a0 a1 b0 b1 => exact fun w => thb_14 p n _ a b false w hp small_zero
theorem sp_O {c : Cl} {ys : List Int} (h : GoodO c ys) : Sp 1 c ys := by
  cases h with
  | i10 n a S h0 h1 a0 a1 hS => exact fun w => thb_10_1 n S a 0 false w hS
theorem sp_N {c : Cl} {ys : List Int} (h : GoodN c ys) : Sp 0 c ys := by
  cases h with
  | i10 n a S h0 h1 a0 a1 hS => exact fun w => thb_10_0 n S a 0 false w hS
theorem sp_C {c : Cl} {ys : List Int} (h : GoodC c ys) : Sp 2 c ys := by
  cases h with
  | i1z  => exact fun w => sp_two _ _ _ _ _ _ _ w (fun w => thc_1 0 _ 0 0 false w small_zero 0 (by omega) nb_zero)
  | i1o  => exact fun w => sp_two _ _ _ _ _ _ _ w (fun w => thc_1 1 _ 0 0 false w small_zero 0 (by omega) nb_zero)
  | i2 n h0 h1 => exact fun w => sp_two _ _ _ _ _ _ _ w (fun w => thc_2 n _ 0 0 false w small_zero 0 (by omega) nb_zero)
  | i3 n h0 h1 j hj hn => exact fun w => sp_two _ _ _ _ _ _ _ w (fun w => thc_3 n _ 0 0 false w small_zero 0 (by omega) nb_zero (by omega) (by omega) j hj hn)
  | i4 n h0 h1 j hj hn => exact fun w => sp_two _ _ _ _ _ _ _ w (fun w => thc_4 n _ 0 0 false w small_zero 0 (by omega) nb_zero (by omega) (by omega) j hj hn)
  | i5 n h0 h1 j hj hn => exact fun w => sp_two _ _ _ _ _ _ _ w (fun w => thc_5 n _ 0 0 false w small_zero 0 (by omega) nb_zero (by omega) (by omega) j hj hn)
  | i6 n h0 h1 => exact fun w => sp_two _ _ _ _ _ _ _ w (fun w => thc_6 n _ 0 0 false w small_zero 0 (by omega) nb_zero)
  | i7 S hS j0 hj0 hn0 => exact fun w => sp_two _ _ _ _ _ _ _ w (fun w => thc_7 0 S 0 0 false w hS j0 hj0 hn0)
  | i8 S hS j0 hj0 hn0 => exact fun w => sp_two _ _ _ _ _ _ _ w (fun w => thc_8 0 S 0 0 false w hS j0 hj0 hn0)
  | i9 n h0 h1 j hj hn => exact fun w => sp_two _ _ _ _ _ _ _ w (fun w => thc_9 n _ 0 0 false w small_zero 0 (by omega) nb_zero h0 (by omega) j hj hn)
  | i10 n a S h0 h1 a0 a1 hS j hj hn j0 hj0 hn0 => exact fun w => sp_two _ _ _ _ _ _ _ w (fun w => thc_10 n S a 0 false w hS j0 hj0 hn0 h0 h1 j hj hn)
  | i11s n a h0 h1 a0 a1 => exact fun w => sp_two _ _ _ _ _ _ _ w (fun w => thc_11s n _ a 0 false w small_zero 0 (by omega) nb_zero (by omega) h1)
  | i11l n a h0 h1 a0 a1 j hj hn => exact fun w => sp_two _ _ _ _ _ _ _ w (fun w => thc_11l n _ a 0 false w small_zero 0 (by omega) nb_zero (by omega) h0 (by omega) j hj hn)
  | i12s n a h0 h1 a0 a1 => exact fun w => sp_two _ _ _ _ _ _ _ w (fun w => thc_12s n _ a 0 false w small_zero 0 (by omega) nb_zero h1)
  | i12l n a h0 h1 a0 a1 j hj hn => exact fun w => sp_two _ _ _ _ _ _ _ w (fun w => thc_12l n _ a 0 false w small_zero 0 (by omega) nb_zero h0 (by omega) j hj hn)
  | i13s n a h0 h1 a0 a1 => exact fun w => sp_two _ _ _ _ _ _ _ w (fun w => thc_13s n _ a 0 false w small_zero 0 (by omega) nb_zero h1)
  | i13l n a h0 h1 a0 a1 j hj hn => exact fun w => sp_two _ _ _ _ _ _ _ w (fun w => thc_13l n _ a 0 false w small_zero 0 (by omega) nb_zero h0 (by omega) j hj hn)
  | i14z a b a0 a1 b0 b1 => exact fun w => sp_two _ _ _ _ _ _ _ w (fun w => thc_14z _ a b false w small_zero 0 (by omega) nb_zero)
  | i14l n a b h0 h1 a0 a1 b0 b1 j hj hn => exact fun w => sp_two _ _ _ _ _ _ _ w (fun w => thc_14l n _ a b false w small_zero 0 (by omega) nb_zero h0 (by omega) j hj hn)
theorem good_sp {p : Int} {c : Cl} {zs : List Int} (h : Good p c zs) : Sp p c zs := by
  rcases h with ⟨rfl, h | h⟩ | ⟨rfl, h | h⟩ | ⟨rfl, h⟩
  · exact sp_B (by decide) h
  · exact sp_N h
  · exact sp_B (by decide) h
  · exact sp_O h
  · exact sp_C h
theorem and_mask (n : Int) (m : Nat) (hm : m < 9223372036854775808) : 0 ≤ Go.bits .and .i64 n (m : Int) ∧ Go.bits .and .i64 n (m : Int) ≤ m := by
  have h : (BitVec.ofInt 64 n &&& BitVec.ofInt 64 (m : Int)).toNat ≤ m := by
    rw [BitVec.toNat_and]
    refine Nat.le_trans Nat.and_le_right ?_
    rw [BitVec.toNat_ofInt]
    omega
  unfold Go.bits
  rw [IntKind.wrap_i64]
  show 0 ≤ ((((BitVec.ofInt 64 n) &&& (BitVec.ofInt 64 (m : Int))).toNat : Nat) + (9223372036854775808 : Int)) % 18446744073709551616 - 9223372036854775808 ∧ ((((BitVec.ofInt 64 n) &&& (BitVec.ofInt 64 (m : Int))).toNat : Nat) + (9223372036854775808 : Int)) % 18446744073709551616 - 9223372036854775808 ≤ m
  omega
theorem i8_range (n : Int) : -128 ≤ wrap64 (IntKind.i8.wrap n) ∧ wrap64 (IntKind.i8.wrap n) < 128 := by
  have e : IntKind.i8.wrap n = (n + 128) % 256 - 128 := by simp [IntKind.wrap, IntKind.signed, IntKind.bits, IntKind.min, IntKind.max]; omega
  rw [e]
  unfold wrap64
  omega
theorem i16_range (n : Int) : -32768 ≤ wrap64 (IntKind.i16.wrap n) ∧ wrap64 (IntKind.i16.wrap n) < 32768 := by
  have e : IntKind.i16.wrap n = (n + 32768) % 65536 - 32768 := by simp [IntKind.wrap, IntKind.signed, IntKind.bits, IntKind.min, IntKind.max]; omega
  rw [e]
  unfold wrap64
  omega
theorem i32_range (n : Int) : -2147483648 ≤ wrap64 (wrap32 n) ∧ wrap64 (wrap32 n) < 2147483648 := by
  unfold wrap64 wrap32
  omega
theorem for_plain (p : Int) (op n : Int) (S : ByteArray) (a b : Int) (d : Bool) (h : p ≠ 2 ∨ (op ≠ 10 ∧ op ≠ 11)) : laws_wrFor.f 3 p op n S a b d = some (op, n, S, a, b, d) := by
  unfold laws_wrFor.f
  by_cases hp : p = 2
  · rcases h with h | ⟨h1, h2⟩
    · exact absurd hp h
    · rw [if_pos hp, if_neg h2]
      simp [laws_wrFor.j0, hp, h1]
  · rw [if_neg hp]
    simp [laws_wrFor.j0, hp]
theorem for_field (n : Int) (S : ByteArray) (a b : Int) (d : Bool) (h0 : -32768 ≤ n) (h1 : n < 32768) : ∃ m, laws_wrFor.f 3 2 11 n S a b d = some (11, m, S, a, b, d) ∧ 1 ≤ m ∧ m < 32768 := by
  have e : wrap64 (1 - n) = 1 - n := by unfold wrap64; omega
  by_cases hn : n < 1
  · refine ⟨mn (wrap64 (1 - n)) 32767, ?_, ?_⟩
    · simp [laws_wrFor.f, laws_wrFor.j0, hn]
    · rw [e]; unfold mn; omega
  · exact ⟨n, by simp [laws_wrFor.f, laws_wrFor.j0, hn], by omega, h1⟩
theorem for_message (n : Int) (S : ByteArray) (a b : Int) (d : Bool) (h0 : -2147483648 ≤ n) (h1 : n < 2147483648) : ∃ m, laws_wrFor.f 3 2 10 n S a b d = some (10, m, S, a, b, d) ∧ 0 ≤ m ∧ m < 2147483648 := by
  have e : wrap64 (-1 - n) = -1 - n := by unfold wrap64; omega
  by_cases hn : n < 0
  · exact ⟨wrap64 (-1 - n), by simp [laws_wrFor.f, laws_wrFor.j0, hn], by omega, by omega⟩
  · exact ⟨n, by simp [laws_wrFor.f, laws_wrFor.j0, hn], by omega, h1⟩
/-- What wrCall and wrFor make is good. -/
theorem good_1 (k n x y : Int) (S : ByteArray) (k0 : 0 ≤ k) (k1 : k ≤ 255) (n0 : -9223372036854775808 ≤ n) (n1 : n ≤ 9223372036854775807) (x0 : 0 ≤ x) (x1 : x ≤ 255) (y0 : 0 ≤ y) (y1 : y ≤ 255) (hS : S.size ≤ 2147483647) (hk : k % 14 = 0) (p : Int) (hp : p = 0 ∨ p = 1 ∨ p = 2) : ∃ c0 c1 zs, Mk k n S x y false c0 ∧ laws_wrFor.f 3 p c0.op c0.n c0.S c0.a c0.b c0.d = some (c1.op, c1.n, c1.S, c1.a, c1.b, c1.d) ∧ Good p c1 zs := by
  have hr := and_mask n 1 (by omega)
  have hN : spec_WRCut.f 3 1 n = some (Go.bits .and .i64 n 1) := by simp [spec_WRCut.f, spec_WRCut.j0, spec_WRCut.j1]
  have hm := fun w => mk_1 k n (Go.bits .and .i64 n 1) S x y false w k0 k1 hk x0 x1 y0 y1 hN
  generalize Go.bits .and .i64 n 1 = N at hm hr
  rcases (by omega : N = 0 ∨ N = 1) with rfl | rfl
  · rcases hp with rfl | rfl | rfl
    · exact ⟨⟨1, 0, ⟨#[]⟩, 0, 0, false⟩, ⟨1, 0, ⟨#[]⟩, 0, 0, false⟩, _, hm, (for_plain _ _ _ _ _ _ _ (by first | exact .inl (by decide) | exact .inr ⟨by simp, by simp⟩)), .inl ⟨rfl, .inl .i1z⟩⟩
    · exact ⟨⟨1, 0, ⟨#[]⟩, 0, 0, false⟩, ⟨1, 0, ⟨#[]⟩, 0, 0, false⟩, _, hm, (for_plain _ _ _ _ _ _ _ (by first | exact .inl (by decide) | exact .inr ⟨by simp, by simp⟩)), .inr (.inl ⟨rfl, .inl .i1z⟩)⟩
    · exact ⟨⟨1, 0, ⟨#[]⟩, 0, 0, false⟩, ⟨1, 0, ⟨#[]⟩, 0, 0, false⟩, _, hm, (for_plain _ _ _ _ _ _ _ (by first | exact .inl (by decide) | exact .inr ⟨by simp, by simp⟩)), .inr (.inr ⟨rfl, .i1z⟩)⟩
  · rcases hp with rfl | rfl | rfl
    · exact ⟨⟨1, 1, ⟨#[]⟩, 0, 0, false⟩, ⟨1, 1, ⟨#[]⟩, 0, 0, false⟩, _, hm, (for_plain _ _ _ _ _ _ _ (by first | exact .inl (by decide) | exact .inr ⟨by simp, by simp⟩)), .inl ⟨rfl, .inl .i1o⟩⟩
    · exact ⟨⟨1, 1, ⟨#[]⟩, 0, 0, false⟩, ⟨1, 1, ⟨#[]⟩, 0, 0, false⟩, _, hm, (for_plain _ _ _ _ _ _ _ (by first | exact .inl (by decide) | exact .inr ⟨by simp, by simp⟩)), .inr (.inl ⟨rfl, .inl .i1o⟩)⟩
    · exact ⟨⟨1, 1, ⟨#[]⟩, 0, 0, false⟩, ⟨1, 1, ⟨#[]⟩, 0, 0, false⟩, _, hm, (for_plain _ _ _ _ _ _ _ (by first | exact .inl (by decide) | exact .inr ⟨by simp, by simp⟩)), .inr (.inr ⟨rfl, .i1o⟩)⟩
theorem good_2 (k n x y : Int) (S : ByteArray) (k0 : 0 ≤ k) (k1 : k ≤ 255) (n0 : -9223372036854775808 ≤ n) (n1 : n ≤ 9223372036854775807) (x0 : 0 ≤ x) (x1 : x ≤ 255) (y0 : 0 ≤ y) (y1 : y ≤ 255) (hS : S.size ≤ 2147483647) (hk : k % 14 = 1) (p : Int) (hp : p = 0 ∨ p = 1 ∨ p = 2) : ∃ c0 c1 zs, Mk k n S x y false c0 ∧ laws_wrFor.f 3 p c0.op c0.n c0.S c0.a c0.b c0.d = some (c1.op, c1.n, c1.S, c1.a, c1.b, c1.d) ∧ Good p c1 zs := by
  have hr := i8_range n
  have hN : spec_WRCut.f 3 2 n = some (wrap64 (IntKind.i8.wrap n)) := by simp [spec_WRCut.f, spec_WRCut.j0, spec_WRCut.j1]
  have hm := fun w => mk_2 k n (wrap64 (IntKind.i8.wrap n)) S x y false w k0 k1 hk x0 x1 y0 y1 hN
  generalize wrap64 (IntKind.i8.wrap n) = N at hm hr
  rcases hp with rfl | rfl | rfl
  · exact ⟨⟨2, N, ⟨#[]⟩, 0, 0, false⟩, ⟨2, N, ⟨#[]⟩, 0, 0, false⟩, _, hm, (for_plain _ _ _ _ _ _ _ (by first | exact .inl (by decide) | exact .inr ⟨by simp, by simp⟩)), .inl ⟨rfl, .inl (.i2 N (by omega) (by omega))⟩⟩
  · exact ⟨⟨2, N, ⟨#[]⟩, 0, 0, false⟩, ⟨2, N, ⟨#[]⟩, 0, 0, false⟩, _, hm, (for_plain _ _ _ _ _ _ _ (by first | exact .inl (by decide) | exact .inr ⟨by simp, by simp⟩)), .inr (.inl ⟨rfl, .inl (.i2 N (by omega) (by omega))⟩)⟩
  · exact ⟨⟨2, N, ⟨#[]⟩, 0, 0, false⟩, ⟨2, N, ⟨#[]⟩, 0, 0, false⟩, _, hm, (for_plain _ _ _ _ _ _ _ (by first | exact .inl (by decide) | exact .inr ⟨by simp, by simp⟩)), .inr (.inr ⟨rfl, .i2 N (by omega) (by omega)⟩)⟩
theorem good_3 (k n x y : Int) (S : ByteArray) (k0 : 0 ≤ k) (k1 : k ≤ 255) (n0 : -9223372036854775808 ≤ n) (n1 : n ≤ 9223372036854775807) (x0 : 0 ≤ x) (x1 : x ≤ 255) (y0 : 0 ≤ y) (y1 : y ≤ 255) (hS : S.size ≤ 2147483647) (hk : k % 14 = 2) (p : Int) (hp : p = 0 ∨ p = 1 ∨ p = 2) : ∃ c0 c1 zs, Mk k n S x y false c0 ∧ laws_wrFor.f 3 p c0.op c0.n c0.S c0.a c0.b c0.d = some (c1.op, c1.n, c1.S, c1.a, c1.b, c1.d) ∧ Good p c1 zs := by
  have hr := i16_range n
  have hN : spec_WRCut.f 3 3 n = some (wrap64 (IntKind.i16.wrap n)) := by simp [spec_WRCut.f, spec_WRCut.j0, spec_WRCut.j1]
  have hm := fun w => mk_3 k n (wrap64 (IntKind.i16.wrap n)) S x y false w k0 k1 hk x0 x1 y0 y1 hN
  generalize wrap64 (IntKind.i16.wrap n) = N at hm hr
  rcases hp with rfl | rfl | rfl
  · exact ⟨⟨3, N, ⟨#[]⟩, 0, 0, false⟩, ⟨3, N, ⟨#[]⟩, 0, 0, false⟩, _, hm, (for_plain _ _ _ _ _ _ _ (by first | exact .inl (by decide) | exact .inr ⟨by simp, by simp⟩)), .inl ⟨rfl, .inl (.i3 N (by omega) (by omega))⟩⟩
  · exact ⟨⟨3, N, ⟨#[]⟩, 0, 0, false⟩, ⟨3, N, ⟨#[]⟩, 0, 0, false⟩, _, hm, (for_plain _ _ _ _ _ _ _ (by first | exact .inl (by decide) | exact .inr ⟨by simp, by simp⟩)), .inr (.inl ⟨rfl, .inl (.i3 N (by omega) (by omega))⟩)⟩
  · obtain ⟨j, hj, hn⟩ := nb_some (zig N) (zig_range N (by omega) (by omega)).1 (zig_range N (by omega) (by omega)).2
    exact ⟨⟨3, N, ⟨#[]⟩, 0, 0, false⟩, ⟨3, N, ⟨#[]⟩, 0, 0, false⟩, _, hm, (for_plain _ _ _ _ _ _ _ (by first | exact .inl (by decide) | exact .inr ⟨by simp, by simp⟩)), .inr (.inr ⟨rfl, .i3 N (by omega) (by omega) j hj hn⟩)⟩
theorem good_4 (k n x y : Int) (S : ByteArray) (k0 : 0 ≤ k) (k1 : k ≤ 255) (n0 : -9223372036854775808 ≤ n) (n1 : n ≤ 9223372036854775807) (x0 : 0 ≤ x) (x1 : x ≤ 255) (y0 : 0 ≤ y) (y1 : y ≤ 255) (hS : S.size ≤ 2147483647) (hk : k % 14 = 3) (p : Int) (hp : p = 0 ∨ p = 1 ∨ p = 2) : ∃ c0 c1 zs, Mk k n S x y false c0 ∧ laws_wrFor.f 3 p c0.op c0.n c0.S c0.a c0.b c0.d = some (c1.op, c1.n, c1.S, c1.a, c1.b, c1.d) ∧ Good p c1 zs := by
  have hr := i32_range n
  have hN : spec_WRCut.f 3 4 n = some (wrap64 (wrap32 n)) := by simp [spec_WRCut.f, spec_WRCut.j0, spec_WRCut.j1]
  have hm := fun w => mk_4 k n (wrap64 (wrap32 n)) S x y false w k0 k1 hk x0 x1 y0 y1 hN
  generalize wrap64 (wrap32 n) = N at hm hr
  rcases hp with rfl | rfl | rfl
  · exact ⟨⟨4, N, ⟨#[]⟩, 0, 0, false⟩, ⟨4, N, ⟨#[]⟩, 0, 0, false⟩, _, hm, (for_plain _ _ _ _ _ _ _ (by first | exact .inl (by decide) | exact .inr ⟨by simp, by simp⟩)), .inl ⟨rfl, .inl (.i4 N (by omega) (by omega))⟩⟩
  · exact ⟨⟨4, N, ⟨#[]⟩, 0, 0, false⟩, ⟨4, N, ⟨#[]⟩, 0, 0, false⟩, _, hm, (for_plain _ _ _ _ _ _ _ (by first | exact .inl (by decide) | exact .inr ⟨by simp, by simp⟩)), .inr (.inl ⟨rfl, .inl (.i4 N (by omega) (by omega))⟩)⟩
  · obtain ⟨j, hj, hn⟩ := nb_some (zig N) (zig_range N (by omega) (by omega)).1 (zig_range N (by omega) (by omega)).2
    exact ⟨⟨4, N, ⟨#[]⟩, 0, 0, false⟩, ⟨4, N, ⟨#[]⟩, 0, 0, false⟩, _, hm, (for_plain _ _ _ _ _ _ _ (by first | exact .inl (by decide) | exact .inr ⟨by simp, by simp⟩)), .inr (.inr ⟨rfl, .i4 N (by omega) (by omega) j hj hn⟩)⟩
theorem good_5 (k n x y : Int) (S : ByteArray) (k0 : 0 ≤ k) (k1 : k ≤ 255) (n0 : -9223372036854775808 ≤ n) (n1 : n ≤ 9223372036854775807) (x0 : 0 ≤ x) (x1 : x ≤ 255) (y0 : 0 ≤ y) (y1 : y ≤ 255) (hS : S.size ≤ 2147483647) (hk : k % 14 = 4) (p : Int) (hp : p = 0 ∨ p = 1 ∨ p = 2) : ∃ c0 c1 zs, Mk k n S x y false c0 ∧ laws_wrFor.f 3 p c0.op c0.n c0.S c0.a c0.b c0.d = some (c1.op, c1.n, c1.S, c1.a, c1.b, c1.d) ∧ Good p c1 zs := by
  have hN : spec_WRCut.f 3 5 n = some (n) := by simp [spec_WRCut.f, spec_WRCut.j0, spec_WRCut.j1]
  have hm := fun w => mk_5 k n (n) S x y false w k0 k1 hk x0 x1 y0 y1 hN
  obtain ⟨N, rfl⟩ : ∃ N, N = n := ⟨_, rfl⟩
  rcases hp with rfl | rfl | rfl
  · exact ⟨⟨5, N, ⟨#[]⟩, 0, 0, false⟩, ⟨5, N, ⟨#[]⟩, 0, 0, false⟩, _, hm, (for_plain _ _ _ _ _ _ _ (by first | exact .inl (by decide) | exact .inr ⟨by simp, by simp⟩)), .inl ⟨rfl, .inl (.i5 N (by omega) (by omega))⟩⟩
  · exact ⟨⟨5, N, ⟨#[]⟩, 0, 0, false⟩, ⟨5, N, ⟨#[]⟩, 0, 0, false⟩, _, hm, (for_plain _ _ _ _ _ _ _ (by first | exact .inl (by decide) | exact .inr ⟨by simp, by simp⟩)), .inr (.inl ⟨rfl, .inl (.i5 N (by omega) (by omega))⟩)⟩
  · obtain ⟨j, hj, hn⟩ := nb_some (zig N) (zig_range N (by omega) (by omega)).1 (zig_range N (by omega) (by omega)).2
    exact ⟨⟨5, N, ⟨#[]⟩, 0, 0, false⟩, ⟨5, N, ⟨#[]⟩, 0, 0, false⟩, _, hm, (for_plain _ _ _ _ _ _ _ (by first | exact .inl (by decide) | exact .inr ⟨by simp, by simp⟩)), .inr (.inr ⟨rfl, .i5 N (by omega) (by omega) j hj hn⟩)⟩
theorem good_6 (k n x y : Int) (S : ByteArray) (k0 : 0 ≤ k) (k1 : k ≤ 255) (n0 : -9223372036854775808 ≤ n) (n1 : n ≤ 9223372036854775807) (x0 : 0 ≤ x) (x1 : x ≤ 255) (y0 : 0 ≤ y) (y1 : y ≤ 255) (hS : S.size ≤ 2147483647) (hk : k % 14 = 5) (p : Int) (hp : p = 0 ∨ p = 1 ∨ p = 2) : ∃ c0 c1 zs, Mk k n S x y false c0 ∧ laws_wrFor.f 3 p c0.op c0.n c0.S c0.a c0.b c0.d = some (c1.op, c1.n, c1.S, c1.a, c1.b, c1.d) ∧ Good p c1 zs := by
  have hN : spec_WRCut.f 3 6 n = some (n) := by simp [spec_WRCut.f, spec_WRCut.j0, spec_WRCut.j1]
  have hm := fun w => mk_6 k n (n) S x y false w k0 k1 hk x0 x1 y0 y1 hN
  obtain ⟨N, rfl⟩ : ∃ N, N = n := ⟨_, rfl⟩
  rcases hp with rfl | rfl | rfl
  · exact ⟨⟨6, N, ⟨#[]⟩, 0, 0, false⟩, ⟨6, N, ⟨#[]⟩, 0, 0, false⟩, _, hm, (for_plain _ _ _ _ _ _ _ (by first | exact .inl (by decide) | exact .inr ⟨by simp, by simp⟩)), .inl ⟨rfl, .inl (.i6 N (by omega) (by omega))⟩⟩
  · exact ⟨⟨6, N, ⟨#[]⟩, 0, 0, false⟩, ⟨6, N, ⟨#[]⟩, 0, 0, false⟩, _, hm, (for_plain _ _ _ _ _ _ _ (by first | exact .inl (by decide) | exact .inr ⟨by simp, by simp⟩)), .inr (.inl ⟨rfl, .inl (.i6 N (by omega) (by omega))⟩)⟩
  · exact ⟨⟨6, N, ⟨#[]⟩, 0, 0, false⟩, ⟨6, N, ⟨#[]⟩, 0, 0, false⟩, _, hm, (for_plain _ _ _ _ _ _ _ (by first | exact .inl (by decide) | exact .inr ⟨by simp, by simp⟩)), .inr (.inr ⟨rfl, .i6 N (by omega) (by omega)⟩)⟩
theorem good_7 (k n x y : Int) (S : ByteArray) (k0 : 0 ≤ k) (k1 : k ≤ 255) (n0 : -9223372036854775808 ≤ n) (n1 : n ≤ 9223372036854775807) (x0 : 0 ≤ x) (x1 : x ≤ 255) (y0 : 0 ≤ y) (y1 : y ≤ 255) (hS : S.size ≤ 2147483647) (hk : k % 14 = 6) (p : Int) (hp : p = 0 ∨ p = 1 ∨ p = 2) : ∃ c0 c1 zs, Mk k n S x y false c0 ∧ laws_wrFor.f 3 p c0.op c0.n c0.S c0.a c0.b c0.d = some (c1.op, c1.n, c1.S, c1.a, c1.b, c1.d) ∧ Good p c1 zs := by
  have hm := fun w => mk_7 k n S x y false w k0 k1 hk x0 x1 y0 y1
  rcases hp with rfl | rfl | rfl
  · exact ⟨⟨7, 0, S, 0, 0, false⟩, ⟨7, 0, S, 0, 0, false⟩, _, hm, (for_plain _ _ _ _ _ _ _ (by first | exact .inl (by decide) | exact .inr ⟨by simp, by simp⟩)), .inl ⟨rfl, .inl (.i7 S (by omega))⟩⟩
  · exact ⟨⟨7, 0, S, 0, 0, false⟩, ⟨7, 0, S, 0, 0, false⟩, _, hm, (for_plain _ _ _ _ _ _ _ (by first | exact .inl (by decide) | exact .inr ⟨by simp, by simp⟩)), .inr (.inl ⟨rfl, .inl (.i7 S (by omega))⟩)⟩
  · obtain ⟨j0, hj0, hn0⟩ := nb_some (S.size : Int) (by omega) (by omega)
    exact ⟨⟨7, 0, S, 0, 0, false⟩, ⟨7, 0, S, 0, 0, false⟩, _, hm, (for_plain _ _ _ _ _ _ _ (by first | exact .inl (by decide) | exact .inr ⟨by simp, by simp⟩)), .inr (.inr ⟨rfl, .i7 S (by omega) j0 hj0 hn0⟩)⟩
theorem good_8 (k n x y : Int) (S : ByteArray) (k0 : 0 ≤ k) (k1 : k ≤ 255) (n0 : -9223372036854775808 ≤ n) (n1 : n ≤ 9223372036854775807) (x0 : 0 ≤ x) (x1 : x ≤ 255) (y0 : 0 ≤ y) (y1 : y ≤ 255) (hS : S.size ≤ 2147483647) (hk : k % 14 = 7) (p : Int) (hp : p = 0 ∨ p = 1 ∨ p = 2) : ∃ c0 c1 zs, Mk k n S x y false c0 ∧ laws_wrFor.f 3 p c0.op c0.n c0.S c0.a c0.b c0.d = some (c1.op, c1.n, c1.S, c1.a, c1.b, c1.d) ∧ Good p c1 zs := by
  have hm := fun w => mk_8 k n S x y false w k0 k1 hk x0 x1 y0 y1
  rcases hp with rfl | rfl | rfl
  · exact ⟨⟨8, 0, S, 0, 0, false⟩, ⟨8, 0, S, 0, 0, false⟩, _, hm, (for_plain _ _ _ _ _ _ _ (by first | exact .inl (by decide) | exact .inr ⟨by simp, by simp⟩)), .inl ⟨rfl, .inl (.i8 S (by omega))⟩⟩
  · exact ⟨⟨8, 0, S, 0, 0, false⟩, ⟨8, 0, S, 0, 0, false⟩, _, hm, (for_plain _ _ _ _ _ _ _ (by first | exact .inl (by decide) | exact .inr ⟨by simp, by simp⟩)), .inr (.inl ⟨rfl, .inl (.i8 S (by omega))⟩)⟩
  · obtain ⟨j0, hj0, hn0⟩ := nb_some (S.size : Int) (by omega) (by omega)
    exact ⟨⟨8, 0, S, 0, 0, false⟩, ⟨8, 0, S, 0, 0, false⟩, _, hm, (for_plain _ _ _ _ _ _ _ (by first | exact .inl (by decide) | exact .inr ⟨by simp, by simp⟩)), .inr (.inr ⟨rfl, .i8 S (by omega) j0 hj0 hn0⟩)⟩
theorem good_9 (k n x y : Int) (S : ByteArray) (k0 : 0 ≤ k) (k1 : k ≤ 255) (n0 : -9223372036854775808 ≤ n) (n1 : n ≤ 9223372036854775807) (x0 : 0 ≤ x) (x1 : x ≤ 255) (y0 : 0 ≤ y) (y1 : y ≤ 255) (hS : S.size ≤ 2147483647) (hk : k % 14 = 8) (p : Int) (hp : p = 0 ∨ p = 1 ∨ p = 2) : ∃ c0 c1 zs, Mk k n S x y false c0 ∧ laws_wrFor.f 3 p c0.op c0.n c0.S c0.a c0.b c0.d = some (c1.op, c1.n, c1.S, c1.a, c1.b, c1.d) ∧ Good p c1 zs := by
  have hr := and_mask n 1048575 (by omega)
  have hN : spec_WRCut.f 3 9 n = some (Go.bits .and .i64 n 1048575) := by simp [spec_WRCut.f, spec_WRCut.j0, spec_WRCut.j1]
  have hm := fun w => mk_9 k n (Go.bits .and .i64 n 1048575) S x y false w k0 k1 hk x0 x1 y0 y1 hN
  generalize Go.bits .and .i64 n 1048575 = N at hm hr
  rcases hp with rfl | rfl | rfl
  · exact ⟨⟨9, N, ⟨#[]⟩, 0, 0, false⟩, ⟨9, N, ⟨#[]⟩, 0, 0, false⟩, _, hm, (for_plain _ _ _ _ _ _ _ (by first | exact .inl (by decide) | exact .inr ⟨by simp, by simp⟩)), .inl ⟨rfl, .inl (.i9 N (by omega) (by omega))⟩⟩
  · exact ⟨⟨9, N, ⟨#[]⟩, 0, 0, false⟩, ⟨9, N, ⟨#[]⟩, 0, 0, false⟩, _, hm, (for_plain _ _ _ _ _ _ _ (by first | exact .inl (by decide) | exact .inr ⟨by simp, by simp⟩)), .inr (.inl ⟨rfl, .inl (.i9 N (by omega) (by omega))⟩)⟩
  · obtain ⟨j, hj, hn⟩ := nb_some N (by omega) (by omega)
    exact ⟨⟨9, N, ⟨#[]⟩, 0, 0, false⟩, ⟨9, N, ⟨#[]⟩, 0, 0, false⟩, _, hm, (for_plain _ _ _ _ _ _ _ (by first | exact .inl (by decide) | exact .inr ⟨by simp, by simp⟩)), .inr (.inr ⟨rfl, .i9 N (by omega) (by omega) j hj hn⟩)⟩
theorem good_10 (k n x y : Int) (S : ByteArray) (k0 : 0 ≤ k) (k1 : k ≤ 255) (n0 : -9223372036854775808 ≤ n) (n1 : n ≤ 9223372036854775807) (x0 : 0 ≤ x) (x1 : x ≤ 255) (y0 : 0 ≤ y) (y1 : y ≤ 255) (hS : S.size ≤ 2147483647) (hk : k % 14 = 9) (p : Int) (hp : p = 0 ∨ p = 1 ∨ p = 2) : ∃ c0 c1 zs, Mk k n S x y false c0 ∧ laws_wrFor.f 3 p c0.op c0.n c0.S c0.a c0.b c0.d = some (c1.op, c1.n, c1.S, c1.a, c1.b, c1.d) ∧ Good p c1 zs := by
  have hr := i32_range n
  have hN : spec_WRCut.f 3 10 n = some (wrap64 (wrap32 n)) := by simp [spec_WRCut.f, spec_WRCut.j0, spec_WRCut.j1]
  have hm := fun w => mk_10 k n (wrap64 (wrap32 n)) S x y false w k0 k1 hk x0 x1 y0 y1 hN
  generalize wrap64 (wrap32 n) = N at hm hr
  rcases hp with rfl | rfl | rfl
  · exact ⟨⟨10, N, S, (x % 4), 0, false⟩, ⟨10, N, S, (x % 4), 0, false⟩, _, hm, (for_plain _ _ _ _ _ _ _ (by first | exact .inl (by decide) | exact .inr ⟨by simp, by simp⟩)), .inl ⟨rfl, .inr (.i10 N _ S (by omega) (by omega) (by omega) (by omega) (by omega))⟩⟩
  · exact ⟨⟨10, N, S, (x % 4), 0, false⟩, ⟨10, N, S, (x % 4), 0, false⟩, _, hm, (for_plain _ _ _ _ _ _ _ (by first | exact .inl (by decide) | exact .inr ⟨by simp, by simp⟩)), .inr (.inl ⟨rfl, .inr (.i10 N _ S (by omega) (by omega) (by omega) (by omega) (by omega))⟩)⟩
  · obtain ⟨m, hf, m0, m1⟩ := for_message N S (x % 4) 0 false (by omega) (by omega)
    obtain ⟨j, hj, hn⟩ := nb_some m m0 (by omega)
    obtain ⟨j0, hj0, hn0⟩ := nb_some (S.size : Int) (by omega) (by omega)
    exact ⟨⟨10, N, S, (x % 4), 0, false⟩, ⟨10, m, S, x % 4, 0, false⟩, _, hm, hf, .inr (.inr ⟨rfl, .i10 m _ S m0 m1 (by omega) (by omega) (by omega) j hj hn j0 hj0 hn0⟩)⟩
theorem good_11 (k n x y : Int) (S : ByteArray) (k0 : 0 ≤ k) (k1 : k ≤ 255) (n0 : -9223372036854775808 ≤ n) (n1 : n ≤ 9223372036854775807) (x0 : 0 ≤ x) (x1 : x ≤ 255) (y0 : 0 ≤ y) (y1 : y ≤ 255) (hS : S.size ≤ 2147483647) (hk : k % 14 = 10) (p : Int) (hp : p = 0 ∨ p = 1 ∨ p = 2) : ∃ c0 c1 zs, Mk k n S x y false c0 ∧ laws_wrFor.f 3 p c0.op c0.n c0.S c0.a c0.b c0.d = some (c1.op, c1.n, c1.S, c1.a, c1.b, c1.d) ∧ Good p c1 zs := by
  have hr := i16_range n
  have hN : spec_WRCut.f 3 11 n = some (wrap64 (IntKind.i16.wrap n)) := by simp [spec_WRCut.f, spec_WRCut.j0, spec_WRCut.j1]
  have hm := fun w => mk_11 k n (wrap64 (IntKind.i16.wrap n)) S x y false w k0 k1 hk x0 x1 y0 y1 hN
  generalize wrap64 (IntKind.i16.wrap n) = N at hm hr
  rcases hp with rfl | rfl | rfl
  · exact ⟨⟨11, N, ⟨#[]⟩, (2 + x % 11), 0, false⟩, ⟨11, N, ⟨#[]⟩, (2 + x % 11), 0, false⟩, _, hm, (for_plain _ _ _ _ _ _ _ (by first | exact .inl (by decide) | exact .inr ⟨by simp, by simp⟩)), .inl ⟨rfl, .inl (.i11 N _ (by omega) (by omega) (by omega) (by omega))⟩⟩
  · exact ⟨⟨11, N, ⟨#[]⟩, (2 + x % 11), 0, false⟩, ⟨11, N, ⟨#[]⟩, (2 + x % 11), 0, false⟩, _, hm, (for_plain _ _ _ _ _ _ _ (by first | exact .inl (by decide) | exact .inr ⟨by simp, by simp⟩)), .inr (.inl ⟨rfl, .inl (.i11 N _ (by omega) (by omega) (by omega) (by omega))⟩)⟩
  · obtain ⟨m, hf, m0, m1⟩ := for_field N ⟨#[]⟩ (2 + x % 11) 0 false (by omega) (by omega)
    rcases Int.lt_or_le m 16 with h | h
    · exact ⟨⟨11, N, ⟨#[]⟩, (2 + x % 11), 0, false⟩, ⟨11, m, ⟨#[]⟩, 2 + x % 11, 0, false⟩, _, hm, hf, .inr (.inr ⟨rfl, .i11s m _ m0 h (by omega) (by omega)⟩)⟩
    · obtain ⟨j, hj, hn⟩ := nb_some (zig m) (zig_range m (by omega) (by omega)).1 (zig_range m (by omega) (by omega)).2
      exact ⟨⟨11, N, ⟨#[]⟩, (2 + x % 11), 0, false⟩, ⟨11, m, ⟨#[]⟩, 2 + x % 11, 0, false⟩, _, hm, hf, .inr (.inr ⟨rfl, .i11l m _ h m1 (by omega) (by omega) j hj hn⟩)⟩
theorem good_12 (k n x y : Int) (S : ByteArray) (k0 : 0 ≤ k) (k1 : k ≤ 255) (n0 : -9223372036854775808 ≤ n) (n1 : n ≤ 9223372036854775807) (x0 : 0 ≤ x) (x1 : x ≤ 255) (y0 : 0 ≤ y) (y1 : y ≤ 255) (hS : S.size ≤ 2147483647) (hk : k % 14 = 11) (p : Int) (hp : p = 0 ∨ p = 1 ∨ p = 2) : ∃ c0 c1 zs, Mk k n S x y false c0 ∧ laws_wrFor.f 3 p c0.op c0.n c0.S c0.a c0.b c0.d = some (c1.op, c1.n, c1.S, c1.a, c1.b, c1.d) ∧ Good p c1 zs := by
  have hr := and_mask n 1048575 (by omega)
  have hN : spec_WRCut.f 3 12 n = some (Go.bits .and .i64 n 1048575) := by simp [spec_WRCut.f, spec_WRCut.j0, spec_WRCut.j1]
  have hm := fun w => mk_12 k n (Go.bits .and .i64 n 1048575) S x y false w k0 k1 hk x0 x1 y0 y1 hN
  generalize Go.bits .and .i64 n 1048575 = N at hm hr
  rcases hp with rfl | rfl | rfl
  · exact ⟨⟨12, N, ⟨#[]⟩, (2 + x % 11), 0, false⟩, ⟨12, N, ⟨#[]⟩, (2 + x % 11), 0, false⟩, _, hm, (for_plain _ _ _ _ _ _ _ (by first | exact .inl (by decide) | exact .inr ⟨by simp, by simp⟩)), .inl ⟨rfl, .inl (.i12 N _ (by omega) (by omega) (by omega) (by omega))⟩⟩
  · exact ⟨⟨12, N, ⟨#[]⟩, (2 + x % 11), 0, false⟩, ⟨12, N, ⟨#[]⟩, (2 + x % 11), 0, false⟩, _, hm, (for_plain _ _ _ _ _ _ _ (by first | exact .inl (by decide) | exact .inr ⟨by simp, by simp⟩)), .inr (.inl ⟨rfl, .inl (.i12 N _ (by omega) (by omega) (by omega) (by omega))⟩)⟩
  · rcases Int.lt_or_le N 15 with h | h
    · exact ⟨⟨12, N, ⟨#[]⟩, (2 + x % 11), 0, false⟩, ⟨12, N, ⟨#[]⟩, (2 + x % 11), 0, false⟩, _, hm, (for_plain _ _ _ _ _ _ _ (by first | exact .inl (by decide) | exact .inr ⟨by simp, by simp⟩)), .inr (.inr ⟨rfl, .i12s N _ (by omega) h (by omega) (by omega)⟩)⟩
    · obtain ⟨j, hj, hn⟩ := nb_some N (by omega) (by omega)
      exact ⟨⟨12, N, ⟨#[]⟩, (2 + x % 11), 0, false⟩, ⟨12, N, ⟨#[]⟩, (2 + x % 11), 0, false⟩, _, hm, (for_plain _ _ _ _ _ _ _ (by first | exact .inl (by decide) | exact .inr ⟨by simp, by simp⟩)), .inr (.inr ⟨rfl, .i12l N _ h (by omega) (by omega) (by omega) j hj hn⟩)⟩
theorem good_13 (k n x y : Int) (S : ByteArray) (k0 : 0 ≤ k) (k1 : k ≤ 255) (n0 : -9223372036854775808 ≤ n) (n1 : n ≤ 9223372036854775807) (x0 : 0 ≤ x) (x1 : x ≤ 255) (y0 : 0 ≤ y) (y1 : y ≤ 255) (hS : S.size ≤ 2147483647) (hk : k % 14 = 12) (p : Int) (hp : p = 0 ∨ p = 1 ∨ p = 2) : ∃ c0 c1 zs, Mk k n S x y false c0 ∧ laws_wrFor.f 3 p c0.op c0.n c0.S c0.a c0.b c0.d = some (c1.op, c1.n, c1.S, c1.a, c1.b, c1.d) ∧ Good p c1 zs := by
  have hr := and_mask n 1048575 (by omega)
  have hN : spec_WRCut.f 3 13 n = some (Go.bits .and .i64 n 1048575) := by simp [spec_WRCut.f, spec_WRCut.j0, spec_WRCut.j1]
  have hm := fun w => mk_13 k n (Go.bits .and .i64 n 1048575) S x y false w k0 k1 hk x0 x1 y0 y1 hN
  generalize Go.bits .and .i64 n 1048575 = N at hm hr
  rcases hp with rfl | rfl | rfl
  · exact ⟨⟨13, N, ⟨#[]⟩, (2 + x % 11), 0, false⟩, ⟨13, N, ⟨#[]⟩, (2 + x % 11), 0, false⟩, _, hm, (for_plain _ _ _ _ _ _ _ (by first | exact .inl (by decide) | exact .inr ⟨by simp, by simp⟩)), .inl ⟨rfl, .inl (.i13 N _ (by omega) (by omega) (by omega) (by omega))⟩⟩
  · exact ⟨⟨13, N, ⟨#[]⟩, (2 + x % 11), 0, false⟩, ⟨13, N, ⟨#[]⟩, (2 + x % 11), 0, false⟩, _, hm, (for_plain _ _ _ _ _ _ _ (by first | exact .inl (by decide) | exact .inr ⟨by simp, by simp⟩)), .inr (.inl ⟨rfl, .inl (.i13 N _ (by omega) (by omega) (by omega) (by omega))⟩)⟩
  · rcases Int.lt_or_le N 15 with h | h
    · exact ⟨⟨13, N, ⟨#[]⟩, (2 + x % 11), 0, false⟩, ⟨13, N, ⟨#[]⟩, (2 + x % 11), 0, false⟩, _, hm, (for_plain _ _ _ _ _ _ _ (by first | exact .inl (by decide) | exact .inr ⟨by simp, by simp⟩)), .inr (.inr ⟨rfl, .i13s N _ (by omega) h (by omega) (by omega)⟩)⟩
    · obtain ⟨j, hj, hn⟩ := nb_some N (by omega) (by omega)
      exact ⟨⟨13, N, ⟨#[]⟩, (2 + x % 11), 0, false⟩, ⟨13, N, ⟨#[]⟩, (2 + x % 11), 0, false⟩, _, hm, (for_plain _ _ _ _ _ _ _ (by first | exact .inl (by decide) | exact .inr ⟨by simp, by simp⟩)), .inr (.inr ⟨rfl, .i13l N _ h (by omega) (by omega) (by omega) j hj hn⟩)⟩
theorem good_14 (k n x y : Int) (S : ByteArray) (k0 : 0 ≤ k) (k1 : k ≤ 255) (n0 : -9223372036854775808 ≤ n) (n1 : n ≤ 9223372036854775807) (x0 : 0 ≤ x) (x1 : x ≤ 255) (y0 : 0 ≤ y) (y1 : y ≤ 255) (hS : S.size ≤ 2147483647) (hk : k % 14 = 13) (p : Int) (hp : p = 0 ∨ p = 1 ∨ p = 2) : ∃ c0 c1 zs, Mk k n S x y false c0 ∧ laws_wrFor.f 3 p c0.op c0.n c0.S c0.a c0.b c0.d = some (c1.op, c1.n, c1.S, c1.a, c1.b, c1.d) ∧ Good p c1 zs := by
  have hr := and_mask n 1048575 (by omega)
  have hN : spec_WRCut.f 3 14 n = some (Go.bits .and .i64 n 1048575) := by simp [spec_WRCut.f, spec_WRCut.j0, spec_WRCut.j1]
  have hm := fun w => mk_14 k n (Go.bits .and .i64 n 1048575) S x y false w k0 k1 hk x0 x1 y0 y1 hN
  generalize Go.bits .and .i64 n 1048575 = N at hm hr
  rcases hp with rfl | rfl | rfl
  · exact ⟨⟨14, N, ⟨#[]⟩, (2 + x % 11), (2 + y % 11), false⟩, ⟨14, N, ⟨#[]⟩, (2 + x % 11), (2 + y % 11), false⟩, _, hm, (for_plain _ _ _ _ _ _ _ (by first | exact .inl (by decide) | exact .inr ⟨by simp, by simp⟩)), .inl ⟨rfl, .inl (.i14 N _ _ (by omega) (by omega) (by omega) (by omega) (by omega) (by omega))⟩⟩
  · exact ⟨⟨14, N, ⟨#[]⟩, (2 + x % 11), (2 + y % 11), false⟩, ⟨14, N, ⟨#[]⟩, (2 + x % 11), (2 + y % 11), false⟩, _, hm, (for_plain _ _ _ _ _ _ _ (by first | exact .inl (by decide) | exact .inr ⟨by simp, by simp⟩)), .inr (.inl ⟨rfl, .inl (.i14 N _ _ (by omega) (by omega) (by omega) (by omega) (by omega) (by omega))⟩)⟩
  · rcases (by omega : N = 0 ∨ 0 < N) with rfl | h
    · exact ⟨⟨14, 0, ⟨#[]⟩, (2 + x % 11), (2 + y % 11), false⟩, ⟨14, 0, ⟨#[]⟩, (2 + x % 11), (2 + y % 11), false⟩, _, hm, (for_plain _ _ _ _ _ _ _ (by first | exact .inl (by decide) | exact .inr ⟨by simp, by simp⟩)), .inr (.inr ⟨rfl, .i14z _ _ (by omega) (by omega) (by omega) (by omega)⟩)⟩
    · obtain ⟨j, hj, hn⟩ := nb_some N (by omega) (by omega)
      exact ⟨⟨14, N, ⟨#[]⟩, (2 + x % 11), (2 + y % 11), false⟩, ⟨14, N, ⟨#[]⟩, (2 + x % 11), (2 + y % 11), false⟩, _, hm, (for_plain _ _ _ _ _ _ _ (by first | exact .inl (by decide) | exact .inr ⟨by simp, by simp⟩)), .inr (.inr ⟨rfl, .i14l N _ _ h (by omega) (by omega) (by omega) (by omega) (by omega) j hj hn⟩)⟩
theorem good_all (k n x y : Int) (S : ByteArray) (k0 : 0 ≤ k) (k1 : k ≤ 255) (n0 : -9223372036854775808 ≤ n) (n1 : n ≤ 9223372036854775807) (x0 : 0 ≤ x) (x1 : x ≤ 255) (y0 : 0 ≤ y) (y1 : y ≤ 255) (hS : S.size ≤ 2147483647) (p : Int) (hp : p = 0 ∨ p = 1 ∨ p = 2) : ∃ c0 c1 zs, Mk k n S x y false c0 ∧ laws_wrFor.f 3 p c0.op c0.n c0.S c0.a c0.b c0.d = some (c1.op, c1.n, c1.S, c1.a, c1.b, c1.d) ∧ Good p c1 zs := by
  rcases (by omega : k % 14 = 0 ∨ k % 14 = 1 ∨ k % 14 = 2 ∨ k % 14 = 3 ∨ k % 14 = 4 ∨ k % 14 = 5 ∨ k % 14 = 6 ∨ k % 14 = 7 ∨ k % 14 = 8 ∨ k % 14 = 9 ∨ k % 14 = 10 ∨ k % 14 = 11 ∨ k % 14 = 12 ∨ k % 14 = 13) with h | h | h | h | h | h | h | h | h | h | h | h | h | h
  · exact good_1 k n x y S k0 k1 n0 n1 x0 x1 y0 y1 hS h p hp
  · exact good_2 k n x y S k0 k1 n0 n1 x0 x1 y0 y1 hS h p hp
  · exact good_3 k n x y S k0 k1 n0 n1 x0 x1 y0 y1 hS h p hp
  · exact good_4 k n x y S k0 k1 n0 n1 x0 x1 y0 y1 hS h p hp
  · exact good_5 k n x y S k0 k1 n0 n1 x0 x1 y0 y1 hS h p hp
  · exact good_6 k n x y S k0 k1 n0 n1 x0 x1 y0 y1 hS h p hp
  · exact good_7 k n x y S k0 k1 n0 n1 x0 x1 y0 y1 hS h p hp
  · exact good_8 k n x y S k0 k1 n0 n1 x0 x1 y0 y1 hS h p hp
  · exact good_9 k n x y S k0 k1 n0 n1 x0 x1 y0 y1 hS h p hp
  · exact good_10 k n x y S k0 k1 n0 n1 x0 x1 y0 y1 hS h p hp
  · exact good_11 k n x y S k0 k1 n0 n1 x0 x1 y0 y1 hS h p hp
  · exact good_12 k n x y S k0 k1 n0 n1 x0 x1 y0 y1 hS h p hp
  · exact good_13 k n x y S k0 k1 n0 n1 x0 x1 y0 y1 hS h p hp
  · exact good_14 k n x y S k0 k1 n0 n1 x0 x1 y0 y1 hS h p hp
end Go.Proofs.Ytmjilokgpgajjaa.Th
