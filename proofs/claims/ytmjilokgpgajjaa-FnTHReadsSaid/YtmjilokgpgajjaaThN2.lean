/- Merged by merge.py (wip/tpl) out of ThRf, ThRg0: Written by thrdcall.py (wip/tpl): what the readers read of the bytes of each call Written by thrdcall.py (wip/tpl): a call of a reader through its interface: what is read -/
import Derived.Test.YtmjilokgpgajjaaThRc5
import Derived.RegionTactic
import Derived.BigRegion
namespace Go.Proofs.Ytmjilokgpgajjaa.Th
open Go.RowKit Go.Proofs.YtmjilokgpgajjaaW.PrintWords Go.Proofs.YtmjilokgpgajjaaW.PrintLast Go.Proofs.YtmjilokgpgajjaaW.PrintMore
set_option linter.unusedVariables false
set_option linter.unusedSimpArgs false
theorem w8 (a : Int) (a0 : 0 ≤ a) (a1 : a < 128) : IntKind.i8.wrap (IntKind.u8.wrap a) = a := by
  have e : ∀ x : Int, IntKind.i8.wrap x = (x + 128) % 256 - 128 := fun x => by simp [IntKind.wrap, IntKind.signed, IntKind.bits, IntKind.min, IntKind.max]; omega
  rw [e]; simp only [IntKind.wrap_u8]; omega
theorem w8n (n : Int) (a0 : -128 ≤ n) (a1 : n < 128) : IntKind.i8.wrap (n % 256) = n := by
  have e : ∀ x : Int, IntKind.i8.wrap x = (x + 128) % 256 - 128 := fun x => by simp [IntKind.wrap, IntKind.signed, IntKind.bits, IntKind.min, IntKind.max]; omega
  rw [e]; omega
theorem w8u (a : Int) (a0 : 0 ≤ a) (a1 : a < 256) : IntKind.u8.wrap a = a := by simp only [IntKind.wrap_u8]; omega
theorem t_new (a : Int) (a0 : 0 ≤ a) (a1 : a < 4) : IntKind.i8.wrap (Go.bits .and .u8 (IntKind.u8.wrap a) 7) = a := by
  rcases (by omega : a = 0 ∨ a = 1 ∨ a = 2 ∨ a = 3) with rfl | rfl | rfl | rfl <;> decide
theorem t_old (a : Int) (a0 : 0 ≤ a) (a1 : a < 4) : Go.bits .and .i8 (IntKind.i8.wrap (IntKind.u8.wrap a)) 7 = a := by
  rcases (by omega : a = 0 ∨ a = 1 ∨ a = 2 ∨ a = 3) with rfl | rfl | rfl | rfl <;> decide
/-- Two halves of a byte. -/
theorem halves (n a : Int) (n0 : 0 ≤ n) (n1 : n < 16) (a0 : 0 ≤ a) (a1 : a < 16) : ∃ z, Go.bits .or .u8 (IntKind.u8.wrap (IntKind.u8.wrap n * 16)) (IntKind.u8.wrap a) = z ∧ 0 ≤ z ∧ z < 256 ∧ z / 16 = n ∧ Go.bits .and .u8 z 15 = a := by
  have h : ∀ x y : Fin 16, 0 ≤ Go.bits .or .u8 (IntKind.u8.wrap (IntKind.u8.wrap ((x.val : Nat) : Int) * 16)) (IntKind.u8.wrap ((y.val : Nat) : Int)) ∧ Go.bits .or .u8 (IntKind.u8.wrap (IntKind.u8.wrap ((x.val : Nat) : Int) * 16)) (IntKind.u8.wrap ((y.val : Nat) : Int)) < 256 ∧ Go.bits .or .u8 (IntKind.u8.wrap (IntKind.u8.wrap ((x.val : Nat) : Int) * 16)) (IntKind.u8.wrap ((y.val : Nat) : Int)) / 16 = ((x.val : Nat) : Int) ∧ Go.bits .and .u8 (Go.bits .or .u8 (IntKind.u8.wrap (IntKind.u8.wrap ((x.val : Nat) : Int) * 16)) (IntKind.u8.wrap ((y.val : Nat) : Int))) 15 = ((y.val : Nat) : Int) := by decide +kernel
  have h1 := h ⟨n.toNat, by omega⟩ ⟨a.toNat, by omega⟩
  simp only [Int.toNat_of_nonneg n0, Int.toNat_of_nonneg a0] at h1
  exact ⟨_, rfl, h1⟩
theorem halves15 (a : Int) (a0 : 0 ≤ a) (a1 : a < 16) : ∃ z, Go.bits .or .u8 240 (IntKind.u8.wrap a) = z ∧ 0 ≤ z ∧ z < 256 ∧ z / 16 = 15 ∧ Go.bits .and .u8 z 15 = a := by
  have h : ∀ y : Fin 16, 0 ≤ Go.bits .or .u8 240 (IntKind.u8.wrap ((y.val : Nat) : Int)) ∧ Go.bits .or .u8 240 (IntKind.u8.wrap ((y.val : Nat) : Int)) < 256 ∧ Go.bits .or .u8 240 (IntKind.u8.wrap ((y.val : Nat) : Int)) / 16 = 15 ∧ Go.bits .and .u8 (Go.bits .or .u8 240 (IntKind.u8.wrap ((y.val : Nat) : Int))) 15 = ((y.val : Nat) : Int) := by decide +kernel
  have h1 := h ⟨a.toNat, by omega⟩
  simp only [Int.toNat_of_nonneg a0] at h1
  exact ⟨_, rfl, h1⟩
theorem f_int8 (w : World) (base Rb Rd T off SZ : Nat) (A : Option Addr) (D : List Int) (C i : Nat) (hs : Sr w base Rb Rd T off SZ A D C i) (n : Int) (h0 : -128 ≤ n) (h1 : n < 128) (hz : At D i (hib 1 n)) :
    Calls Try.prog 61 #[.pointer (some ⟨Rd, off, none⟩)] w fun e w' => e = .returned (.tuple #[.int .i8 n, .nilIface]) ∧ Done w w' base Rb Rd T off SZ A D C (i + 1) := by
  have h := r_int8 w base Rb Rd T off SZ A D C i hs (n % 256) (by have e : hib 1 n = [n % 256] := by { simp [hib] }; rw [e] at hz; exact hz)
  rw [w8n n h0 h1] at h
  exact h
theorem f_field (w : World) (base Rb Rd T off SZ : Nat) (A : Option Addr) (D : List Int) (C i : Nat) (hs : Sr w base Rb Rd T off SZ A D C i) (n a : Int) (h0 : -32768 ≤ n) (h1 : n < 32768) (a0 : 0 ≤ a) (a1 : a < 13) (hz : At D i ([IntKind.u8.wrap a] ++ hib 2 n)) :
    Calls Try.prog 56 #[.pointer (some ⟨Rd, off, none⟩)] w fun e w' => e = .returned (.tuple #[.agg #[.int .i16 n, .int .i8 a, .bool false], .nilIface]) ∧ Done w w' base Rb Rd T off SZ A D C (i + 1 + 2) := by
  have h := r_field w base Rb Rd T off SZ A D C i hs _ n h0 h1 hz
  rw [w8 a (by omega) (by omega)] at h
  exact h
theorem f_list (w : World) (base Rb Rd T off SZ : Nat) (A : Option Addr) (D : List Int) (C i : Nat) (hs : Sr w base Rb Rd T off SZ A D C i) (n a : Int) (h0 : 0 ≤ n) (h1 : n < 1048576) (a0 : 2 ≤ a) (a1 : a < 13) (hz : At D i ([IntKind.u8.wrap a] ++ hib 4 n)) :
    Calls Try.prog 63 #[.pointer (some ⟨Rd, off, none⟩)] w fun e w' => e = .returned (.tuple #[.agg #[.int .i32 n, .int .i8 a], .nilIface]) ∧ Done w w' base Rb Rd T off SZ A D C (i + 1 + 4) := by
  have h := r_list w base Rb Rd T off SZ A D C i hs _ n (by omega) (by omega) hz
  rw [w8 a (by omega) (by omega)] at h
  exact h
theorem f_set (w : World) (base Rb Rd T off SZ : Nat) (A : Option Addr) (D : List Int) (C i : Nat) (hs : Sr w base Rb Rd T off SZ A D C i) (n a : Int) (h0 : 0 ≤ n) (h1 : n < 1048576) (a0 : 2 ≤ a) (a1 : a < 13) (hz : At D i ([IntKind.u8.wrap a] ++ hib 4 n)) :
    Calls Try.prog 66 #[.pointer (some ⟨Rd, off, none⟩)] w fun e w' => e = .returned (.tuple #[.agg #[.int .i32 n, .int .i8 a], .nilIface]) ∧ Done w w' base Rb Rd T off SZ A D C (i + 1 + 4) := by
  have h := r_set w base Rb Rd T off SZ A D C i hs _ n (by omega) (by omega) hz
  rw [w8 a (by omega) (by omega)] at h
  exact h
theorem f_map (w : World) (base Rb Rd T off SZ : Nat) (A : Option Addr) (D : List Int) (C i : Nat) (hs : Sr w base Rb Rd T off SZ A D C i) (n a b : Int) (h0 : 0 ≤ n) (h1 : n < 1048576) (a0 : 2 ≤ a) (a1 : a < 13) (b0 : 2 ≤ b) (b1 : b < 13) (hz : At D i ([IntKind.u8.wrap a, IntKind.u8.wrap b] ++ hib 4 n)) :
    Calls Try.prog 64 #[.pointer (some ⟨Rd, off, none⟩)] w fun e w' => e = .returned (.tuple #[.agg #[.int .i32 n, .int .i8 a, .int .i8 b], .nilIface]) ∧ Done w w' base Rb Rd T off SZ A D C (i + 1 + 1 + 4) := by
  have h := r_map w base Rb Rd T off SZ A D C i hs _ _ n (by omega) (by omega) hz
  rw [w8 a (by omega) (by omega), w8 b (by omega) (by omega)] at h
  exact h
theorem f_new (w : World) (base Rb Rd T off SZ : Nat) (A : Option Addr) (D : List Int) (C i : Nat) (hs : Sr w base Rb Rd T off SZ A D C i) (n a : Int) (S : ByteArray) (h0 : -2147483648 ≤ n) (h1 : n < 2147483648) (a0 : 0 ≤ a) (a1 : a < 4) (hS : S.size < 2147483648) (hz : At D i (([128, 0, 0, IntKind.u8.wrap a] ++ (hib 4 (S.size : Int) ++ bytesOf S)) ++ hib 4 n)) :
    Calls Try.prog 65 #[.pointer (some ⟨Rd, off, none⟩)] w fun e w' => e = .returned (.tuple #[.agg #[.int .i8 a, .string S, .int .i32 n], .nilIface]) ∧ Done w w' base Rb Rd T off SZ A D C (i + 4 + 4 + S.size + 4) := by
  have h := r_msg_new w base Rb Rd T off SZ A D C i hs _ n S h0 h1 hS hz
  rw [t_new a a0 a1] at h
  exact h
theorem f_old (w : World) (base Rb Rd T off SZ : Nat) (A : Option Addr) (D : List Int) (C i : Nat) (hs : Sr w base Rb Rd T off SZ A D C i) (n a : Int) (S : ByteArray) (h0 : -2147483648 ≤ n) (h1 : n < 2147483648) (a0 : 0 ≤ a) (a1 : a < 4) (hS : S.size < 2147483648) (hz : At D i (((hib 4 (S.size : Int) ++ bytesOf S) ++ [IntKind.u8.wrap a]) ++ hib 4 n)) :
    Calls Try.prog 65 #[.pointer (some ⟨Rd, off, none⟩)] w fun e w' => e = .returned (.tuple #[.agg #[.int .i8 a, .string S, .int .i32 n], .nilIface]) ∧ Done w w' base Rb Rd T off SZ A D C (i + 4 + S.size + 1 + 4) := by
  have h := r_msg_old w base Rb Rd T off SZ A D C i hs _ n S h0 h1 hS hz
  rw [t_old a a0 a1] at h
  exact h
theorem g_int8 (w : World) (base Rb Rd T : Nat) (A : Option Addr) (D : List Int) (C i : Nat) (hs : Sr w base Rb Rd T 1 11 A D C i) (n : Int) (h0 : -128 ≤ n) (h1 : n < 128) (hz : At D i (hib 1 n)) :
    Calls Try.prog 111 #[.pointer (some ⟨Rd, 0, none⟩)] w fun e w' => e = .returned (.tuple #[.int .i8 n, .nilIface]) ∧ Done w w' base Rb Rd T 1 11 A D C (i + 1) := by
  have h := c_rint8 w base Rb Rd T A D C i hs (n % 256) (by have e : hib 1 n = [n % 256] := by { simp [hib] }; rw [e] at hz; exact hz)
  rw [w8n n h0 h1] at h
  exact h
theorem g_msg (w : World) (base Rb Rd T : Nat) (A : Option Addr) (D : List Int) (C i : Nat) (hs : Sr w base Rb Rd T 1 11 A D C i) (n a : Int) (S : ByteArray) (h0 : 0 ≤ n) (h1 : n < 2147483648) (a0 : 0 ≤ a) (a1 : a < 4) (hS : S.size < 2147483648) (j : Nat) (hj : j < 10) (hn : nb j n) (k : Nat) (hk : k < 10) (hn0 : nb k (S.size : Int)) (hz : At D i (([130, IntKind.u8.wrap a] ++ vbytes j n) ++ (vbytes k (S.size : Int) ++ bytesOf S))) :
    Calls Try.prog 115 #[.pointer (some ⟨Rd, 0, none⟩)] w fun e w' => e = .returned (.tuple #[.agg #[.int .i8 a, .string S, .int .i32 n], .nilIface]) ∧ Done w w' base Rb Rd T 1 11 A D C (i + 1 + 1 + (j + 1) + (k + 1) + S.size) := by
  have h := c_rmessage w base Rb Rd T A D C i hs _ n S h0 h1 hS j hj hn k hk hn0 hz
  rw [t_old a a0 a1] at h
  exact h
theorem g_field_short (w : World) (base Rb Rd T : Nat) (A : Option Addr) (D : List Int) (C i : Nat) (hs : Sr w base Rb Rd T 1 11 A D C i) (n a : Int) (h0 : 1 ≤ n) (h1 : n < 16) (a0 : 2 ≤ a) (a1 : a < 13) (hz : At D i ([Go.bits .or .u8 (IntKind.u8.wrap (IntKind.u8.wrap n * 16)) (IntKind.u8.wrap a)])) :
    Calls Try.prog 106 #[.pointer (some ⟨Rd, 0, none⟩)] w fun e w' => e = .returned (.tuple #[.agg #[.int .i16 n, .int .i8 a, .bool true], .nilIface]) ∧ Done w w' base Rb Rd T 1 11 A D C (i + 1) := by
  obtain ⟨z, e, z0, z1, e1, e2⟩ := halves n a (by omega) (by omega) (by omega) (by omega)
  rw [e] at hz
  exact c_rfield_delta w base Rb Rd T A D C i hs z n a z0 z1 h0 h1 (by omega) (by omega) e1 e2 hz
theorem g_field_long (w : World) (base Rb Rd T : Nat) (A : Option Addr) (D : List Int) (C i : Nat) (hs : Sr w base Rb Rd T 1 11 A D C i) (n a : Int) (h0 : 16 ≤ n) (h1 : n < 32768) (a0 : 2 ≤ a) (a1 : a < 13) (j : Nat) (hj : j < 10) (hn : nb j (zig n)) (hz : At D i ([IntKind.u8.wrap a] ++ vbytes j (zig n))) :
    Calls Try.prog 106 #[.pointer (some ⟨Rd, 0, none⟩)] w fun e w' => e = .returned (.tuple #[.agg #[.int .i16 n, .int .i8 a, .bool false], .nilIface]) ∧ Done w w' base Rb Rd T 1 11 A D C (i + 1 + (j + 1)) := by
  rw [w8u a (by omega) (by omega)] at hz
  exact c_rfield_long w base Rb Rd T A D C i hs a n (by omega) (by omega) (by omega) h1 j hj hn hz
theorem g_list_short (w : World) (base Rb Rd T : Nat) (A : Option Addr) (D : List Int) (C i : Nat) (hs : Sr w base Rb Rd T 1 11 A D C i) (n a : Int) (h0 : 0 ≤ n) (h1 : n < 15) (a0 : 2 ≤ a) (a1 : a < 13) (hz : At D i ([Go.bits .or .u8 (IntKind.u8.wrap (IntKind.u8.wrap n * 16)) (IntKind.u8.wrap a)])) :
    Calls Try.prog 113 #[.pointer (some ⟨Rd, 0, none⟩)] w fun e w' => e = .returned (.tuple #[.agg #[.int .i32 n, .int .i8 a], .nilIface]) ∧ Done w w' base Rb Rd T 1 11 A D C (i + 1) := by
  obtain ⟨z, e, z0, z1, e1, e2⟩ := halves n a (by omega) (by omega) (by omega) (by omega)
  rw [e] at hz
  exact c_rlist_short w base Rb Rd T A D C i hs z n a z0 z1 h0 h1 (by omega) (by omega) e1 e2 hz
theorem g_list_long (w : World) (base Rb Rd T : Nat) (A : Option Addr) (D : List Int) (C i : Nat) (hs : Sr w base Rb Rd T 1 11 A D C i) (n a : Int) (h0 : 15 ≤ n) (h1 : n < 1048576) (a0 : 2 ≤ a) (a1 : a < 13) (j : Nat) (hj : j < 10) (hn : nb j n) (hz : At D i ([Go.bits .or .u8 240 (IntKind.u8.wrap a)] ++ vbytes j n)) :
    Calls Try.prog 113 #[.pointer (some ⟨Rd, 0, none⟩)] w fun e w' => e = .returned (.tuple #[.agg #[.int .i32 n, .int .i8 a], .nilIface]) ∧ Done w w' base Rb Rd T 1 11 A D C (i + 1 + (j + 1)) := by
  obtain ⟨z, e, z0, z1, e1, e2⟩ := halves15 a (by omega) (by omega)
  rw [e] at hz
  exact c_rlist_long w base Rb Rd T A D C i hs z n a z0 z1 (by omega) (by omega) (by omega) (by omega) e1 e2 j hj hn hz
theorem g_set_short (w : World) (base Rb Rd T : Nat) (A : Option Addr) (D : List Int) (C i : Nat) (hs : Sr w base Rb Rd T 1 11 A D C i) (n a : Int) (h0 : 0 ≤ n) (h1 : n < 15) (a0 : 2 ≤ a) (a1 : a < 13) (hz : At D i ([Go.bits .or .u8 (IntKind.u8.wrap (IntKind.u8.wrap n * 16)) (IntKind.u8.wrap a)])) :
    Calls Try.prog 116 #[.pointer (some ⟨Rd, 0, none⟩)] w fun e w' => e = .returned (.tuple #[.agg #[.int .i32 n, .int .i8 a], .nilIface]) ∧ Done w w' base Rb Rd T 1 11 A D C (i + 1) := by
  obtain ⟨z, e, z0, z1, e1, e2⟩ := halves n a (by omega) (by omega) (by omega) (by omega)
  rw [e] at hz
  exact c_rset_short w base Rb Rd T A D C i hs z n a z0 z1 h0 h1 (by omega) (by omega) e1 e2 hz
theorem g_set_long (w : World) (base Rb Rd T : Nat) (A : Option Addr) (D : List Int) (C i : Nat) (hs : Sr w base Rb Rd T 1 11 A D C i) (n a : Int) (h0 : 15 ≤ n) (h1 : n < 1048576) (a0 : 2 ≤ a) (a1 : a < 13) (j : Nat) (hj : j < 10) (hn : nb j n) (hz : At D i ([Go.bits .or .u8 240 (IntKind.u8.wrap a)] ++ vbytes j n)) :
    Calls Try.prog 116 #[.pointer (some ⟨Rd, 0, none⟩)] w fun e w' => e = .returned (.tuple #[.agg #[.int .i32 n, .int .i8 a], .nilIface]) ∧ Done w w' base Rb Rd T 1 11 A D C (i + 1 + (j + 1)) := by
  obtain ⟨z, e, z0, z1, e1, e2⟩ := halves15 a (by omega) (by omega)
  rw [e] at hz
  exact c_rset_long w base Rb Rd T A D C i hs z n a z0 z1 (by omega) (by omega) (by omega) (by omega) e1 e2 j hj hn hz
theorem g_map (w : World) (base Rb Rd T : Nat) (A : Option Addr) (D : List Int) (C i : Nat) (hs : Sr w base Rb Rd T 1 11 A D C i) (n a b : Int) (h0 : 0 < n) (h1 : n < 1048576) (a0 : 2 ≤ a) (a1 : a < 13) (b0 : 2 ≤ b) (b1 : b < 13) (j : Nat) (hj : j < 10) (hn : nb j n) (hz : At D i (vbytes j n ++ [Go.bits .or .u8 (IntKind.u8.wrap (IntKind.u8.wrap a * 16)) (IntKind.u8.wrap b)])) :
    Calls Try.prog 114 #[.pointer (some ⟨Rd, 0, none⟩)] w fun e w' => e = .returned (.tuple #[.agg #[.int .i32 n, .int .i8 a, .int .i8 b], .nilIface]) ∧ Done w w' base Rb Rd T 1 11 A D C (i + (j + 1) + 1) := by
  obtain ⟨z, e, z0, z1, e1, e2⟩ := halves a b (by omega) (by omega) (by omega) (by omega)
  rw [e] at hz
  exact c_rmap_some w base Rb Rd T A D C i hs z n a b z0 z1 h0 (by omega) (by omega) (by omega) (by omega) (by omega) e1 e2 j hj hn hz
end Go.Proofs.Ytmjilokgpgajjaa.Th

namespace Go.Proofs.Ytmjilokgpgajjaa.Th
open Go.RowKit Go.Proofs.YtmjilokgpgajjaaW.PrintWords Go.Proofs.YtmjilokgpgajjaaW.PrintLast Go.Proofs.YtmjilokgpgajjaaW.PrintMore
set_option linter.unusedVariables false
set_option linter.unusedSimpArgs false
theorem KeepBut.drewr {w X : World} {g : Nat} (h : KeepBut w X g none) : KeepBut w X.drew g none := h
theorem fin6 {w W : World} {base Rb Rd T off SZ B t : Nat} {A : Option Addr} {D : List Int} {C j : Nat} {b0 b1 b2 b3 b4 b5 : Value} (a0 a1 a2 a3 a4 a5 : Value) (hs : Sr W base Rb Rd T off SZ A D C j) (hn : B ≠ Rb ∧ B ≠ Rd ∧ base ≤ B ∧ w.heap.size ≤ B) (hk : Kp w W Rb Rd) (hb : Below base w W) (h : W.heap[B]? = some (.cells #[b0, b1, b2, b3, b4, b5] t (0, 0))) :
    ∃ X, X = ((((((W.setCell ⟨B, 0, none⟩ a0).setCell ⟨B, 1, none⟩ a1).setCell ⟨B, 2, none⟩ a2).setCell ⟨B, 3, none⟩ a3).setCell ⟨B, 4, none⟩ a4).setCell ⟨B, 5, none⟩ a5).drew ∧ X.cell? ⟨B, 0, none⟩ = some a0 ∧ X.cell? ⟨B, 1, none⟩ = some a1 ∧ X.cell? ⟨B, 2, none⟩ = some a2 ∧ X.cell? ⟨B, 3, none⟩ = some a3 ∧ X.cell? ⟨B, 4, none⟩ = some a4 ∧ X.cell? ⟨B, 5, none⟩ = some a5 ∧ Done w X base Rb Rd T off SZ A D C j := by
  have hb6 := blk_drew (blk_set (blk_set (blk_set (blk_set (blk_set (blk_set h 0 a0) 1 a1) 2 a2) 3 a3) 4 a4) 5 a5)
  have hk6 := KeepBut.drewr (((((((KeepBut.refl W B none).set_ 0 a0).set_ 1 a1).set_ 2 a2).set_ 3 a3).set_ 4 a4).set_ 5 a5)
  have hg6 := below_drew (((((((Below.refl B W).setCell (p := ⟨B, 0, none⟩) (Nat.le_refl _) a0).setCell (p := ⟨B, 1, none⟩) (Nat.le_refl _) a1).setCell (p := ⟨B, 2, none⟩) (Nat.le_refl _) a2).setCell (p := ⟨B, 3, none⟩) (Nat.le_refl _) a3).setCell (p := ⟨B, 4, none⟩) (Nat.le_refl _) a4).setCell (p := ⟨B, 5, none⟩) (Nat.le_refl _) a5)
  obtain ⟨X, hX⟩ : ∃ X, X = ((((((W.setCell ⟨B, 0, none⟩ a0).setCell ⟨B, 1, none⟩ a1).setCell ⟨B, 2, none⟩ a2).setCell ⟨B, 3, none⟩ a3).setCell ⟨B, 4, none⟩ a4).setCell ⟨B, 5, none⟩ a5).drew := ⟨_, rfl⟩
  rw [← hX] at hb6 hk6 hg6
  have hb7 : X.heap[B]? = some (.cells #[a0, a1, a2, a3, a4, a5] t (0, 0)) := hb6
  obtain ⟨x0, x1, x2, x3, x4, x5, -⟩ := blkof6 hb7
  exact ⟨X, hX, x0, x1, x2, x3, x4, x5, hs.other hn hk6, hk.other hk6 hn, hb.trans (hg6.mono hn.2.2.1)⟩
end Go.Proofs.Ytmjilokgpgajjaa.Th
