/- One call is written; whole numbers have as few bytes as may be. -/
import Derived.Test.YtmjilokgpgajjaaThList
import Derived.Test.YtmjilokgpgajjaaPFnTHWritesx1
namespace Go.Proofs.Ytmjilokgpgajjaa.Th
open Go.RowKit Go.Proofs.YtmjilokgpgajjaaW.PrintWords Go.Proofs.YtmjilokgpgajjaaW.PrintLast Go.Proofs.YtmjilokgpgajjaaW.PrintMore Go.Proofs.Ytmjilokgpgajjaa.PFnTHWrites
set_option linter.unusedVariables false
set_option linter.unusedSimpArgs false
theorem laid_one {w : World} {B : Nat} (c : Cl) (h : w.heap[B]? = some (.cells #[.int .i64 c.op, .int .i64 c.n, .string c.S, .int .i64 c.a, .int .i64 c.b, .bool c.d] 30 (0, 0))) : Laid w B [c] := by
  refine ⟨_, h, fun k c' hc => ?_⟩
  cases k with
  | zero =>
    simp at hc
    subst hc
    exact ⟨rfl, rfl, rfl, rfl, rfl, rfl⟩
  | succ k => simp at hc

theorem one_0 (w : World) (B C : Nat) (op n : Int) (S : ByteArray) (a b : Int) (d : Bool) (zs : List Int) (hB : B < w.heap.size) (h : w.heap[B]? = some (.cells #[.int .i64 op, .int .i64 n, .string S, .int .i64 a, .int .i64 b, .bool d] 30 (0, 0))) (hw : Wr 163 165 0 10 72 #[.bool false] (fun P => .pointer (some ⟨P, 0, none⟩)) ⟨op, n, S, a, b, d⟩ zs) :
    Calls Try.prog 9 #[.int .i64 0, .slice (some ⟨B, 0, none⟩) 1 C] w fun e w' => ∃ (A : Option Addr) (c : Nat), e = .returned (.tuple #[.slice A zs.length c, .int .i64 1]) ∧ (Kd.int .u8).R 5 w' w.heap.size (fun _ => True) (.slice A zs.length c) zs ∧ Below w.heap.size w w' := by
  have h := list_0 w B C [⟨op, n, S, a, b, d⟩] (fun _ => zs) hB (laid_one ⟨op, n, S, a, b, d⟩ h) (by simp) (fun c hc => by simp at hc; subst hc; exact hw) (fun k hk => by simp at hk; subst hk; simp)
  simpa using h

theorem one_1 (w : World) (B C : Nat) (op n : Int) (S : ByteArray) (a b : Int) (d : Bool) (zs : List Int) (hB : B < w.heap.size) (h : w.heap[B]? = some (.cells #[.int .i64 op, .int .i64 n, .string S, .int .i64 a, .int .i64 b, .bool d] 30 (0, 0))) (hw : Wr 163 165 0 10 72 #[.bool true] (fun P => .pointer (some ⟨P, 0, none⟩)) ⟨op, n, S, a, b, d⟩ zs) :
    Calls Try.prog 9 #[.int .i64 1, .slice (some ⟨B, 0, none⟩) 1 C] w fun e w' => ∃ (A : Option Addr) (c : Nat), e = .returned (.tuple #[.slice A zs.length c, .int .i64 1]) ∧ (Kd.int .u8).R 5 w' w.heap.size (fun _ => True) (.slice A zs.length c) zs ∧ Below w.heap.size w w' := by
  have h := list_1 w B C [⟨op, n, S, a, b, d⟩] (fun _ => zs) hB (laid_one ⟨op, n, S, a, b, d⟩ h) (by simp) (fun c hc => by simp at hc; subst hc; exact hw) (fun k hk => by simp at hk; subst hk; simp)
  simpa using h

theorem one_2 (w : World) (B C : Nat) (op n : Int) (S : ByteArray) (a b : Int) (d : Bool) (zs : List Int) (hB : B < w.heap.size) (h : w.heap[B]? = some (.cells #[.int .i64 op, .int .i64 n, .string S, .int .i64 a, .int .i64 b, .bool d] 30 (0, 0))) (hw : Wr 169 172 1 21 75 #[] (fun _ => .pointer none) ⟨op, n, S, a, b, d⟩ zs) :
    Calls Try.prog 9 #[.int .i64 2, .slice (some ⟨B, 0, none⟩) 1 C] w fun e w' => ∃ (A : Option Addr) (c : Nat), e = .returned (.tuple #[.slice A zs.length c, .int .i64 1]) ∧ (Kd.int .u8).R 5 w' w.heap.size (fun _ => True) (.slice A zs.length c) zs ∧ Below w.heap.size w w' := by
  have h := list_2 w B C [⟨op, n, S, a, b, d⟩] (fun _ => zs) hB (laid_one ⟨op, n, S, a, b, d⟩ h) (by simp) (fun c hc => by simp at hc; subst hc; exact hw) (fun k hk => by simp at hk; subst hk; simp)
  simpa using h
theorem wrb_3 (ps : Array Value) (n : Int) (S : ByteArray) (a b : Int) (d : Bool) (h0 : -32768 ≤ n) (h1 : n < 32768) : Wr 163 165 0 10 72 ps (fun P => .pointer (some ⟨P, 0, none⟩)) ⟨3, n, S, a, b, d⟩ (hib 2 n) :=
  fun w base Sg Wg Pg xs hst hl => wr3_b w base Sg Wg _ Pg _ _ _ xs n S a b d hst h0 h1 (by omega)
theorem wrc_3 (n : Int) (S : ByteArray) (a b : Int) (d : Bool) (h0 : -32768 ≤ n) (h1 : n < 32768) (j : Nat) (hj : j < 10) (hn : nb j (zig n)) : Wr 169 172 1 21 75 #[] (fun _ => .pointer none) ⟨3, n, S, a, b, d⟩ (vbytes j (zig n)) :=
  fun w base Sg Wg Pg xs hst hl => wr3_c w base Sg Wg _ Pg _ _ _ xs n S a b d hst h0 h1 j hj hn (by omega)
theorem wrb_4 (ps : Array Value) (n : Int) (S : ByteArray) (a b : Int) (d : Bool) (h0 : -2147483648 ≤ n) (h1 : n < 2147483648) : Wr 163 165 0 10 72 ps (fun P => .pointer (some ⟨P, 0, none⟩)) ⟨4, n, S, a, b, d⟩ (hib 4 n) :=
  fun w base Sg Wg Pg xs hst hl => wr4_b w base Sg Wg _ Pg _ _ _ xs n S a b d hst h0 h1 (by omega)
theorem wrc_4 (n : Int) (S : ByteArray) (a b : Int) (d : Bool) (h0 : -2147483648 ≤ n) (h1 : n < 2147483648) (j : Nat) (hj : j < 10) (hn : nb j (zig n)) : Wr 169 172 1 21 75 #[] (fun _ => .pointer none) ⟨4, n, S, a, b, d⟩ (vbytes j (zig n)) :=
  fun w base Sg Wg Pg xs hst hl => wr4_c w base Sg Wg _ Pg _ _ _ xs n S a b d hst h0 h1 j hj hn (by omega)
theorem wrb_5 (ps : Array Value) (n : Int) (S : ByteArray) (a b : Int) (d : Bool) (h0 : -9223372036854775808 ≤ n) (h1 : n < 9223372036854775808) : Wr 163 165 0 10 72 ps (fun P => .pointer (some ⟨P, 0, none⟩)) ⟨5, n, S, a, b, d⟩ (hib 8 n) :=
  fun w base Sg Wg Pg xs hst hl => wr5_b w base Sg Wg _ Pg _ _ _ xs n S a b d hst h0 h1 (by omega)
theorem wrc_5 (n : Int) (S : ByteArray) (a b : Int) (d : Bool) (h0 : -9223372036854775808 ≤ n) (h1 : n < 9223372036854775808) (j : Nat) (hj : j < 10) (hn : nb j (zig n)) : Wr 169 172 1 21 75 #[] (fun _ => .pointer none) ⟨5, n, S, a, b, d⟩ (vbytes j (zig n)) :=
  fun w base Sg Wg Pg xs hst hl => wr5_c w base Sg Wg _ Pg _ _ _ xs n S a b d hst h0 h1 j hj hn (by omega)
theorem nb_mono : ∀ (j i : Nat) (u v : Int), nb j u → nb i v → u / 2 ≤ v / 2 → j ≤ i
  | 0, _, _, _, _, _, _ => Nat.zero_le _
  | j + 1, 0, u, v, h, k, e => by simp only [nb] at h k; omega
  | j + 1, i + 1, u, v, h, k, e => by
    simp only [nb] at h k
    have := nb_mono j i (u / 128) (v / 128) h.2 k.2 (by omega)
    omega
end Go.Proofs.Ytmjilokgpgajjaa.Th
