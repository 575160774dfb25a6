/- One call is written; whole numbers have as few bytes as may be. -/
import Derived.Test.YtmjilokgpgajjaaGreatSThList
import Derived.Test.YtmjilokgpgajjaaGreatSPFnTHScriptsx1
import Derived.Test.YtmjilokgpgajjaaGreatSPFnTHScriptsx2
namespace Go.Proofs.YtmjilokgpgajjaaGreat.Th
open Go.RowKit Go.Proofs.YtmjilokgpgajjaaGreatW.PrintWords Go.Proofs.YtmjilokgpgajjaaGreatW.PrintLast Go.Proofs.YtmjilokgpgajjaaGreatW.PrintMore Go.Proofs.YtmjilokgpgajjaaGreat.PFnTHScripts
set_option linter.unusedVariables false
set_option linter.unusedSimpArgs false
theorem laid_one {w : World} {B : Nat} (c : Cl) (h : w.heap[B]? = some (.cells #[.int .i64 c.op, .int .i64 c.n, .string c.S, .int .i64 c.a, .int .i64 c.b, .bool c.d] 25 (0, 0))) : Laid w B [c] := by
  refine ⟨_, h, fun k c' hc => ?_⟩
  cases k with
  | zero =>
    simp at hc
    subst hc
    exact ⟨rfl, rfl, rfl, rfl, rfl, rfl⟩
  | succ k => simp at hc

theorem one_0 (w : World) (B C : Nat) (op n : Int) (S : ByteArray) (a b : Int) (d : Bool) (zs : List Int) (hB : B < w.heap.size) (h : w.heap[B]? = some (.cells #[.int .i64 op, .int .i64 n, .string S, .int .i64 a, .int .i64 b, .bool d] 25 (0, 0))) (hw : Wr 161 163 0 10 69 #[.bool false] (fun P => .pointer (some ⟨P, 0, none⟩)) ⟨op, n, S, a, b, d⟩ zs) :
    Calls Tryz.prog 10 #[.int .i64 0, .slice (some ⟨B, 0, none⟩) 1 C] w fun e w' => ∃ (A : Option Addr) (c : Nat), e = .returned (.tuple #[.slice A zs.length c, .int .i64 1]) ∧ (Kd.int .u8).R 5 w' w.heap.size (fun _ => True) (.slice A zs.length c) zs ∧ Below w.heap.size w w' := by
  have h := list_0 w B C [⟨op, n, S, a, b, d⟩] (fun _ => zs) hB (laid_one ⟨op, n, S, a, b, d⟩ h) (by simp) (fun c hc => by simp at hc; subst hc; exact hw) (fun k hk => by simp at hk; subst hk; simp)
  simpa using h

theorem one_1 (w : World) (B C : Nat) (op n : Int) (S : ByteArray) (a b : Int) (d : Bool) (zs : List Int) (hB : B < w.heap.size) (h : w.heap[B]? = some (.cells #[.int .i64 op, .int .i64 n, .string S, .int .i64 a, .int .i64 b, .bool d] 25 (0, 0))) (hw : Wr 161 163 0 10 69 #[.bool true] (fun P => .pointer (some ⟨P, 0, none⟩)) ⟨op, n, S, a, b, d⟩ zs) :
    Calls Tryz.prog 10 #[.int .i64 1, .slice (some ⟨B, 0, none⟩) 1 C] w fun e w' => ∃ (A : Option Addr) (c : Nat), e = .returned (.tuple #[.slice A zs.length c, .int .i64 1]) ∧ (Kd.int .u8).R 5 w' w.heap.size (fun _ => True) (.slice A zs.length c) zs ∧ Below w.heap.size w w' := by
  have h := list_1 w B C [⟨op, n, S, a, b, d⟩] (fun _ => zs) hB (laid_one ⟨op, n, S, a, b, d⟩ h) (by simp) (fun c hc => by simp at hc; subst hc; exact hw) (fun k hk => by simp at hk; subst hk; simp)
  simpa using h

theorem one_2 (w : World) (B C : Nat) (op n : Int) (S : ByteArray) (a b : Int) (d : Bool) (zs : List Int) (hB : B < w.heap.size) (h : w.heap[B]? = some (.cells #[.int .i64 op, .int .i64 n, .string S, .int .i64 a, .int .i64 b, .bool d] 25 (0, 0))) (hw : Wr 167 170 1 21 72 #[] (fun _ => .pointer none) ⟨op, n, S, a, b, d⟩ zs) :
    Calls Tryz.prog 10 #[.int .i64 2, .slice (some ⟨B, 0, none⟩) 1 C] w fun e w' => ∃ (A : Option Addr) (c : Nat), e = .returned (.tuple #[.slice A zs.length c, .int .i64 1]) ∧ (Kd.int .u8).R 5 w' w.heap.size (fun _ => True) (.slice A zs.length c) zs ∧ Below w.heap.size w w' := by
  have h := list_2 w B C [⟨op, n, S, a, b, d⟩] (fun _ => zs) hB (laid_one ⟨op, n, S, a, b, d⟩ h) (by simp) (fun c hc => by simp at hc; subst hc; exact hw) (fun k hk => by simp at hk; subst hk; simp)
  simpa using h
end Go.Proofs.YtmjilokgpgajjaaGreat.Th

