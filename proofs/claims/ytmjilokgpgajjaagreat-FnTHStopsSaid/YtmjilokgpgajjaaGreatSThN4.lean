/- Merged by merge.py (wip/tpl) out of ThOneR: What THRead reads of one call. -/
import Derived.Test.YtmjilokgpgajjaaGreatSThRt
import Derived.Test.YtmjilokgpgajjaaGreatSThM3
import Derived.Test.YtmjilokgpgajjaaGreatSPFnTHScriptsx1
import Derived.Test.YtmjilokgpgajjaaGreatSPFnTHScriptsx2
import Derived.Deep.QuietTactic
import Derived.BigQuiet
namespace Go.Proofs.YtmjilokgpgajjaaGreat.Th
open Go.RowKit Go.Proofs.YtmjilokgpgajjaaGreatW.PrintWords Go.Proofs.YtmjilokgpgajjaaGreatW.PrintLast Go.Proofs.YtmjilokgpgajjaaGreatW.PrintMore Go.Proofs.YtmjilokgpgajjaaGreat.PFnTHScripts
set_option linter.unusedVariables false
set_option linter.unusedSimpArgs false
theorem Bk.at_ {p : Int} {c c' : Cl} (h : Bk p c c') (w : World) : Calls Tryz.prog 14 #[.int .i64 p, .agg #[.int .i64 c.op, .int .i64 c.n, .string c.S, .int .i64 c.a, .int .i64 c.b, .bool c.d]] w fun e w' => e = .returned (.agg #[.int .i64 c'.op, .int .i64 c'.n, .string c'.S, .int .i64 c'.a, .int .i64 c'.b, .bool c'.d]) ∧ Below w.heap.size w w' := h w
/-- What THRead reads of one call. -/
def OneR (p : Int) (c : Cl) (zs : List Int) : Prop := ∀ (w : World) (rest : List Int) (B : Nat) (A : Option Addr) (C : Nat), w.heap[B]? = some (.cells #[.int .i64 c.op] 3 (0, 0)) → (Kd.int .u8).C w A (zs ++ rest).length (zs ++ rest) → (zs ++ rest).length ≤ C → (zs ++ rest).length < 4000000000 →
    Calls Tryz.prog 11 #[.int .i64 p, .slice (some ⟨B, 0, none⟩) 1 1, .slice A (zs ++ rest).length C] w fun e w' => ∃ v, e = .returned (.tuple #[v, .int .i64 (rest.length : Int)]) ∧ w'.ownsRow w.heap.size 25 6 v 1 (cl6 c) ∧ Below w.heap.size w w'
theorem OneR.at_ {p : Int} {c : Cl} {zs : List Int} (h : OneR p c zs) (w : World) (rest : List Int) (B : Nat) (A : Option Addr) (C : Nat) (h1 : w.heap[B]? = some (.cells #[.int .i64 c.op] 3 (0, 0))) (h2 : (Kd.int .u8).C w A (zs ++ rest).length (zs ++ rest)) (h3 : (zs ++ rest).length ≤ C) (h4 : (zs ++ rest).length < 4000000000) :
    Calls Tryz.prog 11 #[.int .i64 p, .slice (some ⟨B, 0, none⟩) 1 1, .slice A (zs ++ rest).length C] w fun e w' => ∃ v, e = .returned (.tuple #[v, .int .i64 (rest.length : Int)]) ∧ w'.ownsRow w.heap.size 25 6 v 1 (cl6 c) ∧ Below w.heap.size w w' := h w rest B A C h1 h2 h3 h4
/-- The same over one name for the bytes. -/
def OneD (p : Int) (c : Cl) (rs ds : List Int) : Prop := ∀ (w : World) (B : Nat) (A : Option Addr) (C : Nat), w.heap[B]? = some (.cells #[.int .i64 c.op] 3 (0, 0)) → (Kd.int .u8).C w A ds.length ds → ds.length ≤ C → ds.length < 4000000000 →
    Calls Tryz.prog 11 #[.int .i64 p, .slice (some ⟨B, 0, none⟩) 1 1, .slice A ds.length C] w fun e w' => ∃ v, e = .returned (.tuple #[v, .int .i64 (rs.length : Int)]) ∧ w'.ownsRow w.heap.size 25 6 v 1 (cl6 c) ∧ Below w.heap.size w w'
theorem OneD.at_ {p : Int} {c : Cl} {rs ds : List Int} (h : OneD p c rs ds) (w : World) (B : Nat) (A : Option Addr) (C : Nat) (h1 : w.heap[B]? = some (.cells #[.int .i64 c.op] 3 (0, 0))) (h2 : (Kd.int .u8).C w A ds.length ds) (h3 : ds.length ≤ C) (h4 : ds.length < 4000000000) :
    Calls Tryz.prog 11 #[.int .i64 p, .slice (some ⟨B, 0, none⟩) 1 1, .slice A ds.length C] w fun e w' => ∃ v, e = .returned (.tuple #[v, .int .i64 (rs.length : Int)]) ∧ w'.ownsRow w.heap.size 25 6 v 1 (cl6 c) ∧ Below w.heap.size w w' := h w B A C h1 h2 h3 h4
theorem OneR.to {p : Int} {c : Cl} {zs rs ds : List Int} (h : OneR p c zs) (hd : ds = zs ++ rs) : OneD p c rs ds := by
  subst hd
  exact fun w B A C h1 h2 h3 h4 => h w rs B A C h1 h2 h3 h4
theorem C_op {w : World} {B T : Nat} {x : Int} (h : w.heap[B]? = some (.cells #[.int .i64 x] T (0, 0))) : (Kd.int .i64).C w (some ⟨B, 0, none⟩) 1 [x] :=
  Kd.C_of_reads (d := 0) ⟨rfl, by decide, fun _ => ⟨_, rfl, fun j hj => by
    obtain rfl : j = 0 := by omega
    rw [add_at]
    exact (blk_cell h 0).trans rfl⟩⟩
theorem read_one {p : Int} {op : Int} {c : Cl} {zs : List Int} (hop : c.op = op) (hp : p = 0 ∨ p = 1 ∨ p = 2) (h : RdP p op c zs) : OneR p c zs := by
  subst hop
  intro w rest B A C h1 h2 h3 h4
  have hf : flatz [(c, zs)] = zs := by simp [flatz]
  have h6 : flat6 [(c, zs)] = cl6 c := by simp [flat6]
  have ho : (Kd.int .i64).C w (some ⟨B, 0, none⟩) [(c, zs)].length ([(c, zs)].map (·.1.op)) := C_op h1
  rcases h with ⟨hp2, h⟩ | ⟨rfl, h⟩
  · rcases hp with rfl | rfl | rfl
    · have k := rlist_0 w [(c, zs)] rest (some ⟨B, 0, none⟩) 1 A C (fun x hx => by simp at hx; subst hx; exact h) (by simp) ho (by rw [hf]; exact h2) (by rw [hf]; exact h3) (by rw [hf]; exact h4)
      rw [hf, h6] at k
      exact k
    · have k := rlist_1 w [(c, zs)] rest (some ⟨B, 0, none⟩) 1 A C (fun x hx => by simp at hx; subst hx; exact h) (by simp) ho (by rw [hf]; exact h2) (by rw [hf]; exact h3) (by rw [hf]; exact h4)
      rw [hf, h6] at k
      exact k
    · exact absurd rfl hp2
  · have k := rlist_2 w [(c, zs)] rest (some ⟨B, 0, none⟩) 1 A C (fun x hx => by simp at hx; subst hx; exact h) (by simp) ho (by rw [hf]; exact h2) (by rw [hf]; exact h3) (by rw [hf]; exact h4)
    rw [hf, h6] at k
    exact k
end Go.Proofs.YtmjilokgpgajjaaGreat.Th

