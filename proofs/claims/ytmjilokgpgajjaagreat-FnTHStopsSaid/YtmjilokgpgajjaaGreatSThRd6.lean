/- Written by thread.py (wip/tpl): what the binary reader's methods read. -/
import Derived.Test.YtmjilokgpgajjaaGreatSThRd5
namespace Go.Proofs.YtmjilokgpgajjaaGreat.Th
open Go.RowKit Go.Proofs.YtmjilokgpgajjaaGreatW.PrintWords Go.Proofs.YtmjilokgpgajjaaGreatW.PrintLast Go.Proofs.YtmjilokgpgajjaaGreatW.PrintMore
set_option linter.unusedVariables false
set_option linter.unusedSimpArgs false
set_option maxHeartbeats 8000000 in
set_option maxRecDepth 100000 in
theorem rd_left (w : World) (base Rb Rd T off SZ : Nat) (A : Option Addr) (D : List Int) (C i : Nat) (hs : Sr w base Rb Rd T off SZ A D C i) (hi : i ≤ D.length) :
    Calls Tryz.prog 19 #[.pointer (some ⟨Rb, 0, none⟩)] w fun e w' => e = .returned (.int .i64 ((D.length : Int) - (i : Int))) ∧ Below w.heap.size w w' := by
  have hL := hs.hL
  have hlt := blk_lt hs.hR
  have c0 : w.cell? ⟨Rb, 0, none⟩ = some (.slice A D.length C) := (blk_cell hs.hR 0).trans rfl
  have c1 : w.cell? ⟨Rb, 1, none⟩ = some (.int .i64 (i : Int)) := (blk_cell hs.hR 1).trans rfl
  have e1 : IntKind.i64.wrap ((D.length : Int) - (i : Int)) = (D.length : Int) - (i : Int) := by rw [IntKind.wrap_i64]; omega
  generalize D.length = L at *
  clear hs
  go_enter Tryz.func19, Tryz.ntmps19
  go_wp2
  go_quiet (fail)
  go_wp2_with fail
  go_ret
  exact ⟨rfl, pw_below_drewN (Below.refl _ _) _⟩
end Go.Proofs.YtmjilokgpgajjaaGreat.Th

