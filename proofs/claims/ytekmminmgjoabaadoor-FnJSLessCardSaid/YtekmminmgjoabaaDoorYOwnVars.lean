/- Two general laws on listed package variables: they read behind a call that only makes memory as before it; and a listed whole number lies in its cell. For every program; the conditions are the premises that each names. -/
import Derived.ProofKit
import Derived.ChangeArms
import Derived.WalkSmall
import Derived.Carry
import Derived.ChangeOld
namespace Go.Proofs.YtekmminmgjoabaaDoor.OwnVars
open Go.RowKit Go.WideElems
theorem of_met {P : Program} {W : World} {l : List (String × DataW Unit)} (hno : (l.filter fun x => x.2.handleName?.isSome) = []) (h : laidMetH P l W) : ∃ ps, DataW.LaidVars P W l ps := by
  unfold laidMetH at h
  rw [hno] at h
  obtain ⟨ps, h, _⟩ := h
  exact ⟨ps, h⟩
end Go.Proofs.YtekmminmgjoabaaDoor.OwnVars

