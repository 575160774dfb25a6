/- The end of a struct, and a field told by a delta: what is written of it, what the definition tells, and what is read. -/
import Derived.Test.YtmjilokgpgajjaaGreatSThStopW
import Derived.Test.YtmjilokgpgajjaaGreatSThM8
import Derived.Test.YtmjilokgpgajjaaGreatSThM3
import Derived.Test.YtmjilokgpgajjaaGreatSThNums
import Derived.Test.YtmjilokgpgajjaaGreatSThCall2
import Derived.Test.YtmjilokgpgajjaaGreatSThM7
import Derived.Test.YtmjilokgpgajjaaGreatSThN3
import Derived.Test.YtmjilokgpgajjaaGreatSThN4
namespace Go.Proofs.YtmjilokgpgajjaaGreat.Th
open Go.RowKit Go.Proofs.YtmjilokgpgajjaaGreatW.PrintWords Go.Proofs.YtmjilokgpgajjaaGreatW.PrintLast Go.Proofs.YtmjilokgpgajjaaGreatW.PrintMore Go.Proofs.YtmjilokgpgajjaaGreat.PFnTHScripts
set_option linter.unusedVariables false
set_option linter.unusedSimpArgs false
/-- The end of a struct. -/
def cstop : Cl := ⟨11, 0, ⟨#[]⟩, 0, 0, false⟩
def stopb : List Int := [IntKind.u8.wrap 0] ++ hib 2 0
theorem one_stop_0 : One 0 cstop stopb := fun w B C hB hl => one_0 w B C _ _ _ _ _ _ stopb hB hl (fun w base Sg Wg Pg xs hst hl => wr11_b w base Sg Wg _ Pg _ _ _ xs 0 _ 0 0 false hst (by omega) (by omega) (by omega) (by omega) (by omega))
theorem one_stop_1 : One 1 cstop stopb := fun w B C hB hl => one_1 w B C _ _ _ _ _ _ stopb hB hl (fun w base Sg Wg Pg xs hst hl => wr11_b w base Sg Wg _ Pg _ _ _ xs 0 _ 0 0 false hst (by omega) (by omega) (by omega) (by omega) (by omega))
theorem one_stop_2 : One 2 cstop [0] := fun w B C hB hl => one_2 w B C _ _ _ _ _ _ [0] hB hl (fun w base Sg Wg Pg xs hst hl => wr11z_c w base Sg Wg _ Pg _ _ _ xs _ 0 false hst hl)
theorem sp_stop {p : Int} (hp : decide (p = 2) = false) : Sp p cstop stopb := fun w => thb_11 p 0 _ 0 0 false w hp small_zero
theorem sp_stop_2 : Sp 2 cstop [0] := fun w => sp_two _ _ _ _ _ _ _ w (fun w => thc_11z 0 _ 0 false w small_zero 0 (by omega) nb_zero)
theorem rd_stop {p : Int} (hp : p ≠ 2) : RdP p 11 cstop stopb := .inl ⟨hp, fun w base Rb Rd T A D C i hs hz => rr11_b w base Rb Rd T A D C i hs 0 0 (by omega) (by omega) (by omega) (by omega) hz⟩
theorem rd_stop_2 : RdP 2 11 cstop [0] := .inr ⟨rfl, fun w base Rb Rd T A D C i hs hz => rr11z_c w base Rb Rd T A D C i hs hz⟩
/-- The end of a struct, by protocol. -/
def stopz (p : Int) : List Int := if p = 2 then [0] else stopb
theorem one_stop {p : Int} (hp : p = 0 ∨ p = 1 ∨ p = 2) : One p cstop (stopz p) := by
  rcases hp with rfl | rfl | rfl
  · exact one_stop_0
  · exact one_stop_1
  · exact one_stop_2
theorem spx_stop {p : Int} (hp : p = 0 ∨ p = 1 ∨ p = 2) : Sp p cstop (stopz p) := by
  rcases hp with rfl | rfl | rfl
  · exact sp_stop rfl
  · exact sp_stop rfl
  · exact sp_stop_2
theorem rdx_stop {p : Int} (hp : p = 0 ∨ p = 1 ∨ p = 2) : OneR p cstop (stopz p) := by
  rcases hp with rfl | rfl | rfl
  · exact read_one rfl (by omega) (rd_stop (by omega))
  · exact read_one rfl (by omega) (rd_stop (by omega))
  · exact read_one rfl (by omega) rd_stop_2
end Go.Proofs.YtmjilokgpgajjaaGreat.Th

