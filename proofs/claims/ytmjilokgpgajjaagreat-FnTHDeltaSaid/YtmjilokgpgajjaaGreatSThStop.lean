/- The end of a struct, and a field told by a delta: what is written of it, what the definition tells, and what is read. -/
import Derived.Test.YtmjilokgpgajjaaGreatSThM7
import Derived.Test.YtmjilokgpgajjaaGreatSThM8
import Derived.Test.YtmjilokgpgajjaaGreatSThM3
import Derived.Test.YtmjilokgpgajjaaGreatSThNums
import Derived.Test.YtmjilokgpgajjaaGreatSThCall2
import Derived.Test.YtmjilokgpgajjaaGreatSThN3
import Derived.Test.YtmjilokgpgajjaaGreatSThN4
namespace Go.Proofs.YtmjilokgpgajjaaGreat.Th
open Go.RowKit Go.Proofs.YtmjilokgpgajjaaGreatW.PrintWords Go.Proofs.YtmjilokgpgajjaaGreatW.PrintLast Go.Proofs.YtmjilokgpgajjaaGreatW.PrintMore Go.Proofs.YtmjilokgpgajjaaGreat.PFnTHScripts
set_option linter.unusedVariables false
set_option linter.unusedSimpArgs false
/-- A field told by a delta. -/
def cdelta (n a : Int) : Cl := ⟨11, n, ⟨#[]⟩, a, 0, true⟩
def deltaz (n a : Int) : List Int := [Go.bits .or .u8 (IntKind.u8.wrap (IntKind.u8.wrap n * 16)) (IntKind.u8.wrap a)]
theorem one_delta {n a : Int} (h0 : 1 ≤ n) (h1 : n < 16) (a0 : 2 ≤ a) (a1 : a < 13) : One 2 (cdelta n a) (deltaz n a) := by
  unfold deltaz
  rw [← or16]
  exact fun w B C hB hl => one_2 w B C _ _ _ _ _ _ _ hB hl (fun w base Sg Wg Pg xs hst hl => wr11s_c w base Sg Wg _ Pg _ _ _ xs n _ a 0 true hst (by omega) (by omega) (by omega) (by omega) (by omega) hl)
theorem sp_delta {n a : Int} (h1 : n < 16) (a0 : 2 ≤ a) (a1 : a < 13) : Sp 2 (cdelta n a) (deltaz n a) := fun w => sp_two _ _ _ _ _ _ _ w (fun w => thc_11s n _ a 0 true w small_zero 0 (by omega) nb_zero (by omega) h1)
theorem rd_delta {n a : Int} (h0 : 1 ≤ n) (h1 : n < 16) (a0 : 2 ≤ a) (a1 : a < 13) : OneR 2 (cdelta n a) (deltaz n a) := read_one rfl (by omega) (.inr ⟨rfl, fun w base Rb Rd T A D C i hs hz => rr11s_c w base Rb Rd T A D C i hs n a h0 h1 a0 a1 hz⟩)
end Go.Proofs.YtmjilokgpgajjaaGreat.Th

