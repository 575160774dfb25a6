/- Written by threadc.py (wip/tpl): what the compact reader's methods read. -/
import Derived.Test.YtmjilokgpgajjaaGreatSThRd5
import Derived.Test.YtmjilokgpgajjaaGreatSThM1
import Derived.Test.YtmjilokgpgajjaaGreatSThRd7
import Derived.StillTailTactics
namespace Go.Proofs.YtmjilokgpgajjaaGreat.Th
open Go.RowKit Go.Proofs.YtmjilokgpgajjaaGreatW.PrintWords Go.Proofs.YtmjilokgpgajjaaGreatW.PrintLast Go.Proofs.YtmjilokgpgajjaaGreatW.PrintMore
set_option linter.unusedVariables false
set_option linter.unusedSimpArgs false
set_option maxHeartbeats 8000000 in
set_option maxRecDepth 100000 in
theorem c_byte (w : World) (base Rb Rd T : Nat) (A : Option Addr) (D : List Int) (C i : Nat) (hs : Sr w base Rb Rd T 1 11 A D C i) (z : Int) (hz : At D i [z]) :
    Calls Tryz.prog 104 #[.pointer (some ⟨Rd, 0, none⟩)] w fun e w' => e = .returned (.tuple #[.int .u8 z, .nilIface]) ∧ Done w w' base Rb Rd T 1 11 A D C (i + 1) := by
  have HS := Aside0.mk hs
  have HK := Aside0.mk (Kp.refl w Rb Rd)
  have HB := Aside0.mk (Below.refl base w)
  have HZ := Aside0.mk hz
  clear hz
  clear hs
  go_enter Tryz.func104, Tryz.ntmps104
  go_wp2_with (first | (go_at_call 69; (with_reducible refine (r_byte _ base Rb Rd T 1 11 A D C _ HS.out z HZ.out).mono ?_); rintro e W1 ⟨rfl, hd⟩; have n1 := Aside0.mk hd.1; have n2 := Aside0.mk (HK.out.trans hd.2.1); have n3 := Aside0.mk (HB.out.trans hd.2.2); clear HS HK HB; have HS := n1; have HK := n2; have HB := n3; clear n1 n2 n3; clear hd))
  go_returns
  exact ⟨rfl, HS.out, HK.out, HB.out⟩
end Go.Proofs.YtmjilokgpgajjaaGreat.Th

