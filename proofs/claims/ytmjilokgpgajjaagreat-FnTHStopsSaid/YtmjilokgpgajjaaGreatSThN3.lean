/- Merged by merge.py (wip/tpl) out of ThBack, ThRr: Written by thback.py (wip/tpl): what is read of a call that was written. Written by thrr.py (wip/tpl): what is read of each call; wrRead tells it. -/
import Derived.Test.YtmjilokgpgajjaaGreatSThM1
import Derived.RegionTactic
import Derived.BigQuiet
import Derived.Deep.QuietTactic
import Derived.Handy
import Derived.Test.YtmjilokgpgajjaaGreatSThN2
import Derived.Test.YtmjilokgpgajjaaGreatSThRgB
import Derived.Test.YtmjilokgpgajjaaGreatSThRgE
import Derived.Test.YtmjilokgpgajjaaGreatSThM8
namespace Go.Proofs.YtmjilokgpgajjaaGreat.Th
open Go.RowKit Go.Proofs.YtmjilokgpgajjaaGreatW.PrintWords Go.Proofs.YtmjilokgpgajjaaGreatW.PrintLast Go.Proofs.YtmjilokgpgajjaaGreatW.PrintMore
set_option linter.unusedVariables false
set_option linter.unusedSimpArgs false
/-- wrRead tells it. -/
def Bk (p : Int) (c c' : Cl) : Prop := ∀ w : World, Calls Tryz.prog 14 #[.int .i64 p, .agg #[.int .i64 c.op, .int .i64 c.n, .string c.S, .int .i64 c.a, .int .i64 c.b, .bool c.d]] w fun e w' => e = .returned (.agg #[.int .i64 c'.op, .int .i64 c'.n, .string c'.S, .int .i64 c'.a, .int .i64 c'.b, .bool c'.d]) ∧ Below w.heap.size w w'
end Go.Proofs.YtmjilokgpgajjaaGreat.Th

namespace Go.Proofs.YtmjilokgpgajjaaGreat.Th
open Go.RowKit Go.Proofs.YtmjilokgpgajjaaGreatW.PrintWords Go.Proofs.YtmjilokgpgajjaaGreatW.PrintLast Go.Proofs.YtmjilokgpgajjaaGreatW.PrintMore
set_option linter.unusedVariables false
set_option linter.unusedSimpArgs false
/-- A call is read. -/
def Rr (it off SZ : Nat) (op : Int) (c : Cl) (zs : List Int) : Prop := ∀ (w : World) (base Rb Rd T : Nat) (A : Option Addr) (D : List Int) (C i : Nat), Sr w base Rb Rd T off SZ A D C i → At D i zs → Calls Tryz.prog 18 #[.iface it (.pointer (some ⟨Rd, 0, none⟩)), .int .i64 op] w fun e w' => e = .returned (.tuple #[.agg #[.int .i64 c.op, .int .i64 c.n, .string c.S, .int .i64 c.a, .int .i64 c.b, .bool c.d], .bool true]) ∧ Done w w' base Rb Rd T off SZ A D C (i + zs.length)
/-- What is read, by a protocol's number. -/
def RdP (p : Int) (op : Int) (c : Cl) (zs : List Int) : Prop := (p ≠ 2 ∧ Rr 157 0 10 op c zs) ∨ (p = 2 ∧ Rr 164 1 11 op c zs)
end Go.Proofs.YtmjilokgpgajjaaGreat.Th

