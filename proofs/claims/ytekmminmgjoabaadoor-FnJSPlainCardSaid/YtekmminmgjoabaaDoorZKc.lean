/- The maker's numbers. -/
import Derived.Test.YtekmminmgjoabaaDoorZKb
import Derived.Deep.RegionWith
namespace Go.Proofs.YtekmminmgjoabaaDoor.Js
open Go.RowKit Go.Proofs.YtekmminmgjoabaaDoorW.PrintWords Go.Proofs.YtekmminmgjoabaaDoorW.PrintLast Go.Proofs.YtekmminmgjoabaaDoorW.PrintMore
set_option linter.unusedVariables false
set_option linter.unusedSimpArgs false
def bs (l : List UInt8) : ByteArray := ⟨l.toArray⟩
end Go.Proofs.YtekmminmgjoabaaDoor.Js

