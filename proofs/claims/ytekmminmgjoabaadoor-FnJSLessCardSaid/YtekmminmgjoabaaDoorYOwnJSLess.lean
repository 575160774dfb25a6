/- The card of FnJSLess: the listed package variable holds what the program's text lays (the card's tie), and there is no other condition. -/
import Derived.Test.YtekmminmgjoabaaDoorYFJSLess
namespace Go.Proofs.YtekmminmgjoabaaDoor.OwnJSLess
open Go.ChangeShapes Go.WideShapes Go.ChangeAt Go.RowKit
set_option linter.unusedVariables false

theorem card_holds : Rows.FnJSLessCardSaid :=
  Claim7.holds_tied_plain_at .later [] [.data] true (true, "2e7c9ff87a5e64a7b979f2c7f2ef070ceb8ba5df5714f711d97610625146eaa4") false
    over (fun _ h => by cases h) (by kernel_rfl) (fun _ h => by cases h) fnJSLess_row_tie rfl ⟨rfl, rfl⟩ (by kernel_rfl) rfl
    (fun f fn hf hfn => by
      obtain rfl : f = 12 := Option.some.inj ((show Tryd.prog.funcNamed "given.example/pub-burnisher/laws.FnJSLess" = some 12 from named_).symm.trans hf) |>.symm
      obtain rfl : fn = Tryd.f12 := (Option.some.inj (Tryd.func12.symm.trans hfn)).symm
      exact ⟨by kernel_rfl, fun j t ht => by
        rw [Tryd.params12] at ht
        have hm : t ∈ [22, 54] := by simpa using Array.mem_of_getElem? ht
        have hall : ([22, 54].all fun u => !Tryd.prog.wantsStandIn u) = true := by kernel_rfl
        exact (show Tryd.prog.wantsStandIn t = false by simpa using List.all_eq_true.1 hall t hm)⟩)
    (by kernel_rfl)
end Go.Proofs.YtekmminmgjoabaaDoor.OwnJSLess
namespace Go.Proofs.YtekmminmgjoabaaDoor
/-- The card's statement, under a short name. -/
theorem fnJSLess_holds : Rows.FnJSLessCardSaid := OwnJSLess.card_holds
end Go.Proofs.YtekmminmgjoabaaDoor

