/- The card of FnJSTexts: the listed package variable holds what the program's text lays (the card's tie), and there is no other condition. -/
import Derived.Test.YtekmminmgjoabaaDoorZFJSTexts
namespace Go.Proofs.YtekmminmgjoabaaDoor.OwnJSTexts
open Go.ChangeShapes Go.WideShapes Go.ChangeAt Go.RowKit
set_option linter.unusedVariables false

theorem card_holds : Rows.FnJSTextsCardSaid :=
  Claim7.holds_tied_plain_at .later [] [.data] true (true, "2e7c9ff87a5e64a7b979f2c7f2ef070ceb8ba5df5714f711d97610625146eaa4") false
    over (fun _ h => by cases h) (by kernel_rfl) (fun _ h => by cases h) fnJSTexts_row_tie rfl ⟨rfl, rfl⟩ (by kernel_rfl) rfl
    (fun f fn hf hfn => by
      obtain rfl : f = 13 := Option.some.inj ((show Tryd.prog.funcNamed "given.example/pub-burnisher/laws.FnJSTexts" = some 13 from named_).symm.trans hf) |>.symm
      obtain rfl : fn = Tryd.f13 := (Option.some.inj (Tryd.func13.symm.trans hfn)).symm
      exact ⟨by kernel_rfl, fun j t ht => by
        rw [Tryd.params13] at ht
        have hm : t ∈ [22, 22] := by simpa using Array.mem_of_getElem? ht
        have hall : ([22, 22].all fun u => !Tryd.prog.wantsStandIn u) = true := by kernel_rfl
        exact (show Tryd.prog.wantsStandIn t = false by simpa using List.all_eq_true.1 hall t hm)⟩)
    (by kernel_rfl)
end Go.Proofs.YtekmminmgjoabaaDoor.OwnJSTexts
namespace Go.Proofs.YtekmminmgjoabaaDoor
/-- The card's statement, under a short name. -/
theorem fnJSTexts_holds : Rows.FnJSTextsCardSaid := OwnJSTexts.card_holds
end Go.Proofs.YtekmminmgjoabaaDoor

