/- The card of FnJSInts: the listed package variable holds what the program's text lays (the card's tie), and there is no other condition. -/
import Derived.Test.YtekmminmgjoabaaDoorFJSInts
namespace Go.Proofs.YtekmminmgjoabaaDoor.OwnJSInts
open Go.ChangeShapes Go.WideShapes Go.ChangeAt Go.RowKit
set_option linter.unusedVariables false

theorem card_holds : Rows.FnJSIntsCardSaid :=
  Claim7.holds_tied_plain_at .later [] [.data, .data, .data] true (true, "2e7c9ff87a5e64a7b979f2c7f2ef070ceb8ba5df5714f711d97610625146eaa4") false
    over (fun _ h => by cases h) (by kernel_rfl) (fun _ h => by cases h) fnJSInts_row_tie rfl ⟨rfl, rfl⟩ (by kernel_rfl) rfl
    (fun f fn hf hfn => by
      obtain rfl : f = 15 := Option.some.inj ((show Tryd.prog.funcNamed "given.example/pub-burnisher/laws.FnJSInts" = some 15 from named_).symm.trans hf) |>.symm
      obtain rfl : fn = Tryd.f15 := (Option.some.inj (Tryd.func15.symm.trans hfn)).symm
      exact ⟨by kernel_rfl, fun j t ht => by
        rw [Tryd.params15] at ht
        have hm : t ∈ [2, 65, 5] := by simpa using Array.mem_of_getElem? ht
        have hall : ([2, 65, 5].all fun u => !Tryd.prog.wantsStandIn u) = true := by kernel_rfl
        exact (show Tryd.prog.wantsStandIn t = false by simpa using List.all_eq_true.1 hall t hm)⟩)
    (by kernel_rfl)
end Go.Proofs.YtekmminmgjoabaaDoor.OwnJSInts
namespace Go.Proofs.YtekmminmgjoabaaDoor
/-- The card's statement, under a short name. -/
theorem fnJSInts_holds : Rows.FnJSIntsCardSaid := OwnJSInts.card_holds
end Go.Proofs.YtekmminmgjoabaaDoor
