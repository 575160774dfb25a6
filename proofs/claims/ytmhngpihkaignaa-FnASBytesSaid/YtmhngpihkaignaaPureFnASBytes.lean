/- Each byte, and each character from 0 on, is told as valid, and as one that can be printed, as its number says; for every byte and every number, with no condition. -/
import Derived.Test.YtmhngpihkaignaaMFnASBytesx2
import Derived.Laws.BitsLemmas
import Derived.OpenShut
import Derived.Lib.Strings
namespace Go.Proofs.Ytmhngpihkaignaa.Pure
open Go.RowKit Go.Proofs.Ytmhngpihkaignaa.PFnASBytes Go.Proofs.YtmhngpihkaignaaW.PrintWords Go.Proofs.YtmhngpihkaignaaW.PrintLast
set_option linter.unusedVariables false
/-- The plain statement: ∀ (a0 : Int) (a1 : Int), (Lit.int .u8 a0).wf = true → (Lit.int .i32 a1).wf = true → ∃ k, laws_FnASBytes.f k a0 a1 = some true
What it reaches (each with k first where it has rounds; `.mono`: more rounds tell the same; `.l0`, ..: its loops, with `.mono_l`): ascii_lower.f, ascii_EqualFoldString_63.f, ascii_EqualFoldString_42.f, ascii_EqualFold_64.f, ascii_EqualFold_43.f, impl_ASFold.f, ascii_ValidByte_69.f, ascii_ValidString_65.f, ascii_ValidString_45.f, ascii_Valid_66.f, ascii_Valid_46.f, impl_ASValid.f, ascii_ValidPrintByte_70.f, ascii_ValidPrintString_67.f, ascii_ValidPrintString_47.f, ascii_ValidPrint_68.f, ascii_ValidPrint_48.f, impl_ASPrint.f, laws_asAwake.f, ascii_ValidByte_49.f, ascii_ValidPrintByte_50.f, impl_ASByte.f, ascii_ValidRune_71.f, ascii_ValidRune_51.f, ascii_ValidPrintRune_72.f, ascii_ValidPrintRune_52.f, impl_ASRune.f, laws_FnASBytes.f -/
theorem FnASBytes : laws_FnASBytes.Pure := by
  intro a0 a1 h0 h1
  refine ⟨6, ?_⟩
  have e0 : laws_asAwake.f 6 = some true := by decide +kernel
  unfold laws_FnASBytes.f impl_ASByte.f impl_ASRune.f ascii_ValidByte_49.f ascii_ValidPrintByte_50.f ascii_ValidByte_69.f ascii_ValidPrintByte_70.f ascii_ValidRune_51.f ascii_ValidRune_71.f ascii_ValidPrintRune_52.f ascii_ValidPrintRune_72.f
  generalize Go.bits .and .i32 a1 2147483647 = x
  rw [e0]
  simp only [Option.bind_some]
  have f1 : (decide (a0 ≤ 127) == decide (a0 < 128)) = true := by
    rw [beq_iff_eq, decide_eq_decide]; omega
  have f2 : (decide (x ≤ 127) == decide (x < 128)) = true := by
    rw [beq_iff_eq, decide_eq_decide]; omega
  by_cases h2 : 32 ≤ a0 <;> by_cases h3 : 32 ≤ x <;> simp only [h2, h3, if_true, if_false, Option.bind_some, f1, f2, beq_self_eq_true]

end Go.Proofs.Ytmhngpihkaignaa.Pure
