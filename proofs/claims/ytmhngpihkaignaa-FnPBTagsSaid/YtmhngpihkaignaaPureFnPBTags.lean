/- A tag that is made of a field's number and a wire type tells both again, and any tag is the tag of what it tells; for all three numbers, with no condition. -/
import Derived.Laws.BitsLemmas
import Derived.Laws.Bits64
import Derived.OpenShut
import Derived.Test.YtmhngpihkaignaaPFnPBTagsx1
namespace Go.Proofs.Ytmhngpihkaignaa.Pure
open Go.RowKit Go.Proofs.Ytmhngpihkaignaa.PFnPBTags Go.Proofs.YtmhngpihkaignaaW.PrintWords Go.Proofs.YtmhngpihkaignaaW.PrintLast

theorem or8 (x y : Int) (h0 : 0 ≤ x) (h1 : x < 18446744073709551616) (h2 : x % 8 = 0) (h3 : 0 ≤ y) (h4 : y < 8) : Go.bits .or .u64 x y = x + y :=
  bits_join .u64 64 (by decide) (fun n a b => by rw [IntKind.wrap_u64]; omega) 3 x y h0 h2 h1 h3 h4 (by omega)
theorem and7 (x : Int) (h0 : 0 ≤ x) (h1 : x < 18446744073709551616) : Go.bits .and .u64 x 7 = x % 8 :=
  bits_mask .u64 64 (by decide) (fun n a b => by rw [IntKind.wrap_u64]; omega) 3 (by decide) x h0 h1

/-- The plain statement: ∀ (a0 : Int) (a1 : Int) (a2 : Int), (Lit.int .u64 a0).wf = true → (Lit.int .u8 a1).wf = true → (Lit.int .u64 a2).wf = true → laws_FnPBTags.f a0 a1 a2 = some true
What it reaches (each with k first where it has rounds; `.mono`: more rounds tell the same; `.l0`, ..: its loops, with `.mono_l`): proto_EncodeTag.f, impl_PBTag.f, proto_DecodeTag.f, impl_PBUntag.f, laws_FnPBTags.f -/
theorem FnPBTags : laws_FnPBTags.Pure := by
  intro a0 a1 a2 h0 h1 h2
  have b0 := bounds_u64 h0
  have b1 := bounds_u8 h1
  have b2 := bounds_u64 h2
  have e1 : IntKind.u64.wrap a1 = a1 := by rw [IntKind.wrap_u64]; omega
  have e2 : Int.tmod a1 8 = a1 % 8 := Int.tmod_eq_emod_of_nonneg b1.1
  have e3 : IntKind.u64.wrap (a0 / 8 * 8) = a0 / 8 * 8 := by rw [IntKind.wrap_u64]; omega
  have e4 : IntKind.u64.wrap (a2 / 8 * 8) = a2 / 8 * 8 := by rw [IntKind.wrap_u64]; omega
  have e5 : Go.bits .or .u64 (a0 / 8 * 8) (a1 % 8) = a0 / 8 * 8 + a1 % 8 := or8 _ _ (by omega) (by omega) (by omega) (by omega) (by omega)
  have e6 : Go.bits .or .u64 (a2 / 8 * 8) (a2 % 8) = a2 / 8 * 8 + a2 % 8 := or8 _ _ (by omega) (by omega) (by omega) (by omega) (by omega)
  have e7 : Go.bits .and .u64 (a0 / 8 * 8 + a1 % 8) 7 = (a0 / 8 * 8 + a1 % 8) % 8 := and7 _ (by omega) (by omega)
  have e8 : Go.bits .and .u64 a2 7 = a2 % 8 := and7 _ b2.1 (by omega)
  unfold laws_FnPBTags.f impl_PBTag.f proto_EncodeTag.f impl_PBUntag.f proto_DecodeTag.f
  rw [e1, e2, e3, e5]
  simp only [Option.bind_some]
  rw [e7, e8, if_pos trivial, if_pos (by omega), if_pos (by omega)]
  rw [e4, e6, if_pos (by omega)]
  rw [decide_eq_true (by omega)]

end Go.Proofs.Ytmhngpihkaignaa.Pure
