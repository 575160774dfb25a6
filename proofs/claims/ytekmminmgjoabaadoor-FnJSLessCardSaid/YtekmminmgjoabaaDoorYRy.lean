/- The class of a kind. -/
import Derived.Test.YtekmminmgjoabaaDoorYKl
import Derived.Test.YtekmminmgjoabaaDoorYKa
namespace Go.Proofs.YtekmminmgjoabaaDoor.Js
open Go.RowKit Go.Proofs.YtekmminmgjoabaaDoorW.PrintWords Go.Proofs.YtekmminmgjoabaaDoorW.PrintLast Go.Proofs.YtekmminmgjoabaaDoorW.PrintMore
set_option linter.unusedVariables false
set_option linter.unusedSimpArgs false
theorem len_calls (x : Int) (n : Nat) (w : World) (h0 : 0 ≤ x) (h1 : x ≤ 255) (hn : Lib.bitLen x.toNat = n) : Calls Tryd.prog 135 #[.int .u64 x] w fun e w' => e = .returned (.int .i64 (n : Int)) ∧ w = w' := by
  have HN := Aside0.mk hn
  clear hn
  go_enter Tryd.func135, Tryd.ntmps135
  go_wp2_with (go_at_call 141; (with_reducible refine (PbLen.bits_Len64 _ _ (by omega) (by omega)).mono ?_); rintro e w1 ⟨rfl, rfl⟩)
  go_ret
  exact ⟨congrArg (fun n : Nat => Ending.returned (Value.int .i64 (n : Int))) HN.out, rfl⟩
/-- A kind's class, by numbers: null, truth values, numbers, strings, arrays, objects; 0 has none. -/
def Cls (k c : Int) : Prop := (k = 0 ∧ c = 0) ∨ (k = 1 ∧ c = 1) ∨ (k = 2 ∧ c = 2) ∨ (k = 3 ∧ c = 2) ∨ (k = 5 ∧ c = 3) ∨ (k = 6 ∧ c = 3) ∨ (k = 7 ∧ c = 3) ∨ (k = 8 ∧ c = 4) ∨ (k = 9 ∧ c = 4) ∨ (k = 16 ∧ c = 5) ∨ (k = 32 ∧ c = 6)
theorem kclass (k : Int) (n : Nat) (v : Int) (w : World) (h0 : 0 ≤ k) (h1 : k ≤ 255) (hn : Lib.bitLen k.toNat = n) (hs : 0 ≤ IntKind.u64.wrap (wrap64 ((n : Int) - 1))) (hv : IntKind.u64.wrap (2 ^ min (IntKind.u64.wrap (wrap64 ((n : Int) - 1))).toNat 64) = v) :
    Calls Tryd.prog 96 #[.int .u64 k] w fun e w' => e = .returned (.int .u64 v) ∧ w = w' := by
  have HN := Aside0.mk hn
  have HV := Aside0.mk hv
  clear hn hv
  go_enter Tryd.func96, Tryd.ntmps96
  go_wp2_with (go_at_call 135; (with_reducible refine (len_calls _ n _ (by omega) (by omega) HN.out).mono ?_); rintro e w1 ⟨rfl, rfl⟩)
  go_ret
  exact ⟨congrArg (fun x => Ending.returned (Value.int .u64 x)) HV.out, rfl⟩
set_option maxHeartbeats 4000000 in
theorem class_of (k : Int) (v c : Int) (w : World) (hk : ∀ w : World, Calls Tryd.prog 96 #[.int .u64 k] w fun e w' => e = .returned (.int .u64 v) ∧ w = w') (h : (v = 0 ∧ c = 0) ∨ (v = 1 ∧ c = 1) ∨ (v = 2 ∧ c = 2) ∨ (v = 4 ∧ c = 3) ∨ (v = 8 ∧ c = 4) ∨ (v = 16 ∧ c = 5) ∨ (v = 32 ∧ c = 6)) :
    Calls Tryd.prog 61 #[.int .u64 k] w fun e w' => e = .returned (.int .i64 c) ∧ w = w' := by
  have HK := Aside0.mk hk
  clear hk
  rcases h with ⟨rfl, rfl⟩ | ⟨rfl, rfl⟩ | ⟨rfl, rfl⟩ | ⟨rfl, rfl⟩ | ⟨rfl, rfl⟩ | ⟨rfl, rfl⟩ | ⟨rfl, rfl⟩
  all_goals
    go_enter Tryd.func61, Tryd.ntmps61
    go_wp2_with (go_at_call 96; (with_reducible refine (HK.out _).mono ?_); rintro e w1 ⟨rfl, rfl⟩)
    go_ret
    exact ⟨rfl, rfl⟩
theorem class_calls (k c : Int) (w : World) (h : Cls k c) : Calls Tryd.prog 61 #[.int .u64 k] w fun e w' => e = .returned (.int .i64 c) ∧ w = w' := by
  rcases h with ⟨rfl, rfl⟩ | ⟨rfl, rfl⟩ | ⟨rfl, rfl⟩ | ⟨rfl, rfl⟩ | ⟨rfl, rfl⟩ | ⟨rfl, rfl⟩ | ⟨rfl, rfl⟩ | ⟨rfl, rfl⟩ | ⟨rfl, rfl⟩ | ⟨rfl, rfl⟩ | ⟨rfl, rfl⟩
  · exact class_of 0 0 0 w (fun w => kclass 0 0 0 w (by decide) (by decide) (by decide +kernel) (by decide +kernel) (by decide +kernel)) (by decide)
  · exact class_of 1 1 1 w (fun w => kclass 1 1 1 w (by decide) (by decide) (by decide +kernel) (by decide +kernel) (by decide +kernel)) (by decide)
  · exact class_of 2 2 2 w (fun w => kclass 2 2 2 w (by decide) (by decide) (by decide +kernel) (by decide +kernel) (by decide +kernel)) (by decide)
  · exact class_of 3 2 2 w (fun w => kclass 3 2 2 w (by decide) (by decide) (by decide +kernel) (by decide +kernel) (by decide +kernel)) (by decide)
  · exact class_of 5 4 3 w (fun w => kclass 5 3 4 w (by decide) (by decide) (by decide +kernel) (by decide +kernel) (by decide +kernel)) (by decide)
  · exact class_of 6 4 3 w (fun w => kclass 6 3 4 w (by decide) (by decide) (by decide +kernel) (by decide +kernel) (by decide +kernel)) (by decide)
  · exact class_of 7 4 3 w (fun w => kclass 7 3 4 w (by decide) (by decide) (by decide +kernel) (by decide +kernel) (by decide +kernel)) (by decide)
  · exact class_of 8 8 4 w (fun w => kclass 8 4 8 w (by decide) (by decide) (by decide +kernel) (by decide +kernel) (by decide +kernel)) (by decide)
  · exact class_of 9 8 4 w (fun w => kclass 9 4 8 w (by decide) (by decide) (by decide +kernel) (by decide +kernel) (by decide +kernel)) (by decide)
  · exact class_of 16 16 5 w (fun w => kclass 16 5 16 w (by decide) (by decide) (by decide +kernel) (by decide +kernel) (by decide +kernel)) (by decide)
  · exact class_of 32 32 6 w (fun w => kclass 32 6 32 w (by decide) (by decide) (by decide +kernel) (by decide +kernel) (by decide +kernel)) (by decide)
end Go.Proofs.YtekmminmgjoabaaDoor.Js

