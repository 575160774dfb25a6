/- The compact protocol alone has both features; for every number of a protocol, with no condition. -/
import Derived.Test.YtmjilokgpgajjaaRows
import Derived.WalkKit
import Derived.ProofKit
import Derived.OpenShut
import Derived.ShutString
import Derived.ChangeOld
import Derived.Below
namespace Go.Proofs.Ytmjilokgpgajjaa.OwnFeat
open Go.ChangeShapes Go.WideShapes Go.ChangeAt Go.RowKit

theorem m47 (a : Addr) (w : World) : Sem.run Try.prog (method 315 73 (.pointer (some a)) "Features") w = .ok (47, .pointer (some a)) w := by kernel_rfl
theorem m44 (a : Addr) (w : World) : Sem.run Try.prog (method 315 70 (.pointer (some a)) "Features") w = .ok (44, .pointer (some a)) w := by kernel_rfl
set_option maxHeartbeats 1000000 in
set_option maxRecDepth 100000 in
theorem feat2 (w : World) : Calls Try.prog 7 #[.int .i64 2] w fun e w' => e = .returned (.tuple #[.bool true, .bool true]) ∧ Below w.heap.size w w' := by
  have hm := m47
  go_enter Try.func7, Try.ntmps7
  go_wp2_with (first | (go_at_call 16; go_in) | (go_at_call 47; go_in))
  go_ret2
  exact ⟨rfl, (Below.refl _ _).alloc (Nat.le_refl _) _⟩
set_option maxHeartbeats 1000000 in
set_option maxRecDepth 100000 in
theorem feat1 (w : World) : Calls Try.prog 7 #[.int .i64 1] w fun e w' => e = .returned (.tuple #[.bool false, .bool false]) ∧ Below w.heap.size w w' := by
  have hm := m44
  go_enter Try.func7, Try.ntmps7
  go_wp2_with (first | (go_at_call 16; go_in) | (go_at_call 44; go_in))
  go_ret2
  exact ⟨rfl, (Below.refl _ _).alloc (Nat.le_refl _) _⟩
set_option maxHeartbeats 1000000 in
set_option maxRecDepth 100000 in
theorem feat0 (w : World) : Calls Try.prog 7 #[.int .i64 0] w fun e w' => e = .returned (.tuple #[.bool false, .bool false]) ∧ Below w.heap.size w w' := by
  have hm := m44
  go_enter Try.func7, Try.ntmps7
  go_wp2_with (first | (go_at_call 16; go_in) | (go_at_call 44; go_in))
  go_ret2
  exact ⟨rfl, (Below.refl _ _).alloc (Nat.le_refl _) _⟩
theorem feat01 (n : Int) (h0 : 0 ≤ n) (h1 : n < 2) (w : World) : Calls Try.prog 7 #[.int .i64 n] w fun e w' => e = .returned (.tuple #[.bool false, .bool false]) ∧ Below w.heap.size w w' := by
  by_cases h : n = 0
  · subst h; exact feat0 w
  · obtain rfl : n = 1 := by omega
    exact feat1 w
set_option maxHeartbeats 1000000 in
set_option maxRecDepth 100000 in
theorem walk (a0 : Int) (w0 : (Lit.int .u8 a0).wf = true) (w : World) :
    Calls Try.prog 3 #[.int .u8 a0] w fun e w' => e = .returned (.bool true) ∧ Below w.heap.size w w' := by
  obtain ⟨b0, b1⟩ := bounds_u8 w0
  clear w0
  go_enter Try.func3, Try.ntmps3
  go_wp2_with fail
  refine (feat2 _).mono ?_
  rintro e w1 ⟨rfl, hb1⟩
  go_wp2_with fail
  refine (feat01 _ (by omega) (by omega) _).mono ?_
  rintro e w2 ⟨rfl, hb2⟩
  go_wp2_with fail
  go_ret
  exact ⟨rfl, hb1.trans (hb2.mono hb1.size)⟩
theorem own : ownKnob Try.prog.godebug = none := by kernel_rfl

set_option maxRecDepth 100000 in
theorem lifted (os : Os) (started : os.Started) (H : Type) (enc : TypeId × Value → H) :
    ReturnsInHanded {} Try.checked os 3 .any (Rows.fnTHFeaturesSpec.pre6 enc Try.prog Try.f3 Rows.fnTHFeaturesRow.domain false) (Rows.fnTHFeaturesSpec.post enc Try.prog Try.f3 false true false false) := by
  refine returnsInHanded_of_change (C := Try.checked) own started (by kernel_rfl) Try.func3
    (ChangeSpec.witness6 (enc := enc) (C := Try.checked) false ⟨#[], #[.int .u8 0], []⟩ 8 (by kernel_rfl) (by kernel_rfl) (by kernel_rfl) (by kernel_rfl)) ?_
  intro W base args ds gs before hval0 hW hcnd _
  have hval : ∀ (j : Nat) t v, Try.f3.params[j]? = some t → args[j]? = some v → Value.okWide Try.prog W .any base t v := hval0
  have hW' := hW
  obtain ⟨p, q, hA0, hV, rfl, hfz, hnd⟩ := hW
  have hA : DataW.TrodAll enc Try.prog W 0 (fun _ => true) true Try.f3.params.toList args.toList ds p := hA0
  rw [Try.params3] at hA hval
  obtain ⟨v0, vs0, d0, ds0, p0, q0, hargs, rfl, rfl, h0, r0⟩ := trodAll_cons hA
  obtain ⟨rfl, rfl, rfl⟩ := trodAll_nil r0
  obtain rfl : args = #[v0] := by cases args; simp_all
  obtain ⟨rfl, rfl⟩ := trodVars_none hV
  obtain ⟨a0, rfl, rfl, rfl, w0⟩ := open_int Try.underlying5 (hval 0 5 v0 rfl rfl) h0
  clear hA0 hval0
  refine (walk a0 w0 W).mono fun e W' ⟨he, bel⟩ => ?_
  subst he
  exact ⟨_, rfl, _, _, _, [], _, [], hW', trodAll_mk1 (shut_bool Try.underlying4 _), (trodAll_cons_mk (shut_int Try.underlying5 w0) trodAll_mk0), rfl, bel.frame _, fun h => by cases h⟩

theorem over : Rows.fnTHFeaturesRow.holds Try.pinned (OpenSpec.ofChange Rows.fnTHFeaturesSpec) :=
  OpenClaim.holds_of_wide 3 Try.f3 rfl rfl rfl rfl rfl rfl rfl ⟨rfl, rfl, rfl, rfl, rfl⟩ rfl rfl rfl rfl rfl (by kernel_rfl) Try.func3 (by kernel_rfl)
    (of_decide_eq_true (by kernel_rfl)) (by unfold Func.isWrapper; first | (rw [if_pos (by decide +kernel)]; kernel_rfl) | (rw [if_neg (by decide +kernel)]; exact ⟨rfl, rfl⟩))
    (fun os started H enc _ => lifted os started H enc)

theorem proved : Rows.FnTHFeaturesSaid := over
end Go.Proofs.Ytmjilokgpgajjaa.OwnFeat
namespace Go.Proofs.Ytmjilokgpgajjaa
/-- The statement, under a short name. -/
theorem fnTHFeatures_holds : Rows.FnTHFeaturesSaid := OwnFeat.proved
end Go.Proofs.Ytmjilokgpgajjaa
