/- The five signs with a short escape have the letters that the law names; the law takes no input, and there is no condition. -/
import Derived.Test.YtmhngpihkaignaaRows
import Derived.Test.YtmhngpihkaignaaOwnMark
import Derived.Test.YtmhngpihkaignaaPFnJSShortx0
import Derived.ProofKit
import Derived.OpenShut
import Derived.ShutString
import Derived.ChangeOld
import Derived.Below
namespace Go.Proofs.Ytmhngpihkaignaa.OwnShort
open Go.Proofs.Ytmhngpihkaignaa.OwnMark Go.RowKit Go.Proofs.YtmhngpihkaignaaW.PrintWords Go.Proofs.YtmhngpihkaignaaW.PrintLast Go.Proofs.YtmhngpihkaignaaW.PrintMore
open Go.ChangeShapes Go.WideShapes Go.ChangeAt

theorem esc34 (w : World) : Calls Try.prog 17 #[.int .u8 34] w fun e w' => e = .returned (.int .u8 34) ∧ w' = w := by
  go_enter Try.func17, Try.ntmps17
  go_wp2
  go_ret
  exact ⟨rfl, rfl⟩
theorem esc92 (w : World) : Calls Try.prog 17 #[.int .u8 92] w fun e w' => e = .returned (.int .u8 92) ∧ w' = w := by
  go_enter Try.func17, Try.ntmps17
  go_wp2
  go_ret
  exact ⟨rfl, rfl⟩
theorem esc10 (w : World) : Calls Try.prog 17 #[.int .u8 10] w fun e w' => e = .returned (.int .u8 110) ∧ w' = w := by
  go_enter Try.func17, Try.ntmps17
  go_wp2
  go_ret
  exact ⟨rfl, rfl⟩
theorem esc13 (w : World) : Calls Try.prog 17 #[.int .u8 13] w fun e w' => e = .returned (.int .u8 114) ∧ w' = w := by
  go_enter Try.func17, Try.ntmps17
  go_wp2
  go_ret
  exact ⟨rfl, rfl⟩
theorem esc9 (w : World) : Calls Try.prog 17 #[.int .u8 9] w fun e w' => e = .returned (.int .u8 116) ∧ w' = w := by
  go_enter Try.func17, Try.ntmps17
  go_wp2
  go_ret
  exact ⟨rfl, rfl⟩
set_option maxHeartbeats 4000000 in
set_option maxRecDepth 100000 in
theorem walk (w : World) :
    Calls Try.prog 5 #[] w fun e w' => e = .returned (.bool true) ∧ Below w.heap.size w w' := by
  have HB := Aside0.mk (Below.refl w.heap.size w)
  obtain ⟨y, hy, hl1, hl2⟩ : ∃ y : List Int, Aside0 (y = [34, 92, 10, 13, 9]) ∧ 5 ≤ y.length ∧ y.length ≤ 5 := ⟨_, ⟨rfl⟩, by simp, by simp⟩
  go_enter Try.func5, Try.ntmps5
  go_wp2_with (((with_reducible refine gate_dst (N := 3) rfl ?_); (try (refine gate_guard (by rfl) ?_; dsimp only)); refine mark_lit (xs := y) (w0 := w) Try.underlying31 Try.underlying5 (by omega) (by omega) ?hg (N := 3) ?hd HB.out ?hr ?_; (case hd => rfl); (case hg => rfl); (case hr => rw [hy.out]; first | (go_simp; done) | (go_simp; rfl)); intro A c w1 w2 hcv hC hle hb hB2; have HC := Aside0.mk hC; have HL := Aside0.mk hle; clear HB; have HB := Aside0.mk hB2; clear hB2 hb hC hle))
  go_loopw [6] (fun i wr => ∃ k : Nat, k ≤ 5 ∧ i = .int .i64 k ∧ Aside0 (Kd.C (Kd.int .u8) wr A y.length y) ∧ Aside0 (Below w.heap.size w wr)) (fun i _ => 5 - (intOf i).toNat)
  case atStart => exact ⟨0, by omega, rfl, HC, HB⟩
  case round =>
    clear HC HB hcv
    obtain ⟨k, hk, rfl, HC, HB⟩ := hrel
    by_cases h5 : k = 5
    · subst h5
      go_wp2
      go_ret
      exact ⟨rfl, HB.out⟩
    · have hk5 : k < 5 := by omega
      have hcell : ∃ ad, A = some ad ∧ wr.cell? (ad.add k) = some (.int .u8 (rd y (k : Int))) := by
        obtain ⟨ad, e1, e2⟩ := Kd.at_int HC.out (k : Int) (by omega) (by omega)
        exact ⟨ad, e1, by simpa using e2⟩
      obtain ⟨⟨g, o, s⟩, rfl, hcell⟩ := hcell
      have hyk : y = [34, 92, 10, 13, 9] := hy.out
      match k, hk5 with
      | 0, _ =>
        have hc : wr.cell? ⟨g, o, s⟩ = some (.int .u8 34) := by rw [hyk] at hcell; exact hcell
        clear hcell hyk
        go_wp2_with fail
        go_quiet ((go_at_call 17; exact Calls.quiet_of_same (esc34 _)))
        go_wp2_with fail
        go_roundw
        case rel => exact ⟨1, by omega, rfl, ⟨Kd.C_drewN HC.out _⟩, ⟨pw_below_drewN HB.out _⟩⟩
        case measure => simp [intOf]
      | 1, _ =>
        have hc : wr.cell? ⟨g, o + 1, none⟩ = some (.int .u8 92) := by rw [hyk] at hcell; exact hcell
        clear hcell hyk
        go_wp2_with fail
        go_quiet ((go_at_call 17; exact Calls.quiet_of_same (esc92 _)))
        go_wp2_with fail
        go_roundw
        case rel => exact ⟨2, by omega, rfl, ⟨Kd.C_drewN HC.out _⟩, ⟨pw_below_drewN HB.out _⟩⟩
        case measure => simp [intOf]
      | 2, _ =>
        have hc : wr.cell? ⟨g, o + 2, none⟩ = some (.int .u8 10) := by rw [hyk] at hcell; exact hcell
        clear hcell hyk
        go_wp2_with fail
        go_quiet ((go_at_call 17; exact Calls.quiet_of_same (esc10 _)))
        go_wp2_with fail
        go_roundw
        case rel => exact ⟨3, by omega, rfl, ⟨Kd.C_drewN HC.out _⟩, ⟨pw_below_drewN HB.out _⟩⟩
        case measure => simp [intOf]
      | 3, _ =>
        have hc : wr.cell? ⟨g, o + 3, none⟩ = some (.int .u8 13) := by rw [hyk] at hcell; exact hcell
        clear hcell hyk
        go_wp2_with fail
        go_quiet ((go_at_call 17; exact Calls.quiet_of_same (esc13 _)))
        go_wp2_with fail
        go_roundw
        case rel => exact ⟨4, by omega, rfl, ⟨Kd.C_drewN HC.out _⟩, ⟨pw_below_drewN HB.out _⟩⟩
        case measure => simp [intOf]
      | 4, _ =>
        have hc : wr.cell? ⟨g, o + 4, none⟩ = some (.int .u8 9) := by rw [hyk] at hcell; exact hcell
        clear hcell hyk
        go_wp2_with fail
        go_quiet ((go_at_call 17; exact Calls.quiet_of_same (esc9 _)))
        go_wp2_with fail
        go_roundw
        case rel => exact ⟨5, by omega, rfl, ⟨Kd.C_drewN HC.out _⟩, ⟨pw_below_drewN HB.out _⟩⟩
        case measure => simp [intOf]
theorem own : ownKnob Try.prog.godebug = none := by kernel_rfl

set_option maxRecDepth 100000 in
theorem lifted (os : Os) (started : os.Started) (H : Type) (enc : TypeId × Value → H) :
    ReturnsInHanded {} Try.checked os 5 .any (Rows.fnJSShortSpec.pre6 enc Try.prog Try.f5 Rows.fnJSShortRow.domain false) (Rows.fnJSShortSpec.post enc Try.prog Try.f5 false true false false) := by
  refine returnsInHanded_of_change (C := Try.checked) own started (by kernel_rfl) Try.func5
    (ChangeSpec.witness6 (enc := enc) (C := Try.checked) false ⟨#[], #[], []⟩ 8 (by kernel_rfl) (by kernel_rfl) (by kernel_rfl) (by kernel_rfl)) ?_
  intro W base args ds gs before hval0 hW hcnd _
  have hval : ∀ (j : Nat) t v, Try.f5.params[j]? = some t → args[j]? = some v → Value.okWide Try.prog W .any base t v := hval0
  have hW' := hW
  obtain ⟨p, q, hA0, hV, rfl, hfz, hnd⟩ := hW
  have hA : DataW.TrodAll enc Try.prog W 0 (fun _ => true) true Try.f5.params.toList args.toList ds p := hA0
  rw [Try.params5] at hA hval
  obtain ⟨rfl, rfl, rfl⟩ := trodAll_none hA
  obtain ⟨rfl, rfl⟩ := trodVars_none hV
  clear hA0 hval0
  refine (walk W).mono fun e W' ⟨he, bel⟩ => ?_
  subst he
  exact ⟨_, rfl, _, _, _, [], _, [], hW', trodAll_mk1 (shut_bool Try.underlying4 _), trodAll_mk0, rfl, bel.frame _, fun h => by cases h⟩

theorem over : Rows.fnJSShortRow.holds Try.pinned (OpenSpec.ofChange Rows.fnJSShortSpec) :=
  OpenClaim.holds_of_wide 5 Try.f5 rfl rfl rfl rfl rfl rfl rfl ⟨rfl, rfl, rfl, rfl, rfl⟩ rfl rfl rfl rfl rfl (by kernel_rfl) Try.func5 (by kernel_rfl)
    (of_decide_eq_true (by kernel_rfl)) (by unfold Func.isWrapper; first | (rw [if_pos (by decide +kernel)]; kernel_rfl) | (rw [if_neg (by decide +kernel)]; exact ⟨rfl, rfl⟩))
    (fun os started H enc _ => lifted os started H enc)

theorem proved : Rows.FnJSShortSaid := over
end Go.Proofs.Ytmhngpihkaignaa.OwnShort
namespace Go.Proofs.Ytmhngpihkaignaa
/-- The statement, under a short name. -/
theorem fnJSShort_holds : Rows.FnJSShortSaid := OwnShort.proved
end Go.Proofs.Ytmhngpihkaignaa
