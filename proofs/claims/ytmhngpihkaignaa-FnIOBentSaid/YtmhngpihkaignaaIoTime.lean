/- The law's maker of a time out of numbers: whatever the numbers, its parts lie in their ranges, and nothing that was there is written. -/
import Derived.Test.YtmhngpihkaignaaPFnIOValidx1
import Derived.StillTailTactics
import Derived.OpenShut
import Derived.Deep.RegionWith
import Derived.Laws.BitsAllLaws
import Derived.Deep.DeepCutAuto
import Derived.Handy
namespace Go.Proofs.Ytmhngpihkaignaa.IoTime
open Go.RowKit Go.Proofs.Ytmhngpihkaignaa.PFnIOValid Go.Proofs.YtmhngpihkaignaaW.PrintWords Go.Proofs.YtmhngpihkaignaaW.PrintLast Go.Proofs.YtmhngpihkaignaaW.PrintMore
set_option linter.unusedVariables false

/-- What is known of the time that is made. -/
def Made (w : World) (e : Ending) (w' : World) : Prop := (∃ (Y M D h m s : Int) (bl tm : Bool) (dg pt z o : Int),
  e = .returned (.agg #[.int .i64 Y, .int .i64 M, .int .i64 D, .int .i64 h, .int .i64 m, .int .i64 s, .bool bl, .bool tm, .int .i64 dg, .int .i64 pt, .int .i64 z, .int .i64 o]) ∧
  (1 ≤ Y ∧ Y ≤ 9999) ∧ (1 ≤ M ∧ M ≤ 12) ∧ (1 ≤ D ∧ D ≤ 31) ∧ (0 ≤ h ∧ h < 24) ∧ (0 ≤ m ∧ m < 60) ∧ (0 ≤ s ∧ s < 60) ∧ (0 ≤ dg ∧ dg ≤ 9) ∧ (0 ≤ pt ∧ pt ≤ 65535) ∧ (0 ≤ z ∧ z ≤ 3) ∧ (-840 < o ∧ o < 840)) ∧ Below w.heap.size w w'

def tenP (k : Nat) : Int := (10 : Int) ^ k

theorem tenP0 : tenP 0 = 1 := rfl

theorem pw : ∀ k : Nat, k < 9 → wrap64 (tenP k * 10) = tenP (k + 1) ∧ (1 : Int) < tenP (k + 1) := by decide +kernel

theorem days_is (Y M : Int) : ∃ d, spec_IODays.f Y M = some d ∧ 28 ≤ d ∧ d ≤ 31 := by
  unfold spec_IODays.f
  repeat' split
  all_goals exact ⟨_, rfl, by omega, by omega⟩

set_option maxHeartbeats 4000000 in
set_option maxRecDepth 100000 in
set_option linter.unusedSimpArgs false in
theorem made (n0 n1 n2 n3 n4 n5 n6 n7 zn off : Int) (day : Bool) (w : World)
    (a0 : 0 ≤ n0) (b0 : n0 ≤ 65535) (a1 : 0 ≤ n1) (b1 : n1 ≤ 65535) (a2 : 0 ≤ n2) (b2 : n2 ≤ 65535) (a3 : 0 ≤ n3) (b3 : n3 ≤ 65535) (a4 : 0 ≤ n4) (b4 : n4 ≤ 65535) (a5 : 0 ≤ n5) (b5 : n5 ≤ 65535) (a6 : 0 ≤ n6) (b6 : n6 ≤ 65535) (a7 : 0 ≤ n7) (b7 : n7 ≤ 65535)
    (az : 0 ≤ zn) (bz : zn ≤ 255) (ao : -32768 ≤ off) (bo : off ≤ 32767) :
    Calls Try.prog 33 #[.agg #[.int .u16 n0, .int .u16 n1, .int .u16 n2, .int .u16 n3, .int .u16 n4, .int .u16 n5, .int .u16 n6, .int .u16 n7], .int .u8 zn, .int .i16 off, .bool day] w (Made w) := by
  obtain ⟨dd, hdd, d0, d1⟩ := days_is (1 + n0 % 9999) (1 + n1 % 12)
  have HD := Aside0.mk hdd
  clear hdd
  have q0 : 0 ≤ n6 / 4 := by omega
  have q1 : n6 / 4 ≤ 16383 := by omega
  have q2 : IntKind.u16.wrap (n6.tdiv 4) = n6 / 4 := by rw [Int.tdiv_eq_ediv_of_nonneg a6, IntKind.wrap_u16]; omega
  have q3 : wrap64 (n6 / 4) = n6 / 4 := by unfold wrap64; omega
  have q4 : (n6 / 4).tmod 10 = n6 / 4 % 10 := Int.tmod_eq_emod_of_nonneg q0
  go_enter Try.func33, Try.ntmps33
  go_upto_region 2 with fail
  clear q2 q3 q4
  obtain ⟨Y, hY⟩ : ∃ Y : Int, 1 + n0 % 9999 = Y := ⟨_, rfl⟩
  obtain ⟨M, hM⟩ : ∃ M : Int, 1 + n1 % 12 = M := ⟨_, rfl⟩
  obtain ⟨h, hh⟩ : ∃ h : Int, n3 % 24 = h := ⟨_, rfl⟩
  obtain ⟨m, hm⟩ : ∃ m : Int, n4 % 60 = m := ⟨_, rfl⟩
  obtain ⟨s, hs⟩ : ∃ s : Int, n5 % 60 = s := ⟨_, rfl⟩
  obtain ⟨bl, hbl⟩ : ∃ bl : Bool, (n6 % 4 == 1) = bl := ⟨_, rfl⟩
  obtain ⟨tm, htm⟩ : ∃ tm : Bool, (!day) = tm := ⟨_, rfl⟩
  obtain ⟨dg, hdg⟩ : ∃ dg : Int, n6 / 4 % 10 = dg := ⟨_, rfl⟩
  simp only [hY, hM, hh, hm, hs, hbl, htm, hdg] at HD ⊢
  have Y0 : 1 ≤ Y := by omega
  have Y1 : Y ≤ 9999 := by omega
  have M0 : 1 ≤ M := by omega
  have M1 : M ≤ 12 := by omega
  have h0 : 0 ≤ h := by omega
  have h1 : h < 24 := by omega
  have m0 : 0 ≤ m := by omega
  have m1 : m < 60 := by omega
  have s0 : 0 ≤ s := by omega
  have s1 : s < 60 := by omega
  have g0 : 0 ≤ dg := by omega
  have g1 : dg ≤ 9 := by omega
  clear hY hM hh hm hs hbl htm hdg
  have hDr : 1 ≤ IntKind.i64.wrap (1 + n2 % dd) ∧ IntKind.i64.wrap (1 + n2 % dd) ≤ 31 := by
    have e1 : 0 ≤ n2 % dd := Int.emod_nonneg _ (by omega)
    have e2 : n2 % dd < dd := Int.emod_lt_of_pos _ (by omega)
    rw [IntKind.wrap_i64]
    omega
  go_cut [9] (fun s9 wx => s9 = .pointer (some ⟨w.heap.size + 1 + 1, 0, none⟩) ∧ ∃ (D : Int) (nq : Nat), 1 ≤ D ∧ D ≤ 31 ∧ wx = ((((w.alloc (.cells #[.int .u16 n0, .int .u16 n1, .int .u16 n2, .int .u16 n3, .int .u16 n4, .int .u16 n5, .int .u16 n6, .int .u16 n7] 47)).alloc (.cells #[.int .i64 0, .int .i64 0, .int .i64 0, .int .i64 0, .int .i64 0, .int .i64 0, .bool false, .bool false, .int .i64 0, .int .i64 0, .int .i64 0, .int .i64 0] 50)).alloc (.cells #[.int .i64 Y, .int .i64 M, .int .i64 0, .int .i64 h, .int .i64 m, .int .i64 s, .bool bl, .bool tm, .int .i64 dg, .int .i64 n7, .int .i64 0, .int .i64 0] 50)).drewN nq).setCell ⟨w.heap.size + 1 + 1, 2, none⟩ (.int .i64 D))
  case first =>
    go_region_with (go_at_call 57; (with_reducible refine (spec_IODays.calls _ _ dd _ HD.out).mono ?_); rintro e w' ⟨rfl, ⟨nd, rfl⟩⟩)
    all_goals
      go_wp2_with fail
      go_meet
      exact ⟨rfl, _, _, hDr.1, hDr.2, rfl⟩
  case rest =>
    obtain ⟨tp, tenP0, pwA⟩ : ∃ tp : Nat → Int, tp 0 = 1 ∧ Aside0 (∀ k : Nat, k < 9 → wrap64 (tp k * 10) = tp (k + 1) ∧ (1 : Int) < tp (k + 1)) := ⟨tenP, rfl, Aside0.mk pw⟩
    obtain ⟨rfl, D, nq, D0, D1, rfl⟩ := hcut
    clear HD hDr
    have z0 : 0 ≤ zn % 4 := by omega
    have z1 : zn % 4 ≤ 3 := by omega
    have o0 : -840 < off.tmod 840 := by have := Int.lt_tmod_of_pos off (by decide : (0 : Int) < 840); omega
    have o1 : off.tmod 840 < 840 := Int.tmod_lt_of_pos off (by decide)
    by_cases hz : 1 < zn % 4
    · have hzb : decide (1 < zn % 4) = true := decide_eq_true hz
      go_wp2_with fail
      go_loopw [10, 11] (fun p i wr => ∃ k : Nat, i = .int .i64 k ∧ p = .int .i64 (tp k) ∧ (((k : Int) < dg ∧ wr = (((((((w.alloc (.cells #[.int .u16 n0, .int .u16 n1, .int .u16 n2, .int .u16 n3, .int .u16 n4, .int .u16 n5, .int .u16 n6, .int .u16 n7] 47)).alloc (.cells #[.int .i64 0, .int .i64 0, .int .i64 0, .int .i64 0, .int .i64 0, .int .i64 0, .bool false, .bool false, .int .i64 0, .int .i64 0, .int .i64 0, .int .i64 0] 50)).alloc (.cells #[.int .i64 Y, .int .i64 M, .int .i64 0, .int .i64 h, .int .i64 m, .int .i64 s, .bool bl, .bool tm, .int .i64 dg, .int .i64 n7, .int .i64 0, .int .i64 0] 50)).drewN nq).setCell ⟨w.heap.size + 1 + 1, 2, none⟩ (.int .i64 D)).setCell ⟨w.heap.size + 1 + 1, 10, none⟩ (.int .i64 (zn % 4))).setCell ⟨w.heap.size + 1 + 1, 11, none⟩ (.int .i64 (off.tmod 840)))) ∨ ((k : Int) = dg ∧ ∃ pt : Int, 0 ≤ pt ∧ pt ≤ 65535 ∧ (wr = (((((((w.alloc (.cells #[.int .u16 n0, .int .u16 n1, .int .u16 n2, .int .u16 n3, .int .u16 n4, .int .u16 n5, .int .u16 n6, .int .u16 n7] 47)).alloc (.cells #[.int .i64 0, .int .i64 0, .int .i64 0, .int .i64 0, .int .i64 0, .int .i64 0, .bool false, .bool false, .int .i64 0, .int .i64 0, .int .i64 0, .int .i64 0] 50)).alloc (.cells #[.int .i64 Y, .int .i64 M, .int .i64 0, .int .i64 h, .int .i64 m, .int .i64 s, .bool bl, .bool tm, .int .i64 dg, .int .i64 n7, .int .i64 0, .int .i64 0] 50)).drewN nq).setCell ⟨w.heap.size + 1 + 1, 2, none⟩ (.int .i64 D)).setCell ⟨w.heap.size + 1 + 1, 10, none⟩ (.int .i64 (zn % 4))).setCell ⟨w.heap.size + 1 + 1, 11, none⟩ (.int .i64 (off.tmod 840))) ∧ pt = n7 ∨ wr = (((((((w.alloc (.cells #[.int .u16 n0, .int .u16 n1, .int .u16 n2, .int .u16 n3, .int .u16 n4, .int .u16 n5, .int .u16 n6, .int .u16 n7] 47)).alloc (.cells #[.int .i64 0, .int .i64 0, .int .i64 0, .int .i64 0, .int .i64 0, .int .i64 0, .bool false, .bool false, .int .i64 0, .int .i64 0, .int .i64 0, .int .i64 0] 50)).alloc (.cells #[.int .i64 Y, .int .i64 M, .int .i64 0, .int .i64 h, .int .i64 m, .int .i64 s, .bool bl, .bool tm, .int .i64 dg, .int .i64 n7, .int .i64 0, .int .i64 0] 50)).drewN nq).setCell ⟨w.heap.size + 1 + 1, 2, none⟩ (.int .i64 D)).setCell ⟨w.heap.size + 1 + 1, 10, none⟩ (.int .i64 (zn % 4))).setCell ⟨w.heap.size + 1 + 1, 11, none⟩ (.int .i64 (off.tmod 840))).setCell ⟨w.heap.size + 1 + 1, 9, none⟩ (.int .i64 pt))))) (fun _ i _ => dg.toNat - (intOf i).toNat)
      case atStart =>
        rcases (by omega : (0 : Int) < dg ∨ (0 : Int) = dg) with hd | hd
        · exact ⟨0, rfl, by rw [tenP0], .inl ⟨hd, rfl⟩⟩
        · exact ⟨0, rfl, by rw [tenP0], .inr ⟨hd, n7, a7, b7, .inl ⟨rfl, rfl⟩⟩⟩
      case round =>
        obtain ⟨k, rfl, rfl, hrel⟩ := hrel
        rcases hrel with ⟨hk, rfl⟩ | ⟨hk, pt, p0, p1, hwr⟩
        · obtain ⟨hp, hp1⟩ := pwA.out k (by omega)
          obtain ⟨P, hP⟩ : ∃ P : Int, tp (k + 1) = P := ⟨_, rfl⟩
          rw [hP] at hp hp1
          obtain ⟨Q, hQ⟩ : ∃ P : Int, tp k = P := ⟨_, rfl⟩
          rw [hQ] at hp ⊢
          have hp1b : decide (1 < P) = true := decide_eq_true hp1
          have hlt : decide ((k : Int) < dg) = true := decide_eq_true hk
          have hsub : wrap64 (dg - 1) = dg - 1 := by unfold wrap64; omega
          have hnz : ¬ P = 0 := by omega
          have hmod : n7.tmod (P) = n7 % P := Int.tmod_eq_emod_of_nonneg a7
          have hm0 : 0 ≤ n7 % P := Int.emod_nonneg _ hnz
          have hm1 : n7 % P ≤ n7 := by
            rcases Int.lt_or_le n7 P with hc | hc
            · rw [Int.emod_eq_of_lt a7 hc]; exact Int.le_refl _
            · have := Int.emod_lt_of_pos n7 (show (0 : Int) < P by omega); omega
          by_cases hl : (k : Int) = dg - 1
          · have hlb : ((k : Int) == dg - 1) = true := by simpa using hl
            have hend : Aside0 (((k + 1 : Nat) : Int) = dg) := Aside0.mk (by omega)
            clear hl
            go_wp2
            go_roundw
            case rel => exact ⟨k + 1, by go_num, by rw [hP, hp], .inr ⟨hend.out, _, hm0, by omega, .inr (by simp)⟩⟩
            case measure => simp [intOf]; omega
          · have hlb : ((k : Int) == dg - 1) = false := by simpa using hl
            have hend : Aside0 (((k + 1 : Nat) : Int) < dg) := Aside0.mk (by omega)
            clear hl
            go_wp2
            go_roundw
            case rel => exact ⟨k + 1, by go_num, by rw [hP, hp], .inl ⟨hend.out, by simp⟩⟩
            case measure => simp [intOf]; omega
        · have hlt : decide ((k : Int) < dg) = false := decide_eq_false (by omega)
          rcases hwr with ⟨rfl, rfl⟩ | rfl
          all_goals
            go_wp2
            go_returns
            exact ⟨⟨Y, M, D, h, m, s, bl, tm, dg, _, _, _, rfl, ⟨Y0, Y1⟩, ⟨M0, M1⟩, ⟨D0, D1⟩, ⟨h0, h1⟩, ⟨m0, m1⟩, ⟨s0, s1⟩, ⟨g0, g1⟩, by omega, ⟨z0, by omega⟩, by omega⟩, by repeat (first | (with_reducible first | exact Below.refl _ _ | apply below_alloc | apply pw_below_drewN | refine below_set ?_ (by omega)) | exact Below.refl _ _)⟩
    · have hzb : decide (1 < zn % 4) = false := decide_eq_false hz
      go_wp2_with fail
      go_loopw [10, 11] (fun p i wr => ∃ k : Nat, i = .int .i64 k ∧ p = .int .i64 (tp k) ∧ (((k : Int) < dg ∧ wr = ((((((w.alloc (.cells #[.int .u16 n0, .int .u16 n1, .int .u16 n2, .int .u16 n3, .int .u16 n4, .int .u16 n5, .int .u16 n6, .int .u16 n7] 47)).alloc (.cells #[.int .i64 0, .int .i64 0, .int .i64 0, .int .i64 0, .int .i64 0, .int .i64 0, .bool false, .bool false, .int .i64 0, .int .i64 0, .int .i64 0, .int .i64 0] 50)).alloc (.cells #[.int .i64 Y, .int .i64 M, .int .i64 0, .int .i64 h, .int .i64 m, .int .i64 s, .bool bl, .bool tm, .int .i64 dg, .int .i64 n7, .int .i64 0, .int .i64 0] 50)).drewN nq).setCell ⟨w.heap.size + 1 + 1, 2, none⟩ (.int .i64 D)).setCell ⟨w.heap.size + 1 + 1, 10, none⟩ (.int .i64 (zn % 4)))) ∨ ((k : Int) = dg ∧ ∃ pt : Int, 0 ≤ pt ∧ pt ≤ 65535 ∧ (wr = ((((((w.alloc (.cells #[.int .u16 n0, .int .u16 n1, .int .u16 n2, .int .u16 n3, .int .u16 n4, .int .u16 n5, .int .u16 n6, .int .u16 n7] 47)).alloc (.cells #[.int .i64 0, .int .i64 0, .int .i64 0, .int .i64 0, .int .i64 0, .int .i64 0, .bool false, .bool false, .int .i64 0, .int .i64 0, .int .i64 0, .int .i64 0] 50)).alloc (.cells #[.int .i64 Y, .int .i64 M, .int .i64 0, .int .i64 h, .int .i64 m, .int .i64 s, .bool bl, .bool tm, .int .i64 dg, .int .i64 n7, .int .i64 0, .int .i64 0] 50)).drewN nq).setCell ⟨w.heap.size + 1 + 1, 2, none⟩ (.int .i64 D)).setCell ⟨w.heap.size + 1 + 1, 10, none⟩ (.int .i64 (zn % 4))) ∧ pt = n7 ∨ wr = ((((((w.alloc (.cells #[.int .u16 n0, .int .u16 n1, .int .u16 n2, .int .u16 n3, .int .u16 n4, .int .u16 n5, .int .u16 n6, .int .u16 n7] 47)).alloc (.cells #[.int .i64 0, .int .i64 0, .int .i64 0, .int .i64 0, .int .i64 0, .int .i64 0, .bool false, .bool false, .int .i64 0, .int .i64 0, .int .i64 0, .int .i64 0] 50)).alloc (.cells #[.int .i64 Y, .int .i64 M, .int .i64 0, .int .i64 h, .int .i64 m, .int .i64 s, .bool bl, .bool tm, .int .i64 dg, .int .i64 n7, .int .i64 0, .int .i64 0] 50)).drewN nq).setCell ⟨w.heap.size + 1 + 1, 2, none⟩ (.int .i64 D)).setCell ⟨w.heap.size + 1 + 1, 10, none⟩ (.int .i64 (zn % 4))).setCell ⟨w.heap.size + 1 + 1, 9, none⟩ (.int .i64 pt))))) (fun _ i _ => dg.toNat - (intOf i).toNat)
      case atStart =>
        rcases (by omega : (0 : Int) < dg ∨ (0 : Int) = dg) with hd | hd
        · exact ⟨0, rfl, by rw [tenP0], .inl ⟨hd, rfl⟩⟩
        · exact ⟨0, rfl, by rw [tenP0], .inr ⟨hd, n7, a7, b7, .inl ⟨rfl, rfl⟩⟩⟩
      case round =>
        obtain ⟨k, rfl, rfl, hrel⟩ := hrel
        rcases hrel with ⟨hk, rfl⟩ | ⟨hk, pt, p0, p1, hwr⟩
        · obtain ⟨hp, hp1⟩ := pwA.out k (by omega)
          obtain ⟨P, hP⟩ : ∃ P : Int, tp (k + 1) = P := ⟨_, rfl⟩
          rw [hP] at hp hp1
          obtain ⟨Q, hQ⟩ : ∃ P : Int, tp k = P := ⟨_, rfl⟩
          rw [hQ] at hp ⊢
          have hp1b : decide (1 < P) = true := decide_eq_true hp1
          have hlt : decide ((k : Int) < dg) = true := decide_eq_true hk
          have hsub : wrap64 (dg - 1) = dg - 1 := by unfold wrap64; omega
          have hnz : ¬ P = 0 := by omega
          have hmod : n7.tmod (P) = n7 % P := Int.tmod_eq_emod_of_nonneg a7
          have hm0 : 0 ≤ n7 % P := Int.emod_nonneg _ hnz
          have hm1 : n7 % P ≤ n7 := by
            rcases Int.lt_or_le n7 P with hc | hc
            · rw [Int.emod_eq_of_lt a7 hc]; exact Int.le_refl _
            · have := Int.emod_lt_of_pos n7 (show (0 : Int) < P by omega); omega
          by_cases hl : (k : Int) = dg - 1
          · have hlb : ((k : Int) == dg - 1) = true := by simpa using hl
            have hend : Aside0 (((k + 1 : Nat) : Int) = dg) := Aside0.mk (by omega)
            clear hl
            go_wp2
            go_roundw
            case rel => exact ⟨k + 1, by go_num, by rw [hP, hp], .inr ⟨hend.out, _, hm0, by omega, .inr (by simp)⟩⟩
            case measure => simp [intOf]; omega
          · have hlb : ((k : Int) == dg - 1) = false := by simpa using hl
            have hend : Aside0 (((k + 1 : Nat) : Int) < dg) := Aside0.mk (by omega)
            clear hl
            go_wp2
            go_roundw
            case rel => exact ⟨k + 1, by go_num, by rw [hP, hp], .inl ⟨hend.out, by simp⟩⟩
            case measure => simp [intOf]; omega
        · have hlt : decide ((k : Int) < dg) = false := decide_eq_false (by omega)
          rcases hwr with ⟨rfl, rfl⟩ | rfl
          all_goals
            go_wp2
            go_returns
            exact ⟨⟨Y, M, D, h, m, s, bl, tm, dg, _, _, _, rfl, ⟨Y0, Y1⟩, ⟨M0, M1⟩, ⟨D0, D1⟩, ⟨h0, h1⟩, ⟨m0, m1⟩, ⟨s0, s1⟩, ⟨g0, g1⟩, by omega, ⟨z0, by omega⟩, by omega⟩, by repeat (first | (with_reducible first | exact Below.refl _ _ | apply below_alloc | apply pw_below_drewN | refine below_set ?_ (by omega)) | exact Below.refl _ _)⟩
end Go.Proofs.Ytmhngpihkaignaa.IoTime
