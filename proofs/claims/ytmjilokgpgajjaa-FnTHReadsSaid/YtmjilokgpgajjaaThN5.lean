/- Merged by merge.py (wip/tpl) out of ThRc1, ThRc2: A varint is read. Written by threadc.py (wip/tpl): what the compact reader's methods read. -/
import Derived.Test.YtmjilokgpgajjaaThRd5
import Derived.Test.YtmjilokgpgajjaaThM1
import Derived.Test.YtmjilokgpgajjaaThRd8
namespace Go.Proofs.Ytmjilokgpgajjaa.Th
open Go.RowKit Go.Proofs.YtmjilokgpgajjaaW.PrintWords Go.Proofs.YtmjilokgpgajjaaW.PrintLast Go.Proofs.YtmjilokgpgajjaaW.PrintMore
set_option linter.unusedVariables false
set_option linter.unusedSimpArgs false
theorem or128 (u : Int) : Go.bits .or .u8 (u % 256) 128 = 128 + u % 128 := by
  have h : ∀ a : Fin 256, Go.bits .or .u8 ((a.val : Nat) : Int) 128 = 128 + (a.val : Int) % 128 := by decide +kernel
  have h0 : 0 ≤ u % 256 := by omega
  have h1 := h ⟨(u % 256).toNat, by omega⟩
  simp only [Int.toNat_of_nonneg h0] at h1
  rw [h1]
  omega
theorem and127 (m : Int) (h0 : 0 ≤ m) (h1 : m < 128) : Go.bits .and .u8 (128 + m) 127 = m := by
  have h : ∀ a : Fin 128, Go.bits .and .u8 (128 + ((a.val : Nat) : Int)) 127 = (a.val : Int) := by decide +kernel
  have h2 := h ⟨m.toNat, by omega⟩
  simp only [Int.toNat_of_nonneg h0] at h2
  exact h2
theorem vb_drop {D : List Int} : ∀ (k j i : Nat) (v : Int), k ≤ j → At D i (vbytes j v) → At D (i + k) (vbytes (j - k) (v / 128 ^ k))
  | 0, j, i, v, _, h => by simpa using h
  | k + 1, 0, i, v, hk, h => by omega
  | k + 1, j + 1, i, v, hk, h => by
    have h1 := vb_drop k j (i + 1) (v / 128) (by omega) h.cons.2
    rw [show i + (k + 1) = i + 1 + k by omega, show j + 1 - (k + 1) = j - k by omega, Int.pow_succ, Int.mul_comm, ← Int.ediv_ediv_of_nonneg (by omega)]
    exact h1
theorem nb_drop : ∀ (k j : Nat) (v : Int), k ≤ j → nb j v → nb (j - k) (v / 128 ^ k)
  | 0, j, v, _, h => by simpa using h
  | k + 1, 0, v, hk, h => by omega
  | k + 1, j + 1, v, hk, h => by
    have h1 := nb_drop k j (v / 128) (by omega) h.2
    rw [show j + 1 - (k + 1) = j - k by omega, Int.pow_succ, Int.mul_comm, ← Int.ediv_ediv_of_nonneg (by omega)]
    exact h1
theorem or_0 (v m : Int) (h0 : 0 ≤ v) (hm : m = v / 128 ^ 0 % 128) : Go.bits .or .u64 0 m = v % 128 ^ 1 := by
  simp only [Int.reducePow] at hm ⊢
  rw [or_lo .u64 64 (by decide) wraps_u64 0 _ _ (by omega) (by omega) (by omega) (by omega) (by omega) (by omega)]
  omega
theorem oe_0 (v m : Int) (h0 : 0 ≤ v) (h1 : v < 18446744073709551616) (hm : m = v / 128 ^ 0) (hb : m ≤ 127) : Go.bits .or .u64 0 m = v := by
  simp only [Int.reducePow] at hm
  rw [or_lo .u64 64 (by decide) wraps_u64 0 _ _ (by omega) (by omega) (by omega) (by omega) (by omega) (by omega)]
  omega
theorem or_1 (v m : Int) (h0 : 0 ≤ v) (hm : m = v / 128 ^ 1 % 128) : Go.bits .or .u64 (v % 128) (m * 128) = v % 128 ^ 2 := by
  simp only [Int.reducePow] at hm ⊢
  rw [or_lo .u64 64 (by decide) wraps_u64 7 _ _ (by omega) (by omega) (by omega) (by omega) (by omega) (by omega)]
  omega
theorem oe_1 (v m : Int) (h0 : 0 ≤ v) (h1 : v < 18446744073709551616) (hm : m = v / 128 ^ 1) (hb : m ≤ 127) : Go.bits .or .u64 (v % 128) (m * 128) = v := by
  simp only [Int.reducePow] at hm
  rw [or_lo .u64 64 (by decide) wraps_u64 7 _ _ (by omega) (by omega) (by omega) (by omega) (by omega) (by omega)]
  omega
theorem or_2 (v m : Int) (h0 : 0 ≤ v) (hm : m = v / 128 ^ 2 % 128) : Go.bits .or .u64 (v % 16384) (m * 16384) = v % 128 ^ 3 := by
  simp only [Int.reducePow] at hm ⊢
  rw [or_lo .u64 64 (by decide) wraps_u64 14 _ _ (by omega) (by omega) (by omega) (by omega) (by omega) (by omega)]
  omega
theorem oe_2 (v m : Int) (h0 : 0 ≤ v) (h1 : v < 18446744073709551616) (hm : m = v / 128 ^ 2) (hb : m ≤ 127) : Go.bits .or .u64 (v % 16384) (m * 16384) = v := by
  simp only [Int.reducePow] at hm
  rw [or_lo .u64 64 (by decide) wraps_u64 14 _ _ (by omega) (by omega) (by omega) (by omega) (by omega) (by omega)]
  omega
theorem or_3 (v m : Int) (h0 : 0 ≤ v) (hm : m = v / 128 ^ 3 % 128) : Go.bits .or .u64 (v % 2097152) (m * 2097152) = v % 128 ^ 4 := by
  simp only [Int.reducePow] at hm ⊢
  rw [or_lo .u64 64 (by decide) wraps_u64 21 _ _ (by omega) (by omega) (by omega) (by omega) (by omega) (by omega)]
  omega
theorem oe_3 (v m : Int) (h0 : 0 ≤ v) (h1 : v < 18446744073709551616) (hm : m = v / 128 ^ 3) (hb : m ≤ 127) : Go.bits .or .u64 (v % 2097152) (m * 2097152) = v := by
  simp only [Int.reducePow] at hm
  rw [or_lo .u64 64 (by decide) wraps_u64 21 _ _ (by omega) (by omega) (by omega) (by omega) (by omega) (by omega)]
  omega
theorem or_4 (v m : Int) (h0 : 0 ≤ v) (hm : m = v / 128 ^ 4 % 128) : Go.bits .or .u64 (v % 268435456) (m * 268435456) = v % 128 ^ 5 := by
  simp only [Int.reducePow] at hm ⊢
  rw [or_lo .u64 64 (by decide) wraps_u64 28 _ _ (by omega) (by omega) (by omega) (by omega) (by omega) (by omega)]
  omega
theorem oe_4 (v m : Int) (h0 : 0 ≤ v) (h1 : v < 18446744073709551616) (hm : m = v / 128 ^ 4) (hb : m ≤ 127) : Go.bits .or .u64 (v % 268435456) (m * 268435456) = v := by
  simp only [Int.reducePow] at hm
  rw [or_lo .u64 64 (by decide) wraps_u64 28 _ _ (by omega) (by omega) (by omega) (by omega) (by omega) (by omega)]
  omega
theorem or_5 (v m : Int) (h0 : 0 ≤ v) (hm : m = v / 128 ^ 5 % 128) : Go.bits .or .u64 (v % 34359738368) (m * 34359738368) = v % 128 ^ 6 := by
  simp only [Int.reducePow] at hm ⊢
  rw [or_lo .u64 64 (by decide) wraps_u64 35 _ _ (by omega) (by omega) (by omega) (by omega) (by omega) (by omega)]
  omega
theorem oe_5 (v m : Int) (h0 : 0 ≤ v) (h1 : v < 18446744073709551616) (hm : m = v / 128 ^ 5) (hb : m ≤ 127) : Go.bits .or .u64 (v % 34359738368) (m * 34359738368) = v := by
  simp only [Int.reducePow] at hm
  rw [or_lo .u64 64 (by decide) wraps_u64 35 _ _ (by omega) (by omega) (by omega) (by omega) (by omega) (by omega)]
  omega
theorem or_6 (v m : Int) (h0 : 0 ≤ v) (hm : m = v / 128 ^ 6 % 128) : Go.bits .or .u64 (v % 4398046511104) (m * 4398046511104) = v % 128 ^ 7 := by
  simp only [Int.reducePow] at hm ⊢
  rw [or_lo .u64 64 (by decide) wraps_u64 42 _ _ (by omega) (by omega) (by omega) (by omega) (by omega) (by omega)]
  omega
theorem oe_6 (v m : Int) (h0 : 0 ≤ v) (h1 : v < 18446744073709551616) (hm : m = v / 128 ^ 6) (hb : m ≤ 127) : Go.bits .or .u64 (v % 4398046511104) (m * 4398046511104) = v := by
  simp only [Int.reducePow] at hm
  rw [or_lo .u64 64 (by decide) wraps_u64 42 _ _ (by omega) (by omega) (by omega) (by omega) (by omega) (by omega)]
  omega
theorem or_7 (v m : Int) (h0 : 0 ≤ v) (hm : m = v / 128 ^ 7 % 128) : Go.bits .or .u64 (v % 562949953421312) (m * 562949953421312) = v % 128 ^ 8 := by
  simp only [Int.reducePow] at hm ⊢
  rw [or_lo .u64 64 (by decide) wraps_u64 49 _ _ (by omega) (by omega) (by omega) (by omega) (by omega) (by omega)]
  omega
theorem oe_7 (v m : Int) (h0 : 0 ≤ v) (h1 : v < 18446744073709551616) (hm : m = v / 128 ^ 7) (hb : m ≤ 127) : Go.bits .or .u64 (v % 562949953421312) (m * 562949953421312) = v := by
  simp only [Int.reducePow] at hm
  rw [or_lo .u64 64 (by decide) wraps_u64 49 _ _ (by omega) (by omega) (by omega) (by omega) (by omega) (by omega)]
  omega
theorem or_8 (v m : Int) (h0 : 0 ≤ v) (hm : m = v / 128 ^ 8 % 128) : Go.bits .or .u64 (v % 72057594037927936) (m * 72057594037927936) = v % 128 ^ 9 := by
  simp only [Int.reducePow] at hm ⊢
  rw [or_lo .u64 64 (by decide) wraps_u64 56 _ _ (by omega) (by omega) (by omega) (by omega) (by omega) (by omega)]
  omega
theorem oe_8 (v m : Int) (h0 : 0 ≤ v) (h1 : v < 18446744073709551616) (hm : m = v / 128 ^ 8) (hb : m ≤ 127) : Go.bits .or .u64 (v % 72057594037927936) (m * 72057594037927936) = v := by
  simp only [Int.reducePow] at hm
  rw [or_lo .u64 64 (by decide) wraps_u64 56 _ _ (by omega) (by omega) (by omega) (by omega) (by omega) (by omega)]
  omega
theorem oe_9 (v m : Int) (h0 : 0 ≤ v) (h1 : v < 18446744073709551616) (hm : m = v / 128 ^ 9) (hb : m ≤ 127) : Go.bits .or .u64 (v % 9223372036854775808) (m * 9223372036854775808) = v := by
  simp only [Int.reducePow] at hm
  rw [or_lo .u64 64 (by decide) wraps_u64 63 _ _ (by omega) (by omega) (by omega) (by omega) (by omega) (by omega)]
  omega
set_option maxHeartbeats 16000000 in
set_option maxRecDepth 100000 in
theorem rd_uvar (w : World) (base Rb Rd T off SZ : Nat) (A : Option Addr) (D : List Int) (C i : Nat) (hs : Sr w base Rb Rd T off SZ A D C i) (v : Int) (h0 : 0 ≤ v) (h1 : v < 18446744073709551616) (j : Nat) (hj : j < 10) (hn : nb j v) (hz : At D i (vbytes j v)) :
    Calls Try.prog 122 #[.iface 61 (.pointer (some ⟨Rb, 0, none⟩))] w fun e w' => e = .returned (.tuple #[.int .u64 v, .nilIface]) ∧ Done w w' base Rb Rd T off SZ A D C (i + (j + 1)) := by
  have HZ := Aside0.mk (fun k (hk : k ≤ j) => vb_drop k j i v hk hz)
  have HN := Aside0.mk (fun k (hk : k ≤ j) => nb_drop k j v hk hn)
  have HV := Aside0.mk (And.intro h0 h1)
  have HS0 := Aside0.mk hs
  clear hs hz hn h0 h1
  go_enter Try.func122, Try.ntmps122
  go_wp2
  go_loopw [4, 5, 6] (fun x s n wr => ∃ k : Nat, k ≤ j ∧ n = .int .i64 (k : Int) ∧ s = .int .u64 ((7 * k : Nat) : Int) ∧ x = .int .u64 (v % 128 ^ k) ∧ Aside0 (Done w wr base Rb Rd T off SZ A D C (i + k))) (fun _ _ n _ => (10 - intOf n).toNat)
  case atStart => exact ⟨0, Nat.zero_le _, rfl, rfl, by simp [Int.emod_one], Aside0.mk ⟨HS0.out, Kp.refl _ _ _, Below.refl _ _⟩⟩
  case round =>
    obtain ⟨k, hk, rfl, rfl, rfl, HD⟩ := hrel
    have hz := HZ.out k hk
    have hn := HN.out k hk
    by_cases hlt : k < j
    · obtain ⟨d, hd⟩ : ∃ d, j - k = d + 1 := ⟨j - k - 1, by omega⟩
      rw [hd] at hz hn
      simp only [vbytes, or128] at hz
      have HB1 := Aside0.mk hz.cons.1
      clear hz
      obtain ⟨m, hm⟩ : ∃ m, m = v / 128 ^ k % 128 := ⟨_, rfl⟩
      have hm0 : 0 ≤ m := by omega
      have hm1 : m < 128 := by omega
      rw [← hm] at HB1
      have HMM := Aside0.mk hm
      have t1 : decide (128 + m < 128) = false := by simp; omega
      have e127 := and127 m hm0 hm1
      clear hm hn hd
      rcases (by omega : k = 0 ∨ k = 1 ∨ k = 2 ∨ k = 3 ∨ k = 4 ∨ k = 5 ∨ k = 6 ∨ k = 7 ∨ k = 8) with rfl | rfl | rfl | rfl | rfl | rfl | rfl | rfl | rfl
      · go_wp2_with (go_at_call 149; (with_reducible refine (rd_byte _ base Rb Rd T off SZ A D C _ _ HD.out.sr HB1.out).mono ?_); rintro e W1 ⟨rfl, hd⟩; have HD1 := Aside0.mk (show Done w W1 base Rb Rd T off SZ A D C (i + (0 + 1)) from ⟨hd.1, HD.out.2.1.trans hd.2.1, HD.out.2.2.trans hd.2.2⟩); clear hd)
        go_roundw
        case rel => exact ⟨1, by omega, rfl, rfl, congrArg (Value.int .u64) (or_0 v m HV.out.1 HMM.out), HD1⟩
        case measure => simp [intOf]
      · go_wp2_with (go_at_call 149; (with_reducible refine (rd_byte _ base Rb Rd T off SZ A D C _ _ HD.out.sr HB1.out).mono ?_); rintro e W1 ⟨rfl, hd⟩; have HD1 := Aside0.mk (show Done w W1 base Rb Rd T off SZ A D C (i + (1 + 1)) from ⟨hd.1, HD.out.2.1.trans hd.2.1, HD.out.2.2.trans hd.2.2⟩); clear hd)
        go_roundw
        case rel => exact ⟨2, by omega, rfl, rfl, congrArg (Value.int .u64) (or_1 v m HV.out.1 HMM.out), HD1⟩
        case measure => simp [intOf]
      · go_wp2_with (go_at_call 149; (with_reducible refine (rd_byte _ base Rb Rd T off SZ A D C _ _ HD.out.sr HB1.out).mono ?_); rintro e W1 ⟨rfl, hd⟩; have HD1 := Aside0.mk (show Done w W1 base Rb Rd T off SZ A D C (i + (2 + 1)) from ⟨hd.1, HD.out.2.1.trans hd.2.1, HD.out.2.2.trans hd.2.2⟩); clear hd)
        go_roundw
        case rel => exact ⟨3, by omega, rfl, rfl, congrArg (Value.int .u64) (or_2 v m HV.out.1 HMM.out), HD1⟩
        case measure => simp [intOf]
      · go_wp2_with (go_at_call 149; (with_reducible refine (rd_byte _ base Rb Rd T off SZ A D C _ _ HD.out.sr HB1.out).mono ?_); rintro e W1 ⟨rfl, hd⟩; have HD1 := Aside0.mk (show Done w W1 base Rb Rd T off SZ A D C (i + (3 + 1)) from ⟨hd.1, HD.out.2.1.trans hd.2.1, HD.out.2.2.trans hd.2.2⟩); clear hd)
        go_roundw
        case rel => exact ⟨4, by omega, rfl, rfl, congrArg (Value.int .u64) (or_3 v m HV.out.1 HMM.out), HD1⟩
        case measure => simp [intOf]
      · go_wp2_with (go_at_call 149; (with_reducible refine (rd_byte _ base Rb Rd T off SZ A D C _ _ HD.out.sr HB1.out).mono ?_); rintro e W1 ⟨rfl, hd⟩; have HD1 := Aside0.mk (show Done w W1 base Rb Rd T off SZ A D C (i + (4 + 1)) from ⟨hd.1, HD.out.2.1.trans hd.2.1, HD.out.2.2.trans hd.2.2⟩); clear hd)
        go_roundw
        case rel => exact ⟨5, by omega, rfl, rfl, congrArg (Value.int .u64) (or_4 v m HV.out.1 HMM.out), HD1⟩
        case measure => simp [intOf]
      · go_wp2_with (go_at_call 149; (with_reducible refine (rd_byte _ base Rb Rd T off SZ A D C _ _ HD.out.sr HB1.out).mono ?_); rintro e W1 ⟨rfl, hd⟩; have HD1 := Aside0.mk (show Done w W1 base Rb Rd T off SZ A D C (i + (5 + 1)) from ⟨hd.1, HD.out.2.1.trans hd.2.1, HD.out.2.2.trans hd.2.2⟩); clear hd)
        go_roundw
        case rel => exact ⟨6, by omega, rfl, rfl, congrArg (Value.int .u64) (or_5 v m HV.out.1 HMM.out), HD1⟩
        case measure => simp [intOf]
      · go_wp2_with (go_at_call 149; (with_reducible refine (rd_byte _ base Rb Rd T off SZ A D C _ _ HD.out.sr HB1.out).mono ?_); rintro e W1 ⟨rfl, hd⟩; have HD1 := Aside0.mk (show Done w W1 base Rb Rd T off SZ A D C (i + (6 + 1)) from ⟨hd.1, HD.out.2.1.trans hd.2.1, HD.out.2.2.trans hd.2.2⟩); clear hd)
        go_roundw
        case rel => exact ⟨7, by omega, rfl, rfl, congrArg (Value.int .u64) (or_6 v m HV.out.1 HMM.out), HD1⟩
        case measure => simp [intOf]
      · go_wp2_with (go_at_call 149; (with_reducible refine (rd_byte _ base Rb Rd T off SZ A D C _ _ HD.out.sr HB1.out).mono ?_); rintro e W1 ⟨rfl, hd⟩; have HD1 := Aside0.mk (show Done w W1 base Rb Rd T off SZ A D C (i + (7 + 1)) from ⟨hd.1, HD.out.2.1.trans hd.2.1, HD.out.2.2.trans hd.2.2⟩); clear hd)
        go_roundw
        case rel => exact ⟨8, by omega, rfl, rfl, congrArg (Value.int .u64) (or_7 v m HV.out.1 HMM.out), HD1⟩
        case measure => simp [intOf]
      · go_wp2_with (go_at_call 149; (with_reducible refine (rd_byte _ base Rb Rd T off SZ A D C _ _ HD.out.sr HB1.out).mono ?_); rintro e W1 ⟨rfl, hd⟩; have HD1 := Aside0.mk (show Done w W1 base Rb Rd T off SZ A D C (i + (8 + 1)) from ⟨hd.1, HD.out.2.1.trans hd.2.1, HD.out.2.2.trans hd.2.2⟩); clear hd)
        go_roundw
        case rel => exact ⟨9, by omega, rfl, rfl, congrArg (Value.int .u64) (or_8 v m HV.out.1 HMM.out), HD1⟩
        case measure => simp [intOf]
    · obtain rfl : k = j := by omega
      rw [Nat.sub_self] at hz hn
      simp only [vbytes] at hz
      simp only [nb] at hn
      obtain ⟨m, hm⟩ : ∃ m, m = v / 128 ^ k := ⟨_, rfl⟩
      have hv := HV.out
      have hm0 : 0 ≤ m := by rw [hm]; exact Int.ediv_nonneg hv.1 (Int.le_of_lt (Int.pow_pos (by omega)))
      rw [← hm] at hz hn
      rw [show m % 256 = m by omega] at hz
      have HB1 := Aside0.mk hz
      have HMM := Aside0.mk hm
      have t1 : decide (m < 128) = true := by simp; omega
      have hu9 : k = 9 → m ≤ 1 := by
        rintro rfl
        simp only [Int.reducePow] at hm
        omega
      clear hm hz hv
      rcases (by omega : k = 0 ∨ k = 1 ∨ k = 2 ∨ k = 3 ∨ k = 4 ∨ k = 5 ∨ k = 6 ∨ k = 7 ∨ k = 8 ∨ k = 9) with rfl | rfl | rfl | rfl | rfl | rfl | rfl | rfl | rfl | rfl
      · clear hu9
        go_wp2_with (go_at_call 149; (with_reducible refine (rd_byte _ base Rb Rd T off SZ A D C _ _ HD.out.sr HB1.out).mono ?_); rintro e W1 ⟨rfl, hd⟩; have HD1 := Aside0.mk (show Done w W1 base Rb Rd T off SZ A D C (i + (0 + 1)) from ⟨hd.1, HD.out.2.1.trans hd.2.1, HD.out.2.2.trans hd.2.2⟩); clear hd)
        go_ret2
        exact ⟨congrArg (fun x : Int => Ending.returned (.tuple #[.int .u64 x, .nilIface])) (oe_0 v m HV.out.1 HV.out.2 HMM.out hn), HD1.out⟩
      · clear hu9
        go_wp2_with (go_at_call 149; (with_reducible refine (rd_byte _ base Rb Rd T off SZ A D C _ _ HD.out.sr HB1.out).mono ?_); rintro e W1 ⟨rfl, hd⟩; have HD1 := Aside0.mk (show Done w W1 base Rb Rd T off SZ A D C (i + (1 + 1)) from ⟨hd.1, HD.out.2.1.trans hd.2.1, HD.out.2.2.trans hd.2.2⟩); clear hd)
        go_ret2
        exact ⟨congrArg (fun x : Int => Ending.returned (.tuple #[.int .u64 x, .nilIface])) (oe_1 v m HV.out.1 HV.out.2 HMM.out hn), HD1.out⟩
      · clear hu9
        go_wp2_with (go_at_call 149; (with_reducible refine (rd_byte _ base Rb Rd T off SZ A D C _ _ HD.out.sr HB1.out).mono ?_); rintro e W1 ⟨rfl, hd⟩; have HD1 := Aside0.mk (show Done w W1 base Rb Rd T off SZ A D C (i + (2 + 1)) from ⟨hd.1, HD.out.2.1.trans hd.2.1, HD.out.2.2.trans hd.2.2⟩); clear hd)
        go_ret2
        exact ⟨congrArg (fun x : Int => Ending.returned (.tuple #[.int .u64 x, .nilIface])) (oe_2 v m HV.out.1 HV.out.2 HMM.out hn), HD1.out⟩
      · clear hu9
        go_wp2_with (go_at_call 149; (with_reducible refine (rd_byte _ base Rb Rd T off SZ A D C _ _ HD.out.sr HB1.out).mono ?_); rintro e W1 ⟨rfl, hd⟩; have HD1 := Aside0.mk (show Done w W1 base Rb Rd T off SZ A D C (i + (3 + 1)) from ⟨hd.1, HD.out.2.1.trans hd.2.1, HD.out.2.2.trans hd.2.2⟩); clear hd)
        go_ret2
        exact ⟨congrArg (fun x : Int => Ending.returned (.tuple #[.int .u64 x, .nilIface])) (oe_3 v m HV.out.1 HV.out.2 HMM.out hn), HD1.out⟩
      · clear hu9
        go_wp2_with (go_at_call 149; (with_reducible refine (rd_byte _ base Rb Rd T off SZ A D C _ _ HD.out.sr HB1.out).mono ?_); rintro e W1 ⟨rfl, hd⟩; have HD1 := Aside0.mk (show Done w W1 base Rb Rd T off SZ A D C (i + (4 + 1)) from ⟨hd.1, HD.out.2.1.trans hd.2.1, HD.out.2.2.trans hd.2.2⟩); clear hd)
        go_ret2
        exact ⟨congrArg (fun x : Int => Ending.returned (.tuple #[.int .u64 x, .nilIface])) (oe_4 v m HV.out.1 HV.out.2 HMM.out hn), HD1.out⟩
      · clear hu9
        go_wp2_with (go_at_call 149; (with_reducible refine (rd_byte _ base Rb Rd T off SZ A D C _ _ HD.out.sr HB1.out).mono ?_); rintro e W1 ⟨rfl, hd⟩; have HD1 := Aside0.mk (show Done w W1 base Rb Rd T off SZ A D C (i + (5 + 1)) from ⟨hd.1, HD.out.2.1.trans hd.2.1, HD.out.2.2.trans hd.2.2⟩); clear hd)
        go_ret2
        exact ⟨congrArg (fun x : Int => Ending.returned (.tuple #[.int .u64 x, .nilIface])) (oe_5 v m HV.out.1 HV.out.2 HMM.out hn), HD1.out⟩
      · clear hu9
        go_wp2_with (go_at_call 149; (with_reducible refine (rd_byte _ base Rb Rd T off SZ A D C _ _ HD.out.sr HB1.out).mono ?_); rintro e W1 ⟨rfl, hd⟩; have HD1 := Aside0.mk (show Done w W1 base Rb Rd T off SZ A D C (i + (6 + 1)) from ⟨hd.1, HD.out.2.1.trans hd.2.1, HD.out.2.2.trans hd.2.2⟩); clear hd)
        go_ret2
        exact ⟨congrArg (fun x : Int => Ending.returned (.tuple #[.int .u64 x, .nilIface])) (oe_6 v m HV.out.1 HV.out.2 HMM.out hn), HD1.out⟩
      · clear hu9
        go_wp2_with (go_at_call 149; (with_reducible refine (rd_byte _ base Rb Rd T off SZ A D C _ _ HD.out.sr HB1.out).mono ?_); rintro e W1 ⟨rfl, hd⟩; have HD1 := Aside0.mk (show Done w W1 base Rb Rd T off SZ A D C (i + (7 + 1)) from ⟨hd.1, HD.out.2.1.trans hd.2.1, HD.out.2.2.trans hd.2.2⟩); clear hd)
        go_ret2
        exact ⟨congrArg (fun x : Int => Ending.returned (.tuple #[.int .u64 x, .nilIface])) (oe_7 v m HV.out.1 HV.out.2 HMM.out hn), HD1.out⟩
      · clear hu9
        go_wp2_with (go_at_call 149; (with_reducible refine (rd_byte _ base Rb Rd T off SZ A D C _ _ HD.out.sr HB1.out).mono ?_); rintro e W1 ⟨rfl, hd⟩; have HD1 := Aside0.mk (show Done w W1 base Rb Rd T off SZ A D C (i + (8 + 1)) from ⟨hd.1, HD.out.2.1.trans hd.2.1, HD.out.2.2.trans hd.2.2⟩); clear hd)
        go_ret2
        exact ⟨congrArg (fun x : Int => Ending.returned (.tuple #[.int .u64 x, .nilIface])) (oe_8 v m HV.out.1 HV.out.2 HMM.out hn), HD1.out⟩
      · have hm9 : m ≤ 1 := hu9 rfl
        have t9 : decide (1 < m) = false := by simp; omega
        clear hu9
        go_wp2_with (go_at_call 149; (with_reducible refine (rd_byte _ base Rb Rd T off SZ A D C _ _ HD.out.sr HB1.out).mono ?_); rintro e W1 ⟨rfl, hd⟩; have HD1 := Aside0.mk (show Done w W1 base Rb Rd T off SZ A D C (i + (9 + 1)) from ⟨hd.1, HD.out.2.1.trans hd.2.1, HD.out.2.2.trans hd.2.2⟩); clear hd)
        go_ret2
        exact ⟨congrArg (fun x : Int => Ending.returned (.tuple #[.int .u64 x, .nilIface])) (oe_9 v m HV.out.1 HV.out.2 HMM.out hn), HD1.out⟩
end Go.Proofs.Ytmjilokgpgajjaa.Th

namespace Go.Proofs.Ytmjilokgpgajjaa.Th
open Go.RowKit Go.Proofs.YtmjilokgpgajjaaW.PrintWords Go.Proofs.YtmjilokgpgajjaaW.PrintLast Go.Proofs.YtmjilokgpgajjaaW.PrintMore
set_option linter.unusedVariables false
set_option linter.unusedSimpArgs false
set_option maxHeartbeats 8000000 in
set_option maxRecDepth 100000 in
theorem c_reader (w : World) (base Rb Rd T : Nat) (A : Option Addr) (D : List Int) (C i : Nat) (hs : Sr w base Rb Rd T 1 11 A D C i) :
    Calls Try.prog 118 #[.pointer (some ⟨Rd, 0, none⟩)] w fun e w' => e = .returned (.iface 61 (.pointer (some ⟨Rb, 0, none⟩))) ∧ w = w' := by
  obtain ⟨ws, h3, h4, h5, h6⟩ := hs.hQ
  have c1 : w.cell? ⟨Rd, 2, none⟩ = some (.iface 61 (.pointer (some ⟨Rb, 0, none⟩))) := (blk_cell h3 2).trans h5
  clear hs h3 h4 h5 h6
  go_enter Try.func118, Try.ntmps118
  go_wp2_with go_in
  go_ret
  exact ⟨rfl, rfl⟩
theorem xor_neg (x : Int) (h0 : 0 ≤ x) (h1 : x < 9223372036854775808) : Go.bits .xor .i64 (-1) x = -1 - x := by
  unfold Go.bits
  rw [IntKind.wrap_i64]
  have e2 : (BitVec.ofInt 64 x).toNat = x.toNat := by rw [BitVec.toNat_ofInt]; omega
  show ((((BitVec.ofInt 64 (-1)) ^^^ (BitVec.ofInt 64 x)).toNat : Nat) + (9223372036854775808 : Int)) % 18446744073709551616 - 9223372036854775808 = _
  rw [show BitVec.ofInt 64 (-1) = BitVec.allOnes 64 by decide, BitVec.allOnes_xor, BitVec.toNat_not, e2]
  omega
theorem and_one (x : Int) (h0 : 0 ≤ x) (h1 : x < 18446744073709551616) : Go.bits .and .u64 x 1 = x % 2 := bits_mask .u64 64 (by decide) wraps_u64 1 (by decide) x h0 h1
set_option maxHeartbeats 8000000 in
set_option maxRecDepth 100000 in
theorem rd_var_pos (w : World) (base Rb Rd T off SZ : Nat) (A : Option Addr) (D : List Int) (C i : Nat) (hs : Sr w base Rb Rd T off SZ A D C i) (n : Int) (h0 : -9223372036854775808 ≤ n) (h1 : n < 9223372036854775808) (hc : 0 ≤ n) (j : Nat) (hj : j < 10) (hn : nb j (zig n)) (hz : At D i (vbytes j (zig n))) :
    Calls Try.prog 121 #[.iface 61 (.pointer (some ⟨Rb, 0, none⟩))] w fun e w' => e = .returned (.tuple #[.int .i64 n, .nilIface]) ∧ Done w w' base Rb Rd T off SZ A D C (i + (j + 1)) := by
  have hr := zig_range n h0 h1
  have hzg : zig n = 2 * n := by unfold zig; rw [if_neg (by omega)]
  obtain ⟨u, hu⟩ : ∃ u, u = zig n := ⟨_, rfl⟩
  have HU := Aside0.mk (rd_uvar w base Rb Rd T off SZ A D C i hs u (by omega) (by omega) j hj (hu ▸ hn) (hu ▸ hz))
  have ea : Go.bits .and .u64 u 1 = 0 := by rw [and_one u (by omega) (by omega)]; omega
  have ex : wrap64 (u / 2) = u / 2 := by unfold wrap64; omega
  have HX := Aside0.mk (show wrap64 (u / 2) = n by omega)
  have hu0 : 0 ≤ u := by omega
  clear hn hz hr hzg hs hu h0 h1 hc ex
  go_enter Try.func121, Try.ntmps121
  go_wp2_with (go_at_call 122; (with_reducible refine HU.out.mono ?_); rintro e W1 ⟨rfl, hd⟩; have HD := Aside0.mk hd; clear hd)
  go_ret2
  refine ⟨?_, HD.out⟩
  first | (rw [HX.out]; done) | (rw [HX.out]; rfl)
set_option maxHeartbeats 8000000 in
set_option maxRecDepth 100000 in
theorem rd_var_neg (w : World) (base Rb Rd T off SZ : Nat) (A : Option Addr) (D : List Int) (C i : Nat) (hs : Sr w base Rb Rd T off SZ A D C i) (n : Int) (h0 : -9223372036854775808 ≤ n) (h1 : n < 9223372036854775808) (hc : n < 0) (j : Nat) (hj : j < 10) (hn : nb j (zig n)) (hz : At D i (vbytes j (zig n))) :
    Calls Try.prog 121 #[.iface 61 (.pointer (some ⟨Rb, 0, none⟩))] w fun e w' => e = .returned (.tuple #[.int .i64 n, .nilIface]) ∧ Done w w' base Rb Rd T off SZ A D C (i + (j + 1)) := by
  have hr := zig_range n h0 h1
  have hzg : zig n = -2 * n - 1 := by unfold zig; rw [if_pos hc]
  obtain ⟨u, hu⟩ : ∃ u, u = zig n := ⟨_, rfl⟩
  have HU := Aside0.mk (rd_uvar w base Rb Rd T off SZ A D C i hs u (by omega) (by omega) j hj (hu ▸ hn) (hu ▸ hz))
  have ea : Go.bits .and .u64 u 1 = 1 := by rw [and_one u (by omega) (by omega)]; omega
  have ex : wrap64 (u / 2) = u / 2 := by unfold wrap64; omega
  have HX := Aside0.mk (show Go.bits .xor .i64 (-1) (wrap64 (u / 2)) = n by rw [ex, xor_neg (u / 2) (by omega) (by omega)]; omega)
  have hu0 : 0 ≤ u := by omega
  clear hn hz hr hzg hs hu h0 h1 hc ex
  go_enter Try.func121, Try.ntmps121
  go_wp2_with (go_at_call 122; (with_reducible refine HU.out.mono ?_); rintro e W1 ⟨rfl, hd⟩; have HD := Aside0.mk hd; clear hd)
  go_ret2
  refine ⟨?_, HD.out⟩
  first | (rw [HX.out]; done) | (rw [HX.out]; rfl)
theorem rd_var (w : World) (base Rb Rd T off SZ : Nat) (A : Option Addr) (D : List Int) (C i : Nat) (hs : Sr w base Rb Rd T off SZ A D C i) (n : Int) (h0 : -9223372036854775808 ≤ n) (h1 : n < 9223372036854775808) (j : Nat) (hj : j < 10) (hn : nb j (zig n)) (hz : At D i (vbytes j (zig n))) :
    Calls Try.prog 121 #[.iface 61 (.pointer (some ⟨Rb, 0, none⟩))] w fun e w' => e = .returned (.tuple #[.int .i64 n, .nilIface]) ∧ Done w w' base Rb Rd T off SZ A D C (i + (j + 1)) := by
  rcases Int.lt_or_le n 0 with h | h
  · exact rd_var_neg w base Rb Rd T off SZ A D C i hs n h0 h1 h j hj hn hz
  · exact rd_var_pos w base Rb Rd T off SZ A D C i hs n h0 h1 h j hj hn hz
set_option maxHeartbeats 8000000 in
set_option maxRecDepth 100000 in
theorem c_ru (w : World) (base Rb Rd T : Nat) (A : Option Addr) (D : List Int) (C i : Nat) (hs : Sr w base Rb Rd T 1 11 A D C i) (S : ByteArray) (M v : Int) (h0 : 0 ≤ v) (h1 : v < 18446744073709551616) (hM : v ≤ M) (j : Nat) (hj : j < 10) (hn : nb j v) (hz : At D i (vbytes j v)) :
    Calls Try.prog 120 #[.pointer (some ⟨Rd, 0, none⟩), .string S, .int .u64 M] w fun e w' => e = .returned (.tuple #[.int .u64 v, .nilIface]) ∧ Done w w' base Rb Rd T 1 11 A D C (i + (j + 1)) := by
  have HS := Aside0.mk hs
  have HK := Aside0.mk (Kp.refl w Rb Rd)
  have HB := Aside0.mk (Below.refl base w)
  have hta := is_byter Rb
  have HV := Aside0.mk (And.intro h0 h1)
  have HJ := Aside0.mk hj
  have HN := Aside0.mk hn
  have HZ := Aside0.mk hz
  have d1 : decide (M < v) = false := by simp; omega
  clear h0 h1 hj hn hz hM
  clear hs
  go_enter Try.func120, Try.ntmps120
  go_wp2_with (first | (go_at_call 118; (with_reducible refine (c_reader _ base Rb Rd T A D C _ HS.out).mono ?_); rintro e W1 ⟨rfl, rfl⟩) | (go_at_call 122; (with_reducible refine (rd_uvar _ base Rb Rd T 1 11 A D C _ HS.out v HV.out.1 HV.out.2 j HJ.out HN.out HZ.out).mono ?_); rintro e W1 ⟨rfl, hd⟩; have n1 := Aside0.mk hd.1; have n2 := Aside0.mk (HK.out.trans hd.2.1); have n3 := Aside0.mk (HB.out.trans hd.2.2); clear HS HK HB; have HS := n1; have HK := n2; have HB := n3; clear n1 n2 n3; clear hd))
  go_ret2
  exact ⟨rfl, HS.out, HK.out, HB.out⟩
set_option maxHeartbeats 8000000 in
set_option maxRecDepth 100000 in
theorem c_rv (w : World) (base Rb Rd T : Nat) (A : Option Addr) (D : List Int) (C i : Nat) (hs : Sr w base Rb Rd T 1 11 A D C i) (S : ByteArray) (L M n : Int) (h0 : -9223372036854775808 ≤ n) (h1 : n < 9223372036854775808) (hL : L ≤ n) (hM : n ≤ M) (j : Nat) (hj : j < 10) (hn : nb j (zig n)) (hz : At D i (vbytes j (zig n))) :
    Calls Try.prog 119 #[.pointer (some ⟨Rd, 0, none⟩), .string S, .int .i64 L, .int .i64 M] w fun e w' => e = .returned (.tuple #[.int .i64 n, .nilIface]) ∧ Done w w' base Rb Rd T 1 11 A D C (i + (j + 1)) := by
  have HS := Aside0.mk hs
  have HK := Aside0.mk (Kp.refl w Rb Rd)
  have HB := Aside0.mk (Below.refl base w)
  have hta := is_byter Rb
  have HV := Aside0.mk (And.intro h0 h1)
  have HJ := Aside0.mk hj
  have HN := Aside0.mk hn
  have HZ := Aside0.mk hz
  have d1 : decide (n < L) = false := by simp; omega
  have d2 : decide (M < n) = false := by simp; omega
  clear h0 h1 hj hn hz hL hM
  clear hs
  go_enter Try.func119, Try.ntmps119
  go_wp2_with (first | (go_at_call 118; (with_reducible refine (c_reader _ base Rb Rd T A D C _ HS.out).mono ?_); rintro e W1 ⟨rfl, rfl⟩) | (go_at_call 121; (with_reducible refine (rd_var _ base Rb Rd T 1 11 A D C _ HS.out n HV.out.1 HV.out.2 j HJ.out HN.out HZ.out).mono ?_); rintro e W1 ⟨rfl, hd⟩; have n1 := Aside0.mk hd.1; have n2 := Aside0.mk (HK.out.trans hd.2.1); have n3 := Aside0.mk (HB.out.trans hd.2.2); clear HS HK HB; have HS := n1; have HK := n2; have HB := n3; clear n1 n2 n3; clear hd))
  go_ret2
  exact ⟨rfl, HS.out, HK.out, HB.out⟩
end Go.Proofs.Ytmjilokgpgajjaa.Th
