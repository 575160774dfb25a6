/- The law on appended fields for all arguments, joined of its walk and what its parts tell. -/
import Derived.Test.YtokediiehlnjkaaDoorPbLaw
import Derived.Laws.BitsLemmas
import Derived.Laws.Bits64
import Derived.OpenShut
namespace Go.Proofs.YtokediiehlnjkaaDoor.Pb
open Go.RowKit Go.Proofs.YtokediiehlnjkaaDoorW.PrintWords Go.Proofs.YtokediiehlnjkaaDoorW.PrintLast Go.Proofs.YtokediiehlnjkaaDoorW.PrintMore Go.Proofs.YtokediiehlnjkaaDoor.PFnPBAppends
set_option linter.unusedVariables false
set_option linter.unusedSimpArgs false
theorem low_bytes (n : Int) (h0 : 0 ≤ n) (many : Nat) (hm : many ≤ 8) : ∀ (d i K : Nat) (acc : List Int), i + d = many → d < K → acc.length + d < 1000 → spec_WRLow.l0 K n (many : Int) acc (i : Int) = some (acc ++ lowbytes d (n / 256 ^ i))
  | 0, i, K + 1, acc, hi, _, _ => by
    simp only [spec_WRLow.l0]
    rw [if_neg (by omega)]
    simp [lowbytes]
  | d + 1, i, K + 1, acc, hi, hk, hl => by
    simp only [spec_WRLow.l0]
    have e1 : wrap64 (8 * (i : Int)) = 8 * (i : Int) := by unfold wrap64; omega
    have e2 : IntKind.u64.wrap (8 * (i : Int)) = 8 * (i : Int) := by rw [IntKind.wrap_u64]; omega
    have e3 : wrap64 ((i : Int) + 1) = ((i + 1 : Nat) : Int) := by unfold wrap64; omega
    have e4 : shr .u64 n (8 * (i : Int)) = n / 256 ^ i := by
      unfold shr
      have : min (8 * (i : Int)).toNat IntKind.u64.bits = 8 * i := by
        have : IntKind.u64.bits = 64 := rfl
        omega
      rw [this, Int.pow_mul]
      rfl
    rw [if_pos (by omega), e1, e2, if_pos (by omega), if_pos (by omega), e3, e4, low_bytes n h0 many hm d (i + 1) K _ (by omega) (by omega) (by simp; omega)]
    rw [lowbytes, Int.pow_succ, Int.ediv_ediv_of_nonneg (Int.pow_nonneg (by decide))]
    simp
theorem wrlow (n : Int) (h0 : 0 ≤ n) (many : Nat) (hm : many ≤ 8) (K : Nat) (hk : many < K) : spec_WRLow.f K n (many : Int) = some (lowbytes many n) := by
  unfold spec_WRLow.f
  have := low_bytes n h0 many hm many 0 K [] (by omega) hk (by simp; omega)
  simpa using this
theorem or8 (x y : Int) (h0 : 0 ≤ x) (h1 : x < 18446744073709551616) (h2 : x % 8 = 0) (h3 : 0 ≤ y) (h4 : y < 8) : Go.bits .or .u64 x y = x + y :=
  bits_join .u64 64 (by decide) (fun n a b => by rw [IntKind.wrap_u64]; omega) 3 x y h0 h2 h1 h3 h4 (by omega)
theorem tag_is (N ty : Int) (h0 : 0 ≤ N) (h1 : N < 4294967296) (h2 : 0 ≤ ty) (h3 : ty < 8) : Go.bits .or .u64 (IntKind.u64.wrap (N * 8)) ty = N * 8 + ty := by
  have e : IntKind.u64.wrap (N * 8) = N * 8 := by rw [IntKind.wrap_u64]; omega
  rw [e]
  exact or8 _ _ (by omega) (by omega) (by omega) h2 h3
theorem part_other (N ty : Int) (val : List Int) (j1 : Nat) (hj1 : j1 < 10) (T : Int) (hT : Go.bits .or .u64 (IntKind.u64.wrap (N * 8)) ty = T) (hn : nb j1 T) (hty : ty ≠ 2) (hl : val.length ≤ 3000000000) : spec_PBPart.f 20 N ty val = some (vbytes j1 T ++ val) := by
  have hv := vbytes_len j1 T
  unfold spec_PBPart.f
  rw [hT, wrvar j1 20 T hn (by omega) hj1, Option.bind_some, if_neg hty, if_pos (by omega)]
theorem part_two (N : Int) (val : List Int) (j1 : Nat) (hj1 : j1 < 10) (T : Int) (hT : Go.bits .or .u64 (IntKind.u64.wrap (N * 8)) 2 = T) (hn : nb j1 T) (j2 : Nat) (hj2 : j2 < 10) (hn2 : nb j2 (val.length : Int)) (hl : val.length ≤ 3000000000) : spec_PBPart.f 20 N 2 val = some ((vbytes j1 T ++ vbytes j2 val.length) ++ val) := by
  have hv := vbytes_len j1 T
  have hv2 := vbytes_len j2 val.length
  have e : IntKind.u64.wrap (val.length : Int) = (val.length : Int) := by rw [IntKind.wrap_u64]; omega
  unfold spec_PBPart.f
  rw [hT, wrvar j1 20 T hn (by omega) hj1, Option.bind_some, if_pos rfl, e, wrvar j2 20 _ hn2 (by omega) hj2, Option.bind_some, if_pos (by omega), Option.bind_some, if_pos (by simp; omega)]

theorem law_of (nu ki n : Int) (ms lv : List Int) (hnu0 : 0 ≤ nu) (hnu1 : nu ≤ 4294967295) (hk0 : 0 ≤ ki) (hk1 : ki ≤ 255) (hn0 : 0 ≤ n) (hn1 : n ≤ 18446744073709551615)
    (Am : Option Addr) (cm : Nat) (Av : Option Addr) (cv : Nat) (w : World) (hms : (Kd.int .u8).C w Am ms.length ms) (hlv : (Kd.int .u8).C w Av lv.length lv) (hcv : lv.length ≤ cv) (l1 : ms.length ≤ 2147483647) (l2 : lv.length ≤ 2147483647) :
    Calls Tryd.prog 3 #[.slice Am ms.length cm, .int .u32 nu, .int .u8 ki, .int .u64 n, .slice Av lv.length cv] w fun e w' => e = .returned (.bool true) ∧ Below w.heap.size w w' := by
  obtain ⟨N, hN⟩ : ∃ N, IntKind.u64.wrap ((Int.tmod (IntKind.u64.wrap nu) 536870911) + 1) = N := ⟨_, rfl⟩
  have hNb : 0 ≤ N ∧ N < 4294967296 := by
    have e : IntKind.u64.wrap nu = nu := by rw [IntKind.wrap_u64]; omega
    have e2 : Int.tmod nu 536870911 = nu % 536870911 := Int.tmod_eq_emod_of_nonneg hnu0
    rw [e, e2, IntKind.wrap_u64] at hN
    omega
  have ek : Int.tmod ki 4 = ki % 4 := Int.tmod_eq_emod_of_nonneg hk0
  by_cases k0 : ki % 4 = 0
  · obtain ⟨j0, hj0, hq0, hv0, hw0⟩ := nb_some n hn0 (by omega)
    obtain ⟨j1, hj1, hq1, hv1, hw1⟩ := nb_some (N * 8 + 0) (by omega) (by omega)
    have hT := tag_is N 0 hNb.1 hNb.2 (by decide) (by decide)
    have hlen := vbytes_len j0 n
    have hlen1 := vbytes_len j1 (N * 8 + 0)
    exact law3 20 nu ki n ms lv N 0 (vbytes j0 n) (vbytes j1 (N * 8 + 0) ++ vbytes j0 n)
      (by unfold laws_pbPart.f; rw [ek, if_pos k0, wrvar j0 20 n hq0 (by omega) hj0, hN]; rfl)
      (part_other N 0 _ j1 hj1 _ hT hq1 (by decide) (by omega))
      (app0 N n lv j1 hj1 _ hT (by omega) (by omega) hv1 hw1 j0 hj0 hn0 (by omega) hv0 hw0)
      Am cm Av cv w hms hlv hcv l1 l2 (by decide) (by decide) (by simp only [List.length_append]; omega)
  by_cases k1 : ki % 4 = 1
  · obtain ⟨j1, hj1, hq1, hv1, hw1⟩ := nb_some (N * 8 + 1) (by omega) (by omega)
    have hT := tag_is N 1 hNb.1 hNb.2 (by decide) (by decide)
    have hlen := lowbytes_len 8 n
    have hlen1 := vbytes_len j1 (N * 8 + 1)
    exact law3 20 nu ki n ms lv N 1 (lowbytes 8 n) (vbytes j1 (N * 8 + 1) ++ lowbytes 8 n)
      (by unfold laws_pbPart.f; rw [ek, if_neg k0, if_pos k1, (show spec_WRLow.f 20 n 8 = some (lowbytes 8 n) from wrlow n hn0 8 (by decide) 20 (by decide)), hN]; rfl)
      (part_other N 1 _ j1 hj1 _ hT hq1 (by decide) (by omega))
      (app1 N n lv j1 hj1 _ hT (by omega) (by omega) hv1 hw1 hn0 (by omega))
      Am cm Av cv w hms hlv hcv l1 l2 (by decide) (by decide) (by simp only [List.length_append]; omega)
  by_cases k2 : ki % 4 = 2
  · obtain ⟨j2, hj2, hq2, hv2, hw2⟩ := nb_some (lv.length : Int) (by omega) (by omega)
    obtain ⟨j1, hj1, hq1, hv1, hw1⟩ := nb_some (N * 8 + 2) (by omega) (by omega)
    have hT := tag_is N 2 hNb.1 hNb.2 (by decide) (by decide)
    have hlen := vbytes_len j2 lv.length
    have hlen1 := vbytes_len j1 (N * 8 + 2)
    exact law3 20 nu ki n ms lv N 2 lv ((vbytes j1 (N * 8 + 2) ++ vbytes j2 lv.length) ++ lv)
      (by unfold laws_pbPart.f; rw [ek, if_neg k0, if_neg k1, if_pos k2, Option.bind_some, if_pos (by simp; omega), hN]; rfl)
      (part_two N lv j1 hj1 _ hT hq1 j2 hj2 hq2 (by omega))
      (app2 N n lv j1 hj1 _ hT (by omega) (by omega) hv1 hw1 j2 hj2 hv2 hw2 (by omega))
      Am cm Av cv w hms hlv hcv l1 l2 (by decide) (by decide) (by simp only [List.length_append]; omega)
  · obtain ⟨j1, hj1, hq1, hv1, hw1⟩ := nb_some (N * 8 + 5) (by omega) (by omega)
    have hT := tag_is N 5 hNb.1 hNb.2 (by decide) (by decide)
    have hlen := lowbytes_len 4 n
    have hlen1 := vbytes_len j1 (N * 8 + 5)
    exact law3 20 nu ki n ms lv N 5 (lowbytes 4 n) (vbytes j1 (N * 8 + 5) ++ lowbytes 4 n)
      (by unfold laws_pbPart.f; rw [ek, if_neg k0, if_neg k1, if_neg k2, (show spec_WRLow.f 20 n 4 = some (lowbytes 4 n) from wrlow n hn0 4 (by decide) 20 (by decide)), hN]; rfl)
      (part_other N 5 _ j1 hj1 _ hT hq1 (by decide) (by omega))
      (app5 N n lv j1 hj1 _ hT (by omega) (by omega) hv1 hw1 hn0 (by omega))
      Am cm Av cv w hms hlv hcv l1 l2 (by decide) (by decide) (by simp only [List.length_append]; omega)

set_option maxHeartbeats 4000000 in
set_option maxRecDepth 100000 in
theorem law_long (nu ki n : Int) (lm ll : Nat) (Am : Option Addr) (cm : Nat) (Av : Option Addr) (cv : Nat) (w : World) (hl : 2147483647 < lm ∨ 2147483647 < ll) :
    Calls Tryd.prog 3 #[.slice Am lm cm, .int .u32 nu, .int .u8 ki, .int .u64 n, .slice Av ll cv] w fun e w' => e = .returned (.bool true) ∧ Below w.heap.size w w' := by
  by_cases h : 2147483647 < lm
  · have d1 : decide ((2147483647 : Int) < (lm : Int)) = true := by simp; omega
    clear hl h
    go_enter Tryd.func3, Tryd.ntmps3
    go_wp2
    go_ret
    exact ⟨rfl, Below.refl _ _⟩
  · have d1 : decide ((2147483647 : Int) < (lm : Int)) = false := by simp; omega
    have d2 : decide ((2147483647 : Int) < (ll : Int)) = true := by simp; omega
    clear hl h
    go_enter Tryd.func3, Tryd.ntmps3
    go_wp2
    go_ret
    exact ⟨rfl, Below.refl _ _⟩
/-- The law, whatever its arguments. -/
theorem law (nu ki n : Int) (ms lv : List Int) (hnu0 : 0 ≤ nu) (hnu1 : nu ≤ 4294967295) (hk0 : 0 ≤ ki) (hk1 : ki ≤ 255) (hn0 : 0 ≤ n) (hn1 : n ≤ 18446744073709551615)
    (Am : Option Addr) (cm : Nat) (Av : Option Addr) (cv : Nat) (w : World) (hms : (Kd.int .u8).C w Am ms.length ms) (hlv : (Kd.int .u8).C w Av lv.length lv) (hcv : lv.length ≤ cv) :
    Calls Tryd.prog 3 #[.slice Am ms.length cm, .int .u32 nu, .int .u8 ki, .int .u64 n, .slice Av lv.length cv] w fun e w' => e = .returned (.bool true) ∧ Below w.heap.size w w' := by
  by_cases h : 2147483647 < ms.length ∨ 2147483647 < lv.length
  · exact law_long nu ki n _ _ Am cm Av cv w h
  · exact law_of nu ki n ms lv hnu0 hnu1 hk0 hk1 hn0 hn1 Am cm Av cv w hms hlv hcv (by omega) (by omega)
end Go.Proofs.YtokediiehlnjkaaDoor.Pb
