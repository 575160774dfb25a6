/- The law on fields of each kind for all arguments, joined of its walks and what its parts tell. -/
import Derived.Test.YtokediiehlnjkaaDoorPbLaw4A
import Derived.Test.YtokediiehlnjkaaDoorPbLaw4B
import Derived.Test.YtokediiehlnjkaaDoorPbLaw4C
import Derived.Test.YtokediiehlnjkaaDoorPbLaw4D
namespace Go.Proofs.YtokediiehlnjkaaDoor.Pb
open Go.RowKit Go.Proofs.YtokediiehlnjkaaDoorW.PrintWords Go.Proofs.YtokediiehlnjkaaDoorW.PrintLast Go.Proofs.YtokediiehlnjkaaDoorW.PrintMore Go.Proofs.YtokediiehlnjkaaDoor.PFnPBAppends
set_option linter.unusedVariables false
set_option linter.unusedSimpArgs false

theorem f0 (ki nu n : Int) (lv : List Int) (N : Int) (hNb0 : 0 ≤ N) (hNb1 : N < 4294967296) (hN : IntKind.u64.wrap ((Int.tmod (IntKind.u64.wrap nu) 536870911) + 1) = N) (hn0 : 0 ≤ n) (hn1 : n < 18446744073709551616) (hk : Int.tmod (wrap64 ki) 13 = 0) (Av : Option Addr) (cv : Nat) (w : World) (hlv : (Kd.int .u8).C w Av lv.length lv) (hcv : lv.length ≤ cv) (l2 : lv.length ≤ 2147483647) :
    Calls Tryd.prog 4 #[.int .u8 ki, .int .u32 nu, .int .u64 n, .slice Av lv.length cv] w fun e w' => e = .returned (.bool true) ∧ Below w.heap.size w w' := by
  obtain ⟨x, hx⟩ : ∃ x, Int.tmod n 2 = x := ⟨_, rfl⟩
  have hxb : 0 ≤ x ∧ x < 18446744073709551616 := by
    rw [← hx]
    rw [Int.tmod_eq_emod_of_nonneg hn0]
    omega
  obtain ⟨j0, hj0, hq0, hv0, hw0⟩ := nb_some x hxb.1 hxb.2
  obtain ⟨j1, hj1, hq1, hv1, hw1⟩ := nb_some (N * 8 + 0) (by omega) (by omega)
  have hT := tag_is N 0 hNb0 hNb1 (by decide) (by decide)
  have hlen := vbytes_len j0 x
  exact law4_0 ki nu n lv N x (vbytes j0 x) (vbytes j1 (N * 8 + 0) ++ vbytes j0 x) hk hN (wrvar j0 20 x hq0 (by omega) hj0) hx (part_other N 0 _ j1 hj1 _ hT hq1 (by decide) (by omega))
    (by
      have h2 : x = 0 ∨ x = 1 := by rw [← hx, Int.tmod_eq_emod_of_nonneg hn0]; omega
      rcases h2 with h2 | h2
      · exact fld0a N x lv j1 hj1 _ hT (by omega) (by omega) hv1 hw1 j0 hj0 hxb.1 hxb.2 hv0 hw0 h2
      · exact fld0b N x lv j1 hj1 _ hT (by omega) (by omega) hv1 hw1 j0 hj0 hxb.1 hxb.2 hv0 hw0 h2) Av cv w hlv hcv l2

theorem f1 (ki nu n : Int) (lv : List Int) (N : Int) (hNb0 : 0 ≤ N) (hNb1 : N < 4294967296) (hN : IntKind.u64.wrap ((Int.tmod (IntKind.u64.wrap nu) 536870911) + 1) = N) (hn0 : 0 ≤ n) (hn1 : n < 18446744073709551616) (hk : Int.tmod (wrap64 ki) 13 = 1) (Av : Option Addr) (cv : Nat) (w : World) (hlv : (Kd.int .u8).C w Av lv.length lv) (hcv : lv.length ≤ cv) (l2 : lv.length ≤ 2147483647) :
    Calls Tryd.prog 4 #[.int .u8 ki, .int .u32 nu, .int .u64 n, .slice Av lv.length cv] w fun e w' => e = .returned (.bool true) ∧ Below w.heap.size w w' := by
  obtain ⟨x, hx⟩ : ∃ x, IntKind.u64.wrap (wrap64 (wrap32 n)) = x := ⟨_, rfl⟩
  have hxb : 0 ≤ x ∧ x < 18446744073709551616 := by
    rw [← hx]
    rw [IntKind.wrap_u64]
    omega
  obtain ⟨j0, hj0, hq0, hv0, hw0⟩ := nb_some x hxb.1 hxb.2
  obtain ⟨j1, hj1, hq1, hv1, hw1⟩ := nb_some (N * 8 + 0) (by omega) (by omega)
  have hT := tag_is N 0 hNb0 hNb1 (by decide) (by decide)
  have hlen := vbytes_len j0 x
  exact law4_1 ki nu n lv N x (vbytes j0 x) (vbytes j1 (N * 8 + 0) ++ vbytes j0 x) hk hN (wrvar j0 20 x hq0 (by omega) hj0) hx (part_other N 0 _ j1 hj1 _ hT hq1 (by decide) (by omega))
    (fld1 N x lv j1 hj1 _ hT (by omega) (by omega) hv1 hw1 j0 hj0 hxb.1 hxb.2 hv0 hw0 (by rw [← hx]; simp only [IntKind.wrap_u64, wrap64, wrap32]; omega)) Av cv w hlv hcv l2

theorem f2 (ki nu n : Int) (lv : List Int) (N : Int) (hNb0 : 0 ≤ N) (hNb1 : N < 4294967296) (hN : IntKind.u64.wrap ((Int.tmod (IntKind.u64.wrap nu) 536870911) + 1) = N) (hn0 : 0 ≤ n) (hn1 : n < 18446744073709551616) (hk : Int.tmod (wrap64 ki) 13 = 2) (Av : Option Addr) (cv : Nat) (w : World) (hlv : (Kd.int .u8).C w Av lv.length lv) (hcv : lv.length ≤ cv) (l2 : lv.length ≤ 2147483647) :
    Calls Tryd.prog 4 #[.int .u8 ki, .int .u32 nu, .int .u64 n, .slice Av lv.length cv] w fun e w' => e = .returned (.bool true) ∧ Below w.heap.size w w' := by
  obtain ⟨x, hx⟩ : ∃ x, n = x := ⟨_, rfl⟩
  have hxb : 0 ≤ x ∧ x < 18446744073709551616 := by
    rw [← hx]
    omega
  obtain ⟨j0, hj0, hq0, hv0, hw0⟩ := nb_some x hxb.1 hxb.2
  obtain ⟨j1, hj1, hq1, hv1, hw1⟩ := nb_some (N * 8 + 0) (by omega) (by omega)
  have hT := tag_is N 0 hNb0 hNb1 (by decide) (by decide)
  have hlen := vbytes_len j0 x
  exact law4_2 ki nu n lv N x (vbytes j0 x) (vbytes j1 (N * 8 + 0) ++ vbytes j0 x) hk hN (wrvar j0 20 x hq0 (by omega) hj0) hx (part_other N 0 _ j1 hj1 _ hT hq1 (by decide) (by omega))
    (fld2 N x lv j1 hj1 _ hT (by omega) (by omega) hv1 hw1 j0 hj0 hxb.1 hxb.2 hv0 hw0 (by simp only [IntKind.wrap_u64, wrap64]; omega)) Av cv w hlv hcv l2

theorem f3 (ki nu n : Int) (lv : List Int) (N : Int) (hNb0 : 0 ≤ N) (hNb1 : N < 4294967296) (hN : IntKind.u64.wrap ((Int.tmod (IntKind.u64.wrap nu) 536870911) + 1) = N) (hn0 : 0 ≤ n) (hn1 : n < 18446744073709551616) (hk : Int.tmod (wrap64 ki) 13 = 3) (Av : Option Addr) (cv : Nat) (w : World) (hlv : (Kd.int .u8).C w Av lv.length lv) (hcv : lv.length ≤ cv) (l2 : lv.length ≤ 2147483647) :
    Calls Tryd.prog 4 #[.int .u8 ki, .int .u32 nu, .int .u64 n, .slice Av lv.length cv] w fun e w' => e = .returned (.bool true) ∧ Below w.heap.size w w' := by
  obtain ⟨x, hx⟩ : ∃ x, n = x := ⟨_, rfl⟩
  have hxb : 0 ≤ x ∧ x < 18446744073709551616 := by
    rw [← hx]
    omega
  obtain ⟨j0, hj0, hq0, hv0, hw0⟩ := nb_some x hxb.1 hxb.2
  obtain ⟨j1, hj1, hq1, hv1, hw1⟩ := nb_some (N * 8 + 0) (by omega) (by omega)
  have hT := tag_is N 0 hNb0 hNb1 (by decide) (by decide)
  have hlen := vbytes_len j0 x
  exact law4_3 ki nu n lv N x (vbytes j0 x) (vbytes j1 (N * 8 + 0) ++ vbytes j0 x) hk hN (wrvar j0 20 x hq0 (by omega) hj0) hx (part_other N 0 _ j1 hj1 _ hT hq1 (by decide) (by omega))
    (fld3 N x lv j1 hj1 _ hT (by omega) (by omega) hv1 hw1 j0 hj0 hxb.1 hxb.2 hv0 hw0 (by simp only [IntKind.wrap_u64, wrap64]; omega)) Av cv w hlv hcv l2

theorem f4 (ki nu n : Int) (lv : List Int) (N : Int) (hNb0 : 0 ≤ N) (hNb1 : N < 4294967296) (hN : IntKind.u64.wrap ((Int.tmod (IntKind.u64.wrap nu) 536870911) + 1) = N) (hn0 : 0 ≤ n) (hn1 : n < 18446744073709551616) (hk : Int.tmod (wrap64 ki) 13 = 4) (Av : Option Addr) (cv : Nat) (w : World) (hlv : (Kd.int .u8).C w Av lv.length lv) (hcv : lv.length ≤ cv) (l2 : lv.length ≤ 2147483647) :
    Calls Tryd.prog 4 #[.int .u8 ki, .int .u32 nu, .int .u64 n, .slice Av lv.length cv] w fun e w' => e = .returned (.bool true) ∧ Below w.heap.size w w' := by
  obtain ⟨x, hx⟩ : ∃ x, Int.tmod n 4294967296 = x := ⟨_, rfl⟩
  have hxb : 0 ≤ x ∧ x < 18446744073709551616 := by
    rw [← hx]
    rw [Int.tmod_eq_emod_of_nonneg hn0]
    omega
  obtain ⟨j0, hj0, hq0, hv0, hw0⟩ := nb_some x hxb.1 hxb.2
  obtain ⟨j1, hj1, hq1, hv1, hw1⟩ := nb_some (N * 8 + 0) (by omega) (by omega)
  have hT := tag_is N 0 hNb0 hNb1 (by decide) (by decide)
  have hlen := vbytes_len j0 x
  exact law4_4 ki nu n lv N x (vbytes j0 x) (vbytes j1 (N * 8 + 0) ++ vbytes j0 x) hk hN (wrvar j0 20 x hq0 (by omega) hj0) hx (part_other N 0 _ j1 hj1 _ hT hq1 (by decide) (by omega))
    (fld4 N x lv j1 hj1 _ hT (by omega) (by omega) hv1 hw1 j0 hj0 hxb.1 hxb.2 hv0 hw0 (by rw [← hx, Int.tmod_eq_emod_of_nonneg hn0]; omega)) Av cv w hlv hcv l2

theorem f5 (ki nu n : Int) (lv : List Int) (N : Int) (hNb0 : 0 ≤ N) (hNb1 : N < 4294967296) (hN : IntKind.u64.wrap ((Int.tmod (IntKind.u64.wrap nu) 536870911) + 1) = N) (hn0 : 0 ≤ n) (hn1 : n < 18446744073709551616) (hk : Int.tmod (wrap64 ki) 13 = 5) (Av : Option Addr) (cv : Nat) (w : World) (hlv : (Kd.int .u8).C w Av lv.length lv) (hcv : lv.length ≤ cv) (l2 : lv.length ≤ 2147483647) :
    Calls Tryd.prog 4 #[.int .u8 ki, .int .u32 nu, .int .u64 n, .slice Av lv.length cv] w fun e w' => e = .returned (.bool true) ∧ Below w.heap.size w w' := by
  obtain ⟨x, hx⟩ : ∃ x, n = x := ⟨_, rfl⟩
  have hxb : 0 ≤ x ∧ x < 18446744073709551616 := by
    rw [← hx]
    omega
  obtain ⟨j0, hj0, hq0, hv0, hw0⟩ := nb_some x hxb.1 hxb.2
  obtain ⟨j1, hj1, hq1, hv1, hw1⟩ := nb_some (N * 8 + 0) (by omega) (by omega)
  have hT := tag_is N 0 hNb0 hNb1 (by decide) (by decide)
  have hlen := vbytes_len j0 x
  exact law4_5 ki nu n lv N x (vbytes j0 x) (vbytes j1 (N * 8 + 0) ++ vbytes j0 x) hk hN (wrvar j0 20 x hq0 (by omega) hj0) hx (part_other N 0 _ j1 hj1 _ hT hq1 (by decide) (by omega))
    (fld5 N x lv j1 hj1 _ hT (by omega) (by omega) hv1 hw1 j0 hj0 hxb.1 hxb.2 hv0 hw0) Av cv w hlv hcv l2

theorem f6 (ki nu n : Int) (lv : List Int) (N : Int) (hNb0 : 0 ≤ N) (hNb1 : N < 4294967296) (hN : IntKind.u64.wrap ((Int.tmod (IntKind.u64.wrap nu) 536870911) + 1) = N) (hn0 : 0 ≤ n) (hn1 : n < 18446744073709551616) (hk : Int.tmod (wrap64 ki) 13 = 6) (Av : Option Addr) (cv : Nat) (w : World) (hlv : (Kd.int .u8).C w Av lv.length lv) (hcv : lv.length ≤ cv) (l2 : lv.length ≤ 2147483647) :
    Calls Tryd.prog 4 #[.int .u8 ki, .int .u32 nu, .int .u64 n, .slice Av lv.length cv] w fun e w' => e = .returned (.bool true) ∧ Below w.heap.size w w' := by
  obtain ⟨x, hx⟩ : ∃ x, n = x := ⟨_, rfl⟩
  have hxb : 0 ≤ x ∧ x < 18446744073709551616 := by
    rw [← hx]
    omega
  obtain ⟨j0, hj0, hq0, hv0, hw0⟩ := nb_some x hxb.1 hxb.2
  obtain ⟨j1, hj1, hq1, hv1, hw1⟩ := nb_some (N * 8 + 0) (by omega) (by omega)
  have hT := tag_is N 0 hNb0 hNb1 (by decide) (by decide)
  have hlen := vbytes_len j0 x
  exact law4_6 ki nu n lv N x (vbytes j0 x) (vbytes j1 (N * 8 + 0) ++ vbytes j0 x) hk hN (wrvar j0 20 x hq0 (by omega) hj0) hx (part_other N 0 _ j1 hj1 _ hT hq1 (by decide) (by omega))
    (fld6 N x lv j1 hj1 _ hT (by omega) (by omega) hv1 hw1 j0 hj0 hxb.1 hxb.2 hv0 hw0) Av cv w hlv hcv l2

theorem f7 (ki nu n : Int) (lv : List Int) (N : Int) (hNb0 : 0 ≤ N) (hNb1 : N < 4294967296) (hN : IntKind.u64.wrap ((Int.tmod (IntKind.u64.wrap nu) 536870911) + 1) = N) (hn0 : 0 ≤ n) (hn1 : n < 18446744073709551616) (hk : Int.tmod (wrap64 ki) 13 = 7)  (Av : Option Addr) (cv : Nat) (w : World) (hlv : (Kd.int .u8).C w Av lv.length lv) (hcv : lv.length ≤ cv) (l2 : lv.length ≤ 2147483647) :
    Calls Tryd.prog 4 #[.int .u8 ki, .int .u32 nu, .int .u64 n, .slice Av lv.length cv] w fun e w' => e = .returned (.bool true) ∧ Below w.heap.size w w' := by
  obtain ⟨x, hx⟩ : ∃ x, Int.tmod n 4294967296 = x := ⟨_, rfl⟩
  have hxb : 0 ≤ x ∧ x < 4294967296 := by
    rw [← hx]
    rw [Int.tmod_eq_emod_of_nonneg hn0]
    omega
  obtain ⟨j1, hj1, hq1, hv1, hw1⟩ := nb_some (N * 8 + 5) (by omega) (by omega)
  have hT := tag_is N 5 hNb0 hNb1 (by decide) (by decide)
  have hlen := lowbytes_len 4 x
  exact law4_7 ki nu n lv N x (lowbytes 4 x) (vbytes j1 (N * 8 + 5) ++ lowbytes 4 x) hk hN (show spec_WRLow.f 20 x 4 = some (lowbytes 4 x) from wrlow x hxb.1 4 (by decide) 20 (by decide)) hx (part_other N 5 _ j1 hj1 _ hT hq1 (by decide) (by omega))
    (fld7 N x lv j1 hj1 _ hT (by omega) (by omega) hv1 hw1 hxb.1 hxb.2) Av cv w hlv hcv l2

theorem f8 (ki nu n : Int) (lv : List Int) (N : Int) (hNb0 : 0 ≤ N) (hNb1 : N < 4294967296) (hN : IntKind.u64.wrap ((Int.tmod (IntKind.u64.wrap nu) 536870911) + 1) = N) (hn0 : 0 ≤ n) (hn1 : n < 18446744073709551616) (hk : Int.tmod (wrap64 ki) 13 = 8)  (Av : Option Addr) (cv : Nat) (w : World) (hlv : (Kd.int .u8).C w Av lv.length lv) (hcv : lv.length ≤ cv) (l2 : lv.length ≤ 2147483647) :
    Calls Tryd.prog 4 #[.int .u8 ki, .int .u32 nu, .int .u64 n, .slice Av lv.length cv] w fun e w' => e = .returned (.bool true) ∧ Below w.heap.size w w' := by
  obtain ⟨x, hx⟩ : ∃ x, n = x := ⟨_, rfl⟩
  have hxb : 0 ≤ x ∧ x < 18446744073709551616 := by
    rw [← hx]
    omega
  obtain ⟨j1, hj1, hq1, hv1, hw1⟩ := nb_some (N * 8 + 1) (by omega) (by omega)
  have hT := tag_is N 1 hNb0 hNb1 (by decide) (by decide)
  have hlen := lowbytes_len 8 x
  exact law4_8 ki nu n lv N x (lowbytes 8 x) (vbytes j1 (N * 8 + 1) ++ lowbytes 8 x) hk hN (show spec_WRLow.f 20 x 8 = some (lowbytes 8 x) from wrlow x hxb.1 8 (by decide) 20 (by decide)) hx (part_other N 1 _ j1 hj1 _ hT hq1 (by decide) (by omega))
    (fld8 N x lv j1 hj1 _ hT (by omega) (by omega) hv1 hw1 hxb.1 hxb.2) Av cv w hlv hcv l2

theorem f9a (ki nu n : Int) (lv : List Int) (N : Int) (hNb0 : 0 ≤ N) (hNb1 : N < 4294967296) (hN : IntKind.u64.wrap ((Int.tmod (IntKind.u64.wrap nu) 536870911) + 1) = N) (hn0 : 0 ≤ n) (hn1 : n < 18446744073709551616) (hk : Int.tmod (wrap64 ki) 13 = 9) (hb : (Go.bits .and .u64 (Int.tmod n 4294967296 / 8388608) 255 == 255) = false) (Av : Option Addr) (cv : Nat) (w : World) (hlv : (Kd.int .u8).C w Av lv.length lv) (hcv : lv.length ≤ cv) (l2 : lv.length ≤ 2147483647) :
    Calls Tryd.prog 4 #[.int .u8 ki, .int .u32 nu, .int .u64 n, .slice Av lv.length cv] w fun e w' => e = .returned (.bool true) ∧ Below w.heap.size w w' := by
  obtain ⟨x, hx⟩ : ∃ x, Int.tmod n 4294967296 = x := ⟨_, rfl⟩
  have hxb : 0 ≤ x ∧ x < 4294967296 := by
    rw [← hx]
    rw [Int.tmod_eq_emod_of_nonneg hn0]
    omega
  obtain ⟨j1, hj1, hq1, hv1, hw1⟩ := nb_some (N * 8 + 5) (by omega) (by omega)
  have hT := tag_is N 5 hNb0 hNb1 (by decide) (by decide)
  have hlen := lowbytes_len 4 x
  exact law4_9a ki nu n lv N x (lowbytes 4 x) (vbytes j1 (N * 8 + 5) ++ lowbytes 4 x) hk hN (show spec_WRLow.f 20 x 4 = some (lowbytes 4 x) from wrlow x hxb.1 4 (by decide) 20 (by decide)) hx (by rw [← hx]; exact hb) (part_other N 5 _ j1 hj1 _ hT hq1 (by decide) (by omega))
    (fld9 N x lv j1 hj1 _ hT (by omega) (by omega) hv1 hw1 hxb.1 hxb.2 (ext27 x) (fun w => by have h := ext36 x.toNat w; rw [Int.toNat_of_nonneg hxb.1] at h; exact h)) Av cv w hlv hcv l2

theorem f9b (ki nu n : Int) (lv : List Int) (N : Int) (hNb0 : 0 ≤ N) (hNb1 : N < 4294967296) (hN : IntKind.u64.wrap ((Int.tmod (IntKind.u64.wrap nu) 536870911) + 1) = N) (hn0 : 0 ≤ n) (hn1 : n < 18446744073709551616) (hk : Int.tmod (wrap64 ki) 13 = 9) (hb : (Go.bits .and .u64 (Int.tmod n 4294967296 / 8388608) 255 == 255) = true) (Av : Option Addr) (cv : Nat) (w : World) (hlv : (Kd.int .u8).C w Av lv.length lv) (hcv : lv.length ≤ cv) (l2 : lv.length ≤ 2147483647) :
    Calls Tryd.prog 4 #[.int .u8 ki, .int .u32 nu, .int .u64 n, .slice Av lv.length cv] w fun e w' => e = .returned (.bool true) ∧ Below w.heap.size w w' := by
  obtain ⟨x, hx⟩ : ∃ x, (1073741824 : Int) = x := ⟨_, rfl⟩
  have hxb : 0 ≤ x ∧ x < 4294967296 := by
    rw [← hx]
    decide
  obtain ⟨j1, hj1, hq1, hv1, hw1⟩ := nb_some (N * 8 + 5) (by omega) (by omega)
  have hT := tag_is N 5 hNb0 hNb1 (by decide) (by decide)
  have hlen := lowbytes_len 4 x
  exact law4_9b ki nu n lv N x (lowbytes 4 x) (vbytes j1 (N * 8 + 5) ++ lowbytes 4 x) hk hN (show spec_WRLow.f 20 x 4 = some (lowbytes 4 x) from wrlow x hxb.1 4 (by decide) 20 (by decide)) _ rfl hx hb (part_other N 5 _ j1 hj1 _ hT hq1 (by decide) (by omega))
    (fld9 N x lv j1 hj1 _ hT (by omega) (by omega) hv1 hw1 hxb.1 hxb.2 (ext27 x) (fun w => by have h := ext36 x.toNat w; rw [Int.toNat_of_nonneg hxb.1] at h; exact h)) Av cv w hlv hcv l2

theorem f10a (ki nu n : Int) (lv : List Int) (N : Int) (hNb0 : 0 ≤ N) (hNb1 : N < 4294967296) (hN : IntKind.u64.wrap ((Int.tmod (IntKind.u64.wrap nu) 536870911) + 1) = N) (hn0 : 0 ≤ n) (hn1 : n < 18446744073709551616) (hk : Int.tmod (wrap64 ki) 13 = 10) (hb : (Go.bits .and .u64 (n / 4503599627370496) 2047 == 2047) = false) (Av : Option Addr) (cv : Nat) (w : World) (hlv : (Kd.int .u8).C w Av lv.length lv) (hcv : lv.length ≤ cv) (l2 : lv.length ≤ 2147483647) :
    Calls Tryd.prog 4 #[.int .u8 ki, .int .u32 nu, .int .u64 n, .slice Av lv.length cv] w fun e w' => e = .returned (.bool true) ∧ Below w.heap.size w w' := by
  obtain ⟨x, hx⟩ : ∃ x, n = x := ⟨_, rfl⟩
  have hxb : 0 ≤ x ∧ x < 18446744073709551616 := by
    rw [← hx]
    omega
  obtain ⟨j1, hj1, hq1, hv1, hw1⟩ := nb_some (N * 8 + 1) (by omega) (by omega)
  have hT := tag_is N 1 hNb0 hNb1 (by decide) (by decide)
  have hlen := lowbytes_len 8 x
  exact law4_10a ki nu n lv N x (lowbytes 8 x) (vbytes j1 (N * 8 + 1) ++ lowbytes 8 x) hk hN (show spec_WRLow.f 20 x 8 = some (lowbytes 8 x) from wrlow x hxb.1 8 (by decide) 20 (by decide)) hx hb (part_other N 1 _ j1 hj1 _ hT hq1 (by decide) (by omega))
    (fld10 N x lv j1 hj1 _ hT (by omega) (by omega) hv1 hw1 hxb.1 hxb.2 (ext29 x) (fun w => by have h := ext37 x.toNat w; rw [Int.toNat_of_nonneg hxb.1] at h; exact h)) Av cv w hlv hcv l2

theorem f10b (ki nu n : Int) (lv : List Int) (N : Int) (hNb0 : 0 ≤ N) (hNb1 : N < 4294967296) (hN : IntKind.u64.wrap ((Int.tmod (IntKind.u64.wrap nu) 536870911) + 1) = N) (hn0 : 0 ≤ n) (hn1 : n < 18446744073709551616) (hk : Int.tmod (wrap64 ki) 13 = 10) (hb : (Go.bits .and .u64 (n / 4503599627370496) 2047 == 2047) = true) (Av : Option Addr) (cv : Nat) (w : World) (hlv : (Kd.int .u8).C w Av lv.length lv) (hcv : lv.length ≤ cv) (l2 : lv.length ≤ 2147483647) :
    Calls Tryd.prog 4 #[.int .u8 ki, .int .u32 nu, .int .u64 n, .slice Av lv.length cv] w fun e w' => e = .returned (.bool true) ∧ Below w.heap.size w w' := by
  obtain ⟨x, hx⟩ : ∃ x, (4611686018427387904 : Int) = x := ⟨_, rfl⟩
  have hxb : 0 ≤ x ∧ x < 18446744073709551616 := by
    rw [← hx]
    decide
  obtain ⟨j1, hj1, hq1, hv1, hw1⟩ := nb_some (N * 8 + 1) (by omega) (by omega)
  have hT := tag_is N 1 hNb0 hNb1 (by decide) (by decide)
  have hlen := lowbytes_len 8 x
  exact law4_10b ki nu n lv N x (lowbytes 8 x) (vbytes j1 (N * 8 + 1) ++ lowbytes 8 x) hk hN (show spec_WRLow.f 20 x 8 = some (lowbytes 8 x) from wrlow x hxb.1 8 (by decide) 20 (by decide)) hx hb (part_other N 1 _ j1 hj1 _ hT hq1 (by decide) (by omega))
    (fld10 N x lv j1 hj1 _ hT (by omega) (by omega) hv1 hw1 hxb.1 hxb.2 (ext29 x) (fun w => by have h := ext37 x.toNat w; rw [Int.toNat_of_nonneg hxb.1] at h; exact h)) Av cv w hlv hcv l2

theorem f11 (ki nu n : Int) (lv : List Int) (N : Int) (hNb0 : 0 ≤ N) (hNb1 : N < 4294967296) (hN : IntKind.u64.wrap ((Int.tmod (IntKind.u64.wrap nu) 536870911) + 1) = N) (hk : Int.tmod (wrap64 ki) 13 = 11) (hok : ∀ x ∈ lv, 0 ≤ x ∧ x ≤ 255) (Av : Option Addr) (cv : Nat) (w : World) (hlv : (Kd.int .u8).C w Av lv.length lv) (hcv : lv.length ≤ cv) (l2 : lv.length ≤ 2147483647) :
    Calls Tryd.prog 4 #[.int .u8 ki, .int .u32 nu, .int .u64 n, .slice Av lv.length cv] w fun e w' => e = .returned (.bool true) ∧ Below w.heap.size w w' := by
  obtain ⟨j2, hj2, hq2, hv2, hw2⟩ := nb_some (lv.length : Int) (by omega) (by omega)
  obtain ⟨j1, hj1, hq1, hv1, hw1⟩ := nb_some (N * 8 + 2) (by omega) (by omega)
  have hT := tag_is N 2 hNb0 hNb1 (by decide) (by decide)
  exact law4_11 ki nu n lv N n ((vbytes j1 (N * 8 + 2) ++ vbytes j2 lv.length) ++ lv) hk hN rfl (part_two N lv j1 hj1 _ hT hq1 j2 hj2 hq2 (by omega))
    (fld11 N n lv j2 hj2 hv2 hw2 hok j1 hj1 _ hT (by omega) (by omega) hv1 hw1) Av cv w hlv hcv l2

theorem f12 (ki nu n : Int) (lv : List Int) (N : Int) (hNb0 : 0 ≤ N) (hNb1 : N < 4294967296) (hN : IntKind.u64.wrap ((Int.tmod (IntKind.u64.wrap nu) 536870911) + 1) = N) (hk : Int.tmod (wrap64 ki) 13 = 12) (hok : ∀ x ∈ lv, 0 ≤ x ∧ x ≤ 255) (Av : Option Addr) (cv : Nat) (w : World) (hlv : (Kd.int .u8).C w Av lv.length lv) (hcv : lv.length ≤ cv) (l2 : lv.length ≤ 2147483647) :
    Calls Tryd.prog 4 #[.int .u8 ki, .int .u32 nu, .int .u64 n, .slice Av lv.length cv] w fun e w' => e = .returned (.bool true) ∧ Below w.heap.size w w' := by
  obtain ⟨j2, hj2, hq2, hv2, hw2⟩ := nb_some (lv.length : Int) (by omega) (by omega)
  obtain ⟨j1, hj1, hq1, hv1, hw1⟩ := nb_some (N * 8 + 2) (by omega) (by omega)
  have hT := tag_is N 2 hNb0 hNb1 (by decide) (by decide)
  exact law4_12 ki nu n lv N n ((vbytes j1 (N * 8 + 2) ++ vbytes j2 lv.length) ++ lv) hk hN rfl (part_two N lv j1 hj1 _ hT hq1 j2 hj2 hq2 (by omega))
    (fld12 N n lv j1 hj1 _ hT (by omega) (by omega) hv1 hw1 j2 hj2 hv2 hw2) Av cv w hlv hcv l2

set_option maxHeartbeats 4000000 in
set_option maxRecDepth 100000 in
theorem f_long (ki nu n : Int) (ll : Nat) (Av : Option Addr) (cv : Nat) (w : World) (hl : 2147483647 < ll) :
    Calls Tryd.prog 4 #[.int .u8 ki, .int .u32 nu, .int .u64 n, .slice Av ll cv] w fun e w' => e = .returned (.bool true) ∧ Below w.heap.size w w' := by
  have d1 : decide ((2147483647 : Int) < (ll : Int)) = true := by simp; omega
  clear hl
  go_enter Tryd.func4, Tryd.ntmps4
  go_wp2
  go_ret
  exact ⟨rfl, Below.refl _ _⟩
/-- The law, whatever its arguments. -/
theorem fields (ki nu n : Int) (lv : List Int) (hk0 : 0 ≤ ki) (hk1 : ki ≤ 255) (hnu0 : 0 ≤ nu) (hnu1 : nu ≤ 4294967295) (hn0 : 0 ≤ n) (hn1' : n ≤ 18446744073709551615) (hok : ∀ x ∈ lv, 0 ≤ x ∧ x ≤ 255)
    (Av : Option Addr) (cv : Nat) (w : World) (hlv : (Kd.int .u8).C w Av lv.length lv) (hcv : lv.length ≤ cv) :
    Calls Tryd.prog 4 #[.int .u8 ki, .int .u32 nu, .int .u64 n, .slice Av lv.length cv] w fun e w' => e = .returned (.bool true) ∧ Below w.heap.size w w' := by
  by_cases l2' : 2147483647 < lv.length
  · exact f_long ki nu n _ Av cv w l2'
  have l2 : lv.length ≤ 2147483647 := by omega
  have hn1 : n < 18446744073709551616 := by omega
  obtain ⟨N, hN⟩ : ∃ N, IntKind.u64.wrap ((Int.tmod (IntKind.u64.wrap nu) 536870911) + 1) = N := ⟨_, rfl⟩
  have hNb : 0 ≤ N ∧ N < 4294967296 := by
    have e : IntKind.u64.wrap nu = nu := by rw [IntKind.wrap_u64]; omega
    have e2 : Int.tmod nu 536870911 = nu % 536870911 := Int.tmod_eq_emod_of_nonneg hnu0
    rw [e, e2, IntKind.wrap_u64] at hN
    omega
  have ek : Int.tmod (wrap64 ki) 13 = ki % 13 := by
    have e : wrap64 ki = ki := by unfold wrap64; omega
    rw [e]
    exact Int.tmod_eq_emod_of_nonneg hk0
  by_cases k0 : ki % 13 = 0
  · exact f0 ki nu n lv N hNb.1 hNb.2 hN hn0 hn1 (ek.trans k0) Av cv w hlv hcv l2
  by_cases k1 : ki % 13 = 1
  · exact f1 ki nu n lv N hNb.1 hNb.2 hN hn0 hn1 (ek.trans k1) Av cv w hlv hcv l2
  by_cases k2 : ki % 13 = 2
  · exact f2 ki nu n lv N hNb.1 hNb.2 hN hn0 hn1 (ek.trans k2) Av cv w hlv hcv l2
  by_cases k3 : ki % 13 = 3
  · exact f3 ki nu n lv N hNb.1 hNb.2 hN hn0 hn1 (ek.trans k3) Av cv w hlv hcv l2
  by_cases k4 : ki % 13 = 4
  · exact f4 ki nu n lv N hNb.1 hNb.2 hN hn0 hn1 (ek.trans k4) Av cv w hlv hcv l2
  by_cases k5 : ki % 13 = 5
  · exact f5 ki nu n lv N hNb.1 hNb.2 hN hn0 hn1 (ek.trans k5) Av cv w hlv hcv l2
  by_cases k6 : ki % 13 = 6
  · exact f6 ki nu n lv N hNb.1 hNb.2 hN hn0 hn1 (ek.trans k6) Av cv w hlv hcv l2
  by_cases k7 : ki % 13 = 7
  · exact f7 ki nu n lv N hNb.1 hNb.2 hN hn0 hn1 (ek.trans k7) Av cv w hlv hcv l2
  by_cases k8 : ki % 13 = 8
  · exact f8 ki nu n lv N hNb.1 hNb.2 hN hn0 hn1 (ek.trans k8) Av cv w hlv hcv l2
  by_cases k9 : ki % 13 = 9
  · rcases hb : (Go.bits .and .u64 (Int.tmod n 4294967296 / 8388608) 255 == 255) with _ | _
    · exact f9a ki nu n lv N hNb.1 hNb.2 hN hn0 hn1 (ek.trans k9) hb Av cv w hlv hcv l2
    · exact f9b ki nu n lv N hNb.1 hNb.2 hN hn0 hn1 (ek.trans k9) hb Av cv w hlv hcv l2
  by_cases k10 : ki % 13 = 10
  · rcases hb : (Go.bits .and .u64 (n / 4503599627370496) 2047 == 2047) with _ | _
    · exact f10a ki nu n lv N hNb.1 hNb.2 hN hn0 hn1 (ek.trans k10) hb Av cv w hlv hcv l2
    · exact f10b ki nu n lv N hNb.1 hNb.2 hN hn0 hn1 (ek.trans k10) hb Av cv w hlv hcv l2
  by_cases k11 : ki % 13 = 11
  · exact f11 ki nu n lv N hNb.1 hNb.2 hN (ek.trans k11) hok Av cv w hlv hcv l2
  by_cases k12 : ki % 13 = 12
  · exact f12 ki nu n lv N hNb.1 hNb.2 hN (ek.trans k12) hok Av cv w hlv hcv l2
  · exfalso
    omega
end Go.Proofs.YtokediiehlnjkaaDoor.Pb
