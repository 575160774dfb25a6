/- Written by val.py: parseValue asks the parser that the first byte tells. -/
import Derived.Test.YtekmminmgjoabaaDoorJsTxt
namespace Go.Proofs.YtekmminmgjoabaaDoor.Js
open Go.RowKit Go.Proofs.YtekmminmgjoabaaDoorW.PrintWords Go.Proofs.YtekmminmgjoabaaDoorW.PrintLast Go.Proofs.YtekmminmgjoabaaDoorW.PrintMore Go.Proofs.YtekmminmgjoabaaDoor.PFnJSTokens
set_option linter.unusedVariables false
set_option linter.unusedSimpArgs false
set_option maxHeartbeats 4000000 in
set_option maxRecDepth 100000 in
theorem pv_str (w : World) (B : Nat) (ad : Addr) (m c : Nat) (fl : Int) (v r zs : List Int) (KS : Int → Prop) (hm : 0 < m) (hJ : Sl w B (.slice (some ad) m c) zs) (b0 : Int) (hb0 : zs.getD 0 0 = b0) (hbn : b0 = 34) (HC : Aside0 (∀ W : World, Below w.heap.size w W → Calls Tryd.prog 80 #[.agg #[.int .u32 fl], .slice (some ad) m c] W (ParsePost W B v r KS))) :
    Calls Tryd.prog 94 #[.agg #[.int .u32 fl], .slice (some ad) m c] w (ParsePost w B v r KS) := by
  have hal := below_alloc (Below.refl w.heap.size w) (.cells #[.int .u32 fl] 116)
  obtain ⟨ad2, had, c0, -⟩ := hJ.at_ 0 hm
  obtain rfl : ad = ad2 := by injection had
  rw [hb0] at c0
  have e0 : ad.add 0 = ad := by simp [Addr.add]
  rw [e0] at c0
  have c1 := pw_cell_below hal c0
  have hz : ((m : Int) == 0) = false := by rw [beq_eq_false_iff_ne]; omega
  have HC1 := Aside0.mk (HC.out _ hal)
  have HAL := Aside0.mk hal
  clear had e0 hb0 hal HC hJ c0
  rcases hbn with rfl
  all_goals
    go_enter Tryd.func94, Tryd.ntmps94
    go_wp2_with (go_at_call 80; (with_reducible refine HC1.out.mono ?_); rintro e w2 ⟨v1, v2, K, rfl, hk, hv1, hv2, hb2⟩; have HK := Aside0.mk hk; have HV1 := Aside0.mk hv1; have HV2 := Aside0.mk hv2; have HB2 := Aside0.mk hb2; clear hk hv1 hv2 hb2)
    go_returns
    exact ⟨_, _, _, rfl, HK.out, HV1.out, HV2.out, HAL.out.trans (HB2.out.mono HAL.out.size)⟩
set_option maxHeartbeats 4000000 in
set_option maxRecDepth 100000 in
theorem pv_null (w : World) (B : Nat) (ad : Addr) (m c : Nat) (fl : Int) (v r zs : List Int) (KS : Int → Prop) (hm : 0 < m) (hJ : Sl w B (.slice (some ad) m c) zs) (b0 : Int) (hb0 : zs.getD 0 0 = b0) (hbn : b0 = 110) (HC : Aside0 (∀ W : World, Below w.heap.size w W → Calls Tryd.prog 81 #[.agg #[.int .u32 fl], .slice (some ad) m c] W (ParsePost W B v r KS))) :
    Calls Tryd.prog 94 #[.agg #[.int .u32 fl], .slice (some ad) m c] w (ParsePost w B v r KS) := by
  have hal := below_alloc (Below.refl w.heap.size w) (.cells #[.int .u32 fl] 116)
  obtain ⟨ad2, had, c0, -⟩ := hJ.at_ 0 hm
  obtain rfl : ad = ad2 := by injection had
  rw [hb0] at c0
  have e0 : ad.add 0 = ad := by simp [Addr.add]
  rw [e0] at c0
  have c1 := pw_cell_below hal c0
  have hz : ((m : Int) == 0) = false := by rw [beq_eq_false_iff_ne]; omega
  have HC1 := Aside0.mk (HC.out _ hal)
  have HAL := Aside0.mk hal
  clear had e0 hb0 hal HC hJ c0
  rcases hbn with rfl
  all_goals
    go_enter Tryd.func94, Tryd.ntmps94
    go_wp2_with (go_at_call 81; (with_reducible refine HC1.out.mono ?_); rintro e w2 ⟨v1, v2, K, rfl, hk, hv1, hv2, hb2⟩; have HK := Aside0.mk hk; have HV1 := Aside0.mk hv1; have HV2 := Aside0.mk hv2; have HB2 := Aside0.mk hb2; clear hk hv1 hv2 hb2)
    go_returns
    exact ⟨_, _, _, rfl, HK.out, HV1.out, HV2.out, HAL.out.trans (HB2.out.mono HAL.out.size)⟩
set_option maxHeartbeats 4000000 in
set_option maxRecDepth 100000 in
theorem pv_yes (w : World) (B : Nat) (ad : Addr) (m c : Nat) (fl : Int) (v r zs : List Int) (KS : Int → Prop) (hm : 0 < m) (hJ : Sl w B (.slice (some ad) m c) zs) (b0 : Int) (hb0 : zs.getD 0 0 = b0) (hbn : b0 = 116) (HC : Aside0 (∀ W : World, Below w.heap.size w W → Calls Tryd.prog 82 #[.agg #[.int .u32 fl], .slice (some ad) m c] W (ParsePost W B v r KS))) :
    Calls Tryd.prog 94 #[.agg #[.int .u32 fl], .slice (some ad) m c] w (ParsePost w B v r KS) := by
  have hal := below_alloc (Below.refl w.heap.size w) (.cells #[.int .u32 fl] 116)
  obtain ⟨ad2, had, c0, -⟩ := hJ.at_ 0 hm
  obtain rfl : ad = ad2 := by injection had
  rw [hb0] at c0
  have e0 : ad.add 0 = ad := by simp [Addr.add]
  rw [e0] at c0
  have c1 := pw_cell_below hal c0
  have hz : ((m : Int) == 0) = false := by rw [beq_eq_false_iff_ne]; omega
  have HC1 := Aside0.mk (HC.out _ hal)
  have HAL := Aside0.mk hal
  clear had e0 hb0 hal HC hJ c0
  rcases hbn with rfl
  all_goals
    go_enter Tryd.func94, Tryd.ntmps94
    go_wp2_with (go_at_call 82; (with_reducible refine HC1.out.mono ?_); rintro e w2 ⟨v1, v2, K, rfl, hk, hv1, hv2, hb2⟩; have HK := Aside0.mk hk; have HV1 := Aside0.mk hv1; have HV2 := Aside0.mk hv2; have HB2 := Aside0.mk hb2; clear hk hv1 hv2 hb2)
    go_returns
    exact ⟨_, _, _, rfl, HK.out, HV1.out, HV2.out, HAL.out.trans (HB2.out.mono HAL.out.size)⟩
set_option maxHeartbeats 4000000 in
set_option maxRecDepth 100000 in
theorem pv_no (w : World) (B : Nat) (ad : Addr) (m c : Nat) (fl : Int) (v r zs : List Int) (KS : Int → Prop) (hm : 0 < m) (hJ : Sl w B (.slice (some ad) m c) zs) (b0 : Int) (hb0 : zs.getD 0 0 = b0) (hbn : b0 = 102) (HC : Aside0 (∀ W : World, Below w.heap.size w W → Calls Tryd.prog 83 #[.agg #[.int .u32 fl], .slice (some ad) m c] W (ParsePost W B v r KS))) :
    Calls Tryd.prog 94 #[.agg #[.int .u32 fl], .slice (some ad) m c] w (ParsePost w B v r KS) := by
  have hal := below_alloc (Below.refl w.heap.size w) (.cells #[.int .u32 fl] 116)
  obtain ⟨ad2, had, c0, -⟩ := hJ.at_ 0 hm
  obtain rfl : ad = ad2 := by injection had
  rw [hb0] at c0
  have e0 : ad.add 0 = ad := by simp [Addr.add]
  rw [e0] at c0
  have c1 := pw_cell_below hal c0
  have hz : ((m : Int) == 0) = false := by rw [beq_eq_false_iff_ne]; omega
  have HC1 := Aside0.mk (HC.out _ hal)
  have HAL := Aside0.mk hal
  clear had e0 hb0 hal HC hJ c0
  rcases hbn with rfl
  all_goals
    go_enter Tryd.func94, Tryd.ntmps94
    go_wp2_with (go_at_call 83; (with_reducible refine HC1.out.mono ?_); rintro e w2 ⟨v1, v2, K, rfl, hk, hv1, hv2, hb2⟩; have HK := Aside0.mk hk; have HV1 := Aside0.mk hv1; have HV2 := Aside0.mk hv2; have HB2 := Aside0.mk hb2; clear hk hv1 hv2 hb2)
    go_returns
    exact ⟨_, _, _, rfl, HK.out, HV1.out, HV2.out, HAL.out.trans (HB2.out.mono HAL.out.size)⟩
set_option maxHeartbeats 4000000 in
set_option maxRecDepth 100000 in
theorem pv_num (w : World) (B : Nat) (ad : Addr) (m c : Nat) (fl : Int) (v r zs : List Int) (KS : Int → Prop) (hm : 0 < m) (hJ : Sl w B (.slice (some ad) m c) zs) (b0 : Int) (hb0 : zs.getD 0 0 = b0) (hbn : b0 = 45 ∨ b0 = 48 ∨ b0 = 49 ∨ b0 = 50 ∨ b0 = 51 ∨ b0 = 52 ∨ b0 = 53 ∨ b0 = 54 ∨ b0 = 55 ∨ b0 = 56 ∨ b0 = 57) (HC : Aside0 (∀ W : World, Below w.heap.size w W → Calls Tryd.prog 84 #[.agg #[.int .u32 fl], .slice (some ad) m c] W (ParsePost W B v r KS))) :
    Calls Tryd.prog 94 #[.agg #[.int .u32 fl], .slice (some ad) m c] w (ParsePost w B v r KS) := by
  have hal := below_alloc (Below.refl w.heap.size w) (.cells #[.int .u32 fl] 116)
  obtain ⟨ad2, had, c0, -⟩ := hJ.at_ 0 hm
  obtain rfl : ad = ad2 := by injection had
  rw [hb0] at c0
  have e0 : ad.add 0 = ad := by simp [Addr.add]
  rw [e0] at c0
  have c1 := pw_cell_below hal c0
  have hz : ((m : Int) == 0) = false := by rw [beq_eq_false_iff_ne]; omega
  have HC1 := Aside0.mk (HC.out _ hal)
  have HAL := Aside0.mk hal
  clear had e0 hb0 hal HC hJ c0
  rcases hbn with rfl | rfl | rfl | rfl | rfl | rfl | rfl | rfl | rfl | rfl | rfl
  all_goals
    go_enter Tryd.func94, Tryd.ntmps94
    go_wp2_with (go_at_call 84; (with_reducible refine HC1.out.mono ?_); rintro e w2 ⟨v1, v2, K, rfl, hk, hv1, hv2, hb2⟩; have HK := Aside0.mk hk; have HV1 := Aside0.mk hv1; have HV2 := Aside0.mk hv2; have HB2 := Aside0.mk hb2; clear hk hv1 hv2 hb2)
    go_returns
    exact ⟨_, _, _, rfl, HK.out, HV1.out, HV2.out, HAL.out.trans (HB2.out.mono HAL.out.size)⟩
set_option maxHeartbeats 4000000 in
set_option maxRecDepth 100000 in
theorem pv_obj (w : World) (B : Nat) (ad : Addr) (m c : Nat) (fl : Int) (v r zs : List Int) (KS : Int → Prop) (hm : 0 < m) (hJ : Sl w B (.slice (some ad) m c) zs) (b0 : Int) (hb0 : zs.getD 0 0 = b0) (hbn : b0 = 123) (HC : Aside0 (∀ W : World, Below w.heap.size w W → Calls Tryd.prog 132 #[.agg #[.int .u32 fl], .slice (some ad) m c] W (ParsePost W B v r KS))) :
    Calls Tryd.prog 94 #[.agg #[.int .u32 fl], .slice (some ad) m c] w (ParsePost w B v r KS) := by
  have hal := below_alloc (Below.refl w.heap.size w) (.cells #[.int .u32 fl] 116)
  obtain ⟨ad2, had, c0, -⟩ := hJ.at_ 0 hm
  obtain rfl : ad = ad2 := by injection had
  rw [hb0] at c0
  have e0 : ad.add 0 = ad := by simp [Addr.add]
  rw [e0] at c0
  have c1 := pw_cell_below hal c0
  have hz : ((m : Int) == 0) = false := by rw [beq_eq_false_iff_ne]; omega
  have HC1 := Aside0.mk (HC.out _ hal)
  have HAL := Aside0.mk hal
  clear had e0 hb0 hal HC hJ c0
  rcases hbn with rfl
  all_goals
    go_enter Tryd.func94, Tryd.ntmps94
    go_wp2_with (go_at_call 132; (with_reducible refine HC1.out.mono ?_); rintro e w2 ⟨v1, v2, K, rfl, hk, hv1, hv2, hb2⟩; have HK := Aside0.mk hk; have HV1 := Aside0.mk hv1; have HV2 := Aside0.mk hv2; have HB2 := Aside0.mk hb2; clear hk hv1 hv2 hb2)
    go_returns
    exact ⟨_, _, _, rfl, HK.out, HV1.out, HV2.out, HAL.out.trans (HB2.out.mono HAL.out.size)⟩
set_option maxHeartbeats 4000000 in
set_option maxRecDepth 100000 in
theorem pv_arr (w : World) (B : Nat) (ad : Addr) (m c : Nat) (fl : Int) (v r zs : List Int) (KS : Int → Prop) (hm : 0 < m) (hJ : Sl w B (.slice (some ad) m c) zs) (b0 : Int) (hb0 : zs.getD 0 0 = b0) (hbn : b0 = 91) (HC : Aside0 (∀ W : World, Below w.heap.size w W → Calls Tryd.prog 133 #[.agg #[.int .u32 fl], .slice (some ad) m c] W (ParsePost W B v r KS))) :
    Calls Tryd.prog 94 #[.agg #[.int .u32 fl], .slice (some ad) m c] w (ParsePost w B v r KS) := by
  have hal := below_alloc (Below.refl w.heap.size w) (.cells #[.int .u32 fl] 116)
  obtain ⟨ad2, had, c0, -⟩ := hJ.at_ 0 hm
  obtain rfl : ad = ad2 := by injection had
  rw [hb0] at c0
  have e0 : ad.add 0 = ad := by simp [Addr.add]
  rw [e0] at c0
  have c1 := pw_cell_below hal c0
  have hz : ((m : Int) == 0) = false := by rw [beq_eq_false_iff_ne]; omega
  have HC1 := Aside0.mk (HC.out _ hal)
  have HAL := Aside0.mk hal
  clear had e0 hb0 hal HC hJ c0
  rcases hbn with rfl
  all_goals
    go_enter Tryd.func94, Tryd.ntmps94
    go_wp2_with (go_at_call 133; (with_reducible refine HC1.out.mono ?_); rintro e w2 ⟨v1, v2, K, rfl, hk, hv1, hv2, hb2⟩; have HK := Aside0.mk hk; have HV1 := Aside0.mk hv1; have HV2 := Aside0.mk hv2; have HB2 := Aside0.mk hb2; clear hk hv1 hv2 hb2)
    go_returns
    exact ⟨_, _, _, rfl, HK.out, HV1.out, HV2.out, HAL.out.trans (HB2.out.mono HAL.out.size)⟩
end Go.Proofs.YtekmminmgjoabaaDoor.Js
