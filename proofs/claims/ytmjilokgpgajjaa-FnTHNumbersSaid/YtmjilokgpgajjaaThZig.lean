/- What a compact writer's whole numbers write. -/
import Derived.Test.YtmjilokgpgajjaaThComp
namespace Go.Proofs.Ytmjilokgpgajjaa.Th
open Go.RowKit Go.Proofs.YtmjilokgpgajjaaW.PrintWords Go.Proofs.YtmjilokgpgajjaaW.PrintLast Go.Proofs.YtmjilokgpgajjaaW.PrintMore Go.Proofs.Ytmjilokgpgajjaa.PFnTHWrites
set_option linter.unusedVariables false
set_option linter.unusedSimpArgs false
/-- A number whose sign is its lowest bit. -/
def zig (v : Int) : Int := if v < 0 then -2 * v - 1 else 2 * v
theorem zig_range (v : Int) (h0 : -9223372036854775808 ≤ v) (h1 : v < 9223372036854775808) : 0 ≤ zig v ∧ zig v < 18446744073709551616 := by
  unfold zig
  split <;> omega
theorem not_u64 (y : Int) (h0 : 0 ≤ y) (h1 : y < 18446744073709551616) : Go.bits .xor .u64 (if IntKind.u64.signed = true then -1 else IntKind.u64.max) y = 18446744073709551615 - y := by
  have e : (if IntKind.u64.signed = true then (-1 : Int) else IntKind.u64.max) = 18446744073709551615 := by decide
  rw [e]
  unfold Go.bits
  rw [IntKind.wrap_u64]
  have e2 : (BitVec.ofInt 64 y).toNat = y.toNat := by rw [BitVec.toNat_ofInt]; omega
  show ((((BitVec.ofInt 64 18446744073709551615) ^^^ (BitVec.ofInt 64 y)).toNat : Nat) : Int) % 18446744073709551616 = _
  rw [show BitVec.ofInt 64 18446744073709551615 = BitVec.allOnes 64 by decide, BitVec.allOnes_xor, BitVec.toNat_not, e2]
  omega
theorem zig_neg (v : Int) (h0 : -9223372036854775808 ≤ v) (h1 : v < 0) : Go.bits .xor .u64 (if IntKind.u64.signed = true then -1 else IntKind.u64.max) (IntKind.u64.wrap (IntKind.u64.wrap v * 2)) = zig v := by
  have e : IntKind.u64.wrap (IntKind.u64.wrap v * 2) = 18446744073709551616 + 2 * v := by simp only [IntKind.wrap_u64]; omega
  rw [e, not_u64 _ (by omega) (by omega)]
  unfold zig
  rw [if_pos h1]
  omega
theorem zig_pos (v : Int) (h0 : 0 ≤ v) (h1 : v < 9223372036854775808) : IntKind.u64.wrap (IntKind.u64.wrap v * 2) = zig v := by
  unfold zig
  rw [if_neg (by omega)]
  simp only [IntKind.wrap_u64]
  omega
set_option maxHeartbeats 4000000 in
set_option maxRecDepth 100000 in
theorem pvar (v : Int) (h0 : -9223372036854775808 ≤ v) (h1 : v < 9223372036854775808) (j : Nat) (hj : j < 10) (hn : nb j (zig v)) (G T o c : Nat) (ws : Array Value) (w : World) (hb : w.heap[G]? = some (.cells ws T (0, 0))) (hsz : o + 10 ≤ ws.size) :
    Calls Try.prog 141 #[.slice (some ⟨G, o, none⟩) 10 c, .int .i64 v] w fun e w' => e = .returned (.int .i64 ((j + 1 : Nat) : Int)) ∧ w'.heap[G]? = some (.cells (setBytes ws o (vbytes j (zig v))) T (0, 0)) ∧ KeepBut w w' G none ∧ Below G w w' := by
  obtain ⟨z0, z1⟩ := zig_range v h0 h1
  have HU := Aside0.mk (uvar (zig v) z0 z1 j hj hn G T o c ws w hb hsz)
  clear hn hb hsz z0 z1
  by_cases hv : v < 0
  · have HU2 := HU
    rw [← zig_neg v h0 hv] at HU2
    rw [← zig_neg v h0 hv]
    have d : decide (v < 0) = true := by simp; omega
    clear HU
    go_enter Try.func141, Try.ntmps141
    go_wp2_with (go_at_call 142; (with_reducible refine HU2.out.mono ?_); rintro e w1 ⟨rfl, h1, h2, h3⟩; have H1 := Aside0.mk h1; have H2 := Aside0.mk h2; have H3 := Aside0.mk h3; clear h1 h2 h3)
    go_ret
    exact ⟨rfl, H1.out, H2.out, H3.out⟩
  · have HU2 := HU
    rw [← zig_pos v (by omega) h1] at HU2
    rw [← zig_pos v (by omega) h1]
    have d : decide (v < 0) = false := by simp; omega
    clear HU h0 h1 hv
    go_enter Try.func141, Try.ntmps141
    go_wp2_with (go_at_call 142; (with_reducible refine HU2.out.mono ?_); rintro e w1 ⟨rfl, h1, h2, h3⟩; have H1 := Aside0.mk h1; have H2 := Aside0.mk h2; have H3 := Aside0.mk h3; clear h1 h2 h3)
    go_ret
    exact ⟨rfl, H1.out, H2.out, H3.out⟩
set_option maxHeartbeats 4000000 in
set_option maxRecDepth 100000 in
theorem c_var (w : World) (base Sg Wg T Pg PT : Nat) (ps : Array Value) (pv : Value) (xs : List Int) (hst : St w base Sg Wg T 1 21 Pg PT ps pv xs) (v : Int) (h0 : -9223372036854775808 ≤ v) (h1 : v < 9223372036854775808) (j : Nat) (hj : j < 10) (hn : nb j (zig v)) (hl : xs.length < 10000000000) :
    Calls Try.prog 139 #[.pointer (some ⟨Wg, 0, none⟩), .int .i64 v] w fun e w' => e = .returned .nilIface ∧ St w' base Sg Wg T 1 21 Pg PT ps pv (xs ++ vbytes j (zig v)) ∧ Below base w w' ∧ Rest w w' Sg Wg := by
  obtain ⟨ws, h3, h4, h5, h6, h7⟩ := hst.hW
  have HU := Aside0.mk (fun (c : Nat) => pvar v h0 h1 j hj hn Wg T 11 c ws w h3 (by omega))
  have HST := Aside0.mk hst
  have H3 := Aside0.mk h3
  have HSZ := Aside0.mk h4
  obtain ⟨n, hnn⟩ : ∃ n, n = j + 1 := ⟨_, rfl⟩
  have hlen := vbytes_len j (zig v)
  rw [← hnn] at HU hlen
  generalize vbytes j (zig v) = bs at *
  have HL := Aside0.mk hlen
  have hn10 : n ≤ 10 := by omega
  have hsl := slice_first 170 10 (by kernel_rfl) (by kernel_rfl) (by kernel_rfl) ⟨Wg, 11, none⟩ n hn10
  clear hst h3 h4 h5 h6 h7 hlen hnn hj hn
  go_enter Try.func139, Try.ntmps139
  go_upto_region 2 with (go_at_call 141; (with_reducible refine (HU.out _).mono ?_); rintro e w1 ⟨rfl, hw1, hk1, hb1⟩; have HS1 := Aside0.mk (HST.out.away H3.out 11 bs hw1 (by decide) hk1); have HC1 := Aside0.mk (show (Kd.int .u8).C w1 (some ⟨Wg, 11, none⟩) n bs from cells_C hw1 HL.out (by omega) (fun i hi => setBytes_at bs ws 11 i (by rw [HL.out, HSZ.out]; omega) (by rw [HL.out]; exact hi))); have HB1 := Aside0.mk (hb1.mono HST.out.b2); have HR1 := Aside0.mk (Rest.bytes HST.out.n1 hk1); clear hw1 hk1 hb1)
  have HW := Aside0.mk (w_write w1.drew base Sg Wg T 1 21 Pg PT ps pv xs bs (some ⟨Wg, 11, none⟩) 10 (HS1.out.below (below_drew (Below.refl _ _))) (by rw [HL.out]; exact Kd.C_drew HC1.out) (by rw [HL.out]; omega))
  rw [HL.out] at HW
  have HBD := Aside0.mk (below_drew HB1.out)
  have HRD := Aside0.mk (HR1.out.trans (Rest.below (Sg := Sg) (Wg := Wg) (below_drew (Below.refl w1.heap.size w1))))
  go_region_with (go_at_call 96; (with_reducible refine HW.out.mono ?_); rintro e w3 ⟨rfl, hs3, hb3, hr3⟩; have HS3 := Aside0.mk hs3; have HB3 := Aside0.mk (HBD.out.trans hb3); have HR3 := Aside0.mk (HRD.out.trans hr3); clear hs3 hb3 hr3)
  all_goals
    go_wp2_with fail
    go_ret
    exact ⟨rfl, HS3.out, HB3.out, HR3.out⟩
end Go.Proofs.Ytmjilokgpgajjaa.Th
