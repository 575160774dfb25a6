/- Every whole number is told as one without a sign, by the definition, and back, both ways; for all numbers of either kind, with no condition. -/
import Derived.Test.YtmhngpihkaignaaRows
import Derived.Test.YtmhngpihkaignaaPFnPBZigsx1
import Derived.ProofKit
import Derived.OpenShut
import Derived.ShutString
import Derived.ChangeOld
import Derived.Below
import Derived.Laws.Bits64
namespace Go.Proofs.Ytmhngpihkaignaa.OwnZig
open Go.RowKit Go.Proofs.Ytmhngpihkaignaa.PFnPBZigs Go.Proofs.YtmhngpihkaignaaW.PrintWords
open Go.ChangeShapes Go.WideShapes Go.ChangeAt

/-- A number without a sign for one with it. -/
def zig (n : Int) : Int := if n < 0 then -2 * n - 1 else 2 * n
/-- And back. -/
def unzig (u : Int) : Int := if u % 2 = 0 then u / 2 else -(u / 2) - 1

theorem xor_max (a : Int) (h0 : 0 ≤ a) (h1 : a < 18446744073709551616) : Go.bits .xor .u64 18446744073709551615 a = 18446744073709551615 - a := by
  obtain ⟨n, rfl⟩ := Int.eq_ofNat_of_zero_le h0
  have h := bits_xor_u64_nat 18446744073709551615 n (by omega) (by omega)
  have e : (18446744073709551615 ^^^ n : Nat) = 18446744073709551615 - n := by
    apply Nat.eq_of_testBit_eq
    intro i
    rw [Nat.testBit_xor]
    have h2 : (18446744073709551615 : Nat) = 2 ^ 64 - 1 := by decide
    rw [h2, Nat.testBit_two_pow_sub_one]
    have h3 : 2 ^ 64 - 1 - n = 2 ^ 64 - (n + 1) := by omega
    rw [h3, Nat.testBit_two_pow_sub_succ (by omega)]
    by_cases h4 : i < 64
    · simp [h4]
    · have : n.testBit i = false := Nat.testBit_lt_two_pow (Nat.lt_of_lt_of_le (by omega : n < 2 ^ 64) (Nat.pow_le_pow_right (by decide) (by omega)))
      simp [h4, this]
  rw [e] at h
  have h5 : ((18446744073709551615 - n : Nat) : Int) = 18446744073709551615 - (n : Int) := by omega
  rw [h5] at h
  exact h
theorem xor_comm (a b : Int) : Go.bits .xor .u64 a b = Go.bits .xor .u64 b a := by
  simp only [Go.bits, BitVec.xor_comm]
theorem xor_zero (a : Int) (h0 : 0 ≤ a) (h1 : a < 18446744073709551616) : Go.bits .xor .u64 a 0 = a := by
  obtain ⟨n, rfl⟩ := Int.eq_ofNat_of_zero_le h0
  have h := bits_xor_u64_nat n 0 (by omega) (by omega)
  simpa using h
theorem zig64 (n : Int) (h0 : -9223372036854775808 ≤ n) (h1 : n ≤ 9223372036854775807) : proto_encodeZigZag64.f n = some (zig n) := by
  unfold proto_encodeZigZag64.f zig
  by_cases h : n < 0
  · have e1 : IntKind.u64.wrap (n / 9223372036854775808) = 18446744073709551615 := by rw [IntKind.wrap_u64]; omega
    have e2 : IntKind.u64.wrap ((IntKind.u64.wrap n) * 2) = 2 * n + 18446744073709551616 := by rw [IntKind.wrap_u64, IntKind.wrap_u64]; omega
    rw [e1, e2, xor_comm, xor_max _ (by omega) (by omega), if_pos h]
    congr 1; omega
  · have e1 : IntKind.u64.wrap (n / 9223372036854775808) = 0 := by rw [IntKind.wrap_u64]; omega
    have e2 : IntKind.u64.wrap ((IntKind.u64.wrap n) * 2) = 2 * n := by rw [IntKind.wrap_u64, IntKind.wrap_u64]; omega
    rw [e1, e2, xor_zero _ (by omega) (by omega), if_neg h]
theorem xor_i64_m1 (a : Int) (h0 : 0 ≤ a) (h1 : a < 9223372036854775808) : Go.bits .xor .i64 a (-1) = -a - 1 := by
  obtain ⟨n, rfl⟩ := Int.eq_ofNat_of_zero_le h0
  have h2 : (BitVec.ofInt 64 (n : Int) ^^^ BitVec.ofInt 64 (-1)).toNat = 18446744073709551615 - n := by
    have e1 : BitVec.ofInt 64 (-1) = BitVec.allOnes 64 := by decide
    rw [e1, BitVec.xor_allOnes, BitVec.toNat_not]
    have e2 : (BitVec.ofInt 64 (n : Int)).toNat = n := by
      rw [BitVec.ofInt_natCast, BitVec.toNat_ofNat]
      exact Nat.mod_eq_of_lt (by omega)
    rw [e2]
  show IntKind.i64.wrap ((BitVec.ofInt 64 (n : Int) ^^^ BitVec.ofInt 64 (-1)).toNat : Int) = _
  rw [h2, IntKind.wrap_i64]
  omega
theorem xor_i64_0 (a : Int) (h0 : 0 ≤ a) (h1 : a < 9223372036854775808) : Go.bits .xor .i64 a 0 = a := by
  obtain ⟨n, rfl⟩ := Int.eq_ofNat_of_zero_le h0
  have h2 : (BitVec.ofInt 64 (n : Int) ^^^ BitVec.ofInt 64 0).toNat = n := by
    have e1 : BitVec.ofInt 64 0 = 0#64 := by decide
    rw [e1, BitVec.xor_zero, BitVec.ofInt_natCast, BitVec.toNat_ofNat]
    exact Nat.mod_eq_of_lt (by omega)
  show IntKind.i64.wrap ((BitVec.ofInt 64 (n : Int) ^^^ BitVec.ofInt 64 0).toNat : Int) = _
  rw [h2, IntKind.wrap_i64]
  omega
theorem and_i64_1 (a : Int) (_h0 : -9223372036854775808 ≤ a) (_h1 : a < 9223372036854775808) : Go.bits .and .i64 a 1 = a % 2 := by
  have h2 : (BitVec.ofInt 64 a &&& BitVec.ofInt 64 1).toNat = (a % 2).toNat := by
    have e1 : BitVec.ofInt 64 1 = 1#64 := by decide
    rw [e1, BitVec.toNat_and]
    have e2 : (1#64).toNat = 2 ^ 1 - 1 := by decide
    rw [e2, Nat.and_two_pow_sub_one_eq_mod, BitVec.toNat_ofInt]
    have e3 : ((2 ^ 64 : Nat) : Int) = 18446744073709551616 := by decide
    rw [e3]
    omega
  show IntKind.i64.wrap ((BitVec.ofInt 64 a &&& BitVec.ofInt 64 1).toNat : Int) = _
  rw [h2, IntKind.wrap_i64]
  omega
theorem unzig64 (u : Int) (h0 : 0 ≤ u) (h1 : u ≤ 18446744073709551615) : proto_decodeZigZag64.f u = some (unzig u) := by
  unfold proto_decodeZigZag64.f unzig
  have hw : -9223372036854775808 ≤ wrap64 u ∧ wrap64 u < 9223372036854775808 := by unfold wrap64; omega
  have hm : wrap64 u % 2 = u % 2 := by unfold wrap64; omega
  have e1 : wrap64 (u / 2) = u / 2 := by unfold wrap64; omega
  rw [and_i64_1 _ hw.1 hw.2, hm, e1]
  by_cases h : u % 2 = 0
  · have e2 : wrap64 (-(u % 2)) = 0 := by unfold wrap64; omega
    rw [e2, xor_i64_0 _ (by omega) (by omega), if_pos h]
  · have e2 : wrap64 (-(u % 2)) = -1 := by unfold wrap64; omega
    rw [e2, xor_i64_m1 _ (by omega) (by omega), if_neg h]

/-- The definition's own, function 15. -/
theorem wrzig (n : Int) (w : World) (h0 : -9223372036854775808 ≤ n) (h1 : n ≤ 9223372036854775807) :
    Calls Try.prog 15 #[.int .i64 n] w fun e w' => e = .returned (.int .u64 (zig n)) ∧ w' = w := by
  have hsg : IntKind.u64.signed = false := rfl
  have hmx : IntKind.u64.max = 18446744073709551615 := by decide
  by_cases h : n < 0
  · have e2 : IntKind.u64.wrap ((IntKind.u64.wrap n) * 2) = 2 * n + 18446744073709551616 := by rw [IntKind.wrap_u64, IntKind.wrap_u64]; omega
    have e3 : Go.bits .xor .u64 18446744073709551615 (2 * n + 18446744073709551616) = zig n := by
      rw [xor_max _ (by omega) (by omega)]; unfold zig; rw [if_pos h]; omega
    go_enter Try.func15, Try.ntmps15
    go_wp2
    go_ret
    exact ⟨rfl, rfl⟩
  · have e2 : n * 2 = zig n := by unfold zig; rw [if_neg h]; omega
    go_enter Try.func15, Try.ntmps15
    go_wp2
    go_ret
    exact ⟨rfl, rfl⟩
theorem zigOf (n : Int) (w : World) (h0 : -9223372036854775808 ≤ n) (h1 : n ≤ 9223372036854775807) :
    Calls Try.prog 14 #[.int .i64 n] w fun e w' => e = .returned (.int .u64 (zig n)) ∧ Drawn0 w w' :=
  impl_PBZig.calls n (zig n) w (by unfold impl_PBZig.f proto_EncodeZigZag.f; rw [zig64 n h0 h1]; rfl)
theorem unzigOf (u : Int) (w : World) (h0 : 0 ≤ u) (h1 : u ≤ 18446744073709551615) :
    Calls Try.prog 16 #[.int .u64 u] w fun e w' => e = .returned (.int .i64 (unzig u)) ∧ Drawn0 w w' :=
  impl_PBUnzig.calls u (unzig u) w (by unfold impl_PBUnzig.f proto_DecodeZigZag.f; rw [unzig64 u h0 h1]; rfl)

set_option maxHeartbeats 1000000 in
theorem walk (a0 : Int) (a1 : Int) (w0 : (Lit.int .i64 a0).wf = true) (w1 : (Lit.int .u64 a1).wf = true) (w : World) :
    Calls Try.prog 4 #[.int .i64 a0, .int .u64 a1] w fun e w' => e = .returned (.bool true) ∧ Below w.heap.size w w' := by
  have b0 := bounds_i64 w0
  have b1 := bounds_u64 w1
  obtain ⟨b00, b01⟩ := b0
  obtain ⟨b10, b11⟩ := b1
  have z0 : 0 ≤ zig a0 := by unfold zig; split <;> omega
  have z1 : zig a0 ≤ 18446744073709551615 := by unfold zig; split <;> omega
  have u0 : -9223372036854775808 ≤ unzig a1 := by unfold unzig; split <;> omega
  have u1 : unzig a1 ≤ 9223372036854775807 := by unfold unzig; split <;> omega
  have e1 : unzig (zig a0) = a0 := by unfold unzig zig; split <;> split <;> omega
  have e2 : zig (unzig a1) = a1 := by unfold unzig zig; split <;> split <;> omega
  have e3 : zig 0 = 0 := by decide
  have e4 : zig (-1) = 1 := by decide
  have e5 : zig 1 = 2 := by decide
  clear w0 w1
  go_enter Try.func4, Try.ntmps4
  go_wp2_with (first | (go_at_call 14; refine (zigOf _ _ (by omega) (by omega)).mono ?_; rintro e w' ⟨rfl, ⟨nd, rfl⟩⟩) | (go_at_call 15; refine (wrzig _ _ (by omega) (by omega)).mono ?_; rintro e w' ⟨rfl, rfl⟩) | (go_at_call 16; refine (unzigOf _ _ (by omega) (by omega)).mono ?_; rintro e w' ⟨rfl, ⟨nd, rfl⟩⟩))
  go_ret
  exact ⟨rfl, by repeat (first | exact Below.refl _ _ | apply pw_below_drewN)⟩
theorem own : ownKnob Try.prog.godebug = none := by kernel_rfl

set_option maxRecDepth 100000 in
theorem lifted (os : Os) (started : os.Started) (H : Type) (enc : TypeId × Value → H) :
    ReturnsInHanded {} Try.checked os 4 .any (Rows.fnPBZigsSpec.pre6 enc Try.prog Try.f4 Rows.fnPBZigsRow.domain false) (Rows.fnPBZigsSpec.post enc Try.prog Try.f4 false true false false) := by
  refine returnsInHanded_of_change (C := Try.checked) own started (by kernel_rfl) Try.func4
    (ChangeSpec.witness6 (enc := enc) (C := Try.checked) false ⟨#[], #[.int .i64 0, .int .u64 0], []⟩ 8 (by kernel_rfl) (by kernel_rfl) (by kernel_rfl) (by kernel_rfl)) ?_
  intro W base args ds gs before hval0 hW hcnd _
  have hval : ∀ (j : Nat) t v, Try.f4.params[j]? = some t → args[j]? = some v → Value.okWide Try.prog W .any base t v := hval0
  have hW' := hW
  obtain ⟨p, q, hA0, hV, rfl, hfz, hnd⟩ := hW
  have hA : DataW.TrodAll enc Try.prog W 0 (fun _ => true) true Try.f4.params.toList args.toList ds p := hA0
  rw [Try.params4] at hA hval
  obtain ⟨v0, vs0, d0, ds0, p0, q0, hargs, rfl, rfl, h0, r0⟩ := trodAll_cons hA
  obtain ⟨v1, vs1, d1, ds1, p1, q1, rfl, rfl, rfl, h1, r1⟩ := trodAll_cons r0
  obtain ⟨rfl, rfl, rfl⟩ := trodAll_nil r1
  obtain rfl : args = #[v0, v1] := by cases args; simp_all
  obtain ⟨rfl, rfl⟩ := trodVars_none hV
  obtain ⟨a0, rfl, rfl, rfl, w0⟩ := open_int Try.underlying2 (hval 0 2 v0 rfl rfl) h0
  obtain ⟨a1, rfl, rfl, rfl, w1⟩ := open_int Try.underlying22 (hval 1 22 v1 rfl rfl) h1
  clear hA0 hval0
  refine (walk a0 a1 w0 w1 W).mono fun e W' ⟨he, bel⟩ => ?_
  subst he
  exact ⟨_, rfl, _, _, _, [], _, [], hW', trodAll_mk1 (shut_bool Try.underlying4 _), (trodAll_cons_mk (shut_int Try.underlying2 w0) (trodAll_cons_mk (shut_int Try.underlying22 w1) trodAll_mk0)), rfl, bel.frame _, fun h => by cases h⟩

theorem over : Rows.fnPBZigsRow.holds Try.pinned (OpenSpec.ofChange Rows.fnPBZigsSpec) :=
  OpenClaim.holds_of_wide 4 Try.f4 rfl rfl rfl rfl rfl rfl rfl ⟨rfl, rfl, rfl, rfl, rfl⟩ rfl rfl rfl rfl rfl (by kernel_rfl) Try.func4 (by kernel_rfl)
    (of_decide_eq_true (by kernel_rfl)) (by unfold Func.isWrapper; first | (rw [if_pos (by decide +kernel)]; kernel_rfl) | (rw [if_neg (by decide +kernel)]; exact ⟨rfl, rfl⟩))
    (fun os started H enc _ => lifted os started H enc)

theorem proved : Rows.FnPBZigsSaid := over
end Go.Proofs.Ytmhngpihkaignaa.OwnZig
namespace Go.Proofs.Ytmhngpihkaignaa
/-- The statement, under a short name. -/
theorem fnPBZigs_holds : Rows.FnPBZigsSaid := OwnZig.proved
end Go.Proofs.Ytmhngpihkaignaa
