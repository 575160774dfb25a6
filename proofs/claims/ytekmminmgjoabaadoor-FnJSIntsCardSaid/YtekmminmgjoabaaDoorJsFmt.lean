/- strconv.FormatInt, FormatUint at base 10: the shelf's contracts, laid at this program. -/
import Derived.Shelf.Strconv.Itoa4
import Derived.Lib.AppendIntMem
import Derived.Test.YtekmminmgjoabaaDoorChecked
namespace Go.Proofs.YtekmminmgjoabaaDoor.Fmt
open Go Go.Proofs Go.Shelf Go.RowKit Go.Sort Go.Lib
set_option linter.unusedVariables false
set_option linter.unusedSimpArgs false
def lays173_ren : Go.Shelf.Ren := ⟨fun | 173 => 39 | 246 => 73 | 283 => 105 | 284 => 106 | 285 => 107 | 286 => 108 | 129 => 141 | 317 => 140 | 318 => 142 | 319 => 143 | 320 => 144 | 337 => 151 | 338 => 115 | n => n, fun | 2 => 2 | 3 => 3 | 9 => 9 | 4 => 4 | 171 => 150 | 0 => 0 | 53 => 65 | 37 => 22 | 5 => 5 | 173 => 153 | 212 => 181 | 51 => 113 | 20 => 20 | 213 => 182 | 46 => 89 | 232 => 197 | 233 => 184 | n => n, fun | 17 => 2 | 18 => 6 | 19 => 3 | n => n⟩
theorem lays173 : Go.Proofs.LaysM.n173 Tryd.prog lays173_ren := {
  mixed := by kernel_rfl
  f129 := Tryd.func141.trans (congrArg some (by kernel_rfl))
  f173 := Tryd.func39.trans (congrArg some (by kernel_rfl))
  f246 := Tryd.func73.trans (congrArg some (by kernel_rfl))
  f283 := Tryd.func105.trans (congrArg some (by kernel_rfl))
  f284 := Tryd.func106.trans (congrArg some (by kernel_rfl))
  f285 := Tryd.func107.trans (congrArg some (by kernel_rfl))
  f286 := Tryd.func108.trans (congrArg some (by kernel_rfl))
  f317 := Tryd.func140.trans (congrArg some (by kernel_rfl))
  f318 := Tryd.func142.trans (congrArg some (by kernel_rfl))
  f319 := Tryd.func143.trans (congrArg some (by kernel_rfl))
  f320 := Tryd.func144.trans (congrArg some (by kernel_rfl))
  f337 := Tryd.func151.trans (congrArg some (by kernel_rfl))
  f338 := Tryd.func115.trans (congrArg some (by kernel_rfl))
  t0 := Tryd.underlying0
  a0 := Tryd.isAgg0
  z0 := Tryd.sizeOf0
  v0 := Tryd.zeroValue0
  t2 := Tryd.underlying2
  a2 := Tryd.isAgg2
  z2 := Tryd.sizeOf2
  v2 := Tryd.zeroValue2
  t3 := Tryd.underlying3
  a3 := Tryd.isAgg3
  z3 := Tryd.sizeOf3
  v3 := Tryd.zeroValue3
  t4 := Tryd.underlying4
  a4 := Tryd.isAgg4
  z4 := Tryd.sizeOf4
  v4 := Tryd.zeroValue4
  t5 := Tryd.underlying5
  a5 := Tryd.isAgg5
  z5 := Tryd.sizeOf5
  v5 := Tryd.zeroValue5
  t9 := Tryd.underlying9
  a9 := Tryd.isAgg9
  z9 := Tryd.sizeOf9
  v9 := Tryd.zeroValue9
  t20 := Tryd.underlying20
  a20 := Tryd.isAgg20
  z20 := Tryd.sizeOf20
  v20 := Tryd.zeroValue20
  t37 := Tryd.underlying22
  a37 := Tryd.isAgg22
  z37 := Tryd.sizeOf22
  v37 := Tryd.zeroValue22
  t46 := Tryd.underlying89
  a46 := Tryd.isAgg89
  z46 := Tryd.sizeOf89
  v46 := Tryd.zeroValue89
  t51 := Tryd.underlying113
  a51 := Tryd.isAgg113
  z51 := Tryd.sizeOf113
  v51 := Tryd.zeroValue113
  t53 := Tryd.underlying65
  a53 := Tryd.isAgg65
  z53 := Tryd.sizeOf65
  v53 := Tryd.zeroValue65
  t171 := Tryd.underlying150
  a171 := Tryd.isAgg150
  z171 := Tryd.sizeOf150
  v171 := Tryd.zeroValue150
  t173 := Tryd.underlying153
  a173 := Tryd.isAgg153
  z173 := Tryd.sizeOf153
  v173 := Tryd.zeroValue153
  t212 := Tryd.underlying181
  a212 := Tryd.isAgg181
  z212 := Tryd.sizeOf181
  v212 := Tryd.zeroValue181
  t213 := Tryd.underlying182
  a213 := Tryd.isAgg182
  z213 := Tryd.sizeOf182
  t232 := Tryd.underlying197
  a232 := Tryd.isAgg197
  z232 := Tryd.sizeOf197
  v232 := Tryd.zeroValue197
  t233 := Tryd.underlying184
  a233 := Tryd.isAgg184
  z233 := Tryd.sizeOf184
  v233 := Tryd.zeroValue184
  g17 := by kernel_rfl
  g18 := by kernel_rfl
  g19 := by kernel_rfl
  i0 := by kernel_rfl
  i2 := by kernel_rfl
  i3 := by kernel_rfl
  i4 := by kernel_rfl
  i5 := by kernel_rfl
  i9 := by kernel_rfl
  i20 := by kernel_rfl
  i37 := by kernel_rfl
  i46 := by kernel_rfl
  i51 := by kernel_rfl
  i53 := by kernel_rfl
  i171 := by kernel_rfl
  i173 := by kernel_rfl
  i212 := by kernel_rfl
  i232 := by kernel_rfl
  i233 := by kernel_rfl
  m17 := by kernel_rfl
  m18 := by kernel_rfl
  m19 := by kernel_rfl }
theorem fmt_int (n : Int) (h0 : -9223372036854775808 ≤ n) (h1 : n ≤ 9223372036854775807) (w : World) (htab : Lib.TabIs Tryd.prog w "internal/strconv.uint64pow10" .u64 Lib.pow10Tab) :
    Calls Tryd.prog 39 #[.int .i64 n, .int .i64 10] w fun e w' => e = .returned (.string ⟨(Lib.itoa n).toArray⟩) ∧ ∃ k os, w' = Sort.grow (w.drewN k) os := Any.strconv_FormatInt_10 lays173 n h0 h1 w htab
theorem small_calls (i : Nat) (h : i < 100) (w : World) : Calls Tryd.prog 105 #[.int .i64 i] w fun e w' => e = .returned (.string ⟨(Lib.decDigits i).toArray⟩) ∧ w' = w := Any.internal_strconv_small { lays173 with } i h w
theorem digits_calls (u : Nat) (h1 : 1 ≤ u) (h2 : u < 18446744073709551616) (w : World) (htab : Lib.TabIs Tryd.prog w "internal/strconv.uint64pow10" .u64 Lib.pow10Tab) : Calls Tryd.prog 106 #[.int .u64 u] w fun e w' => e = .returned (.int .i64 (Lib.nDigits u)) ∧ w' = w := Any.internal_strconv_numDigits { lays173 with } u h1 h2 w htab
theorem base_calls (blk off cap : Nat) (u : Nat) (d : Array UInt8) (w : World) (hH : Holds (fun (b : UInt8) => Value.int .u8 (b.toNat : Int)) w blk off d) (hu : u < 10 ^ d.size) (hu64 : u < 18446744073709551616) (hsz : d.size < 4611686018427387904) :
    Calls Tryd.prog 107 #[.slice (some ⟨blk, off, none⟩) d.size cap, .int .u64 u] w fun e w' =>
      e = .returned (.tuple #[]) ∧ ∃ (n v' : Nat) (dk : Array UInt8), w' = (putRow (fun (b : UInt8) => Value.int .u8 (b.toNat : Int)) w blk off dk).drewN n ∧ FmtInv d.size u 0 v' dk := Any.internal_strconv_formatBase10 { lays173 with } blk off cap u d w hH hu hu64 hsz
set_option maxHeartbeats 6400000 in
set_option maxRecDepth 100000 in
theorem fmt75 (u : Nat) (hu64 : u < 18446744073709551616) (w : World) (htab : Lib.TabIs Tryd.prog w "internal/strconv.uint64pow10" .u64 Lib.pow10Tab) :
    Calls Tryd.prog 75 #[.int .u64 u, .int .i64 10] w fun e w' => e = .returned (.string ⟨(Lib.decDigits u).toArray⟩) ∧ ∃ k os, w' = Sort.grow (w.drewN k) os := by
  by_cases hs : u < 100
  · have hwr : IntKind.i64.wrap (u : Int) = (u : Int) := by rw [IntKind.wrap_i64]; omega
    have hlt : (u : Int) < 100 := by omega
    go_enter Tryd.func75, Tryd.ntmps75
    go_wp2_with (go_at_call 105; refine (small_calls u hs _).mono ?_; rintro e w' ⟨rfl, rfl⟩)
    go_ret
    exact ⟨rfl, 0, #[], by simp [World.drewN_zero]⟩
  · have hu1 : 1 ≤ u := by omega
    have hge : ¬ (u : Int) < 100 := by omega
    have hnd20 : Lib.nDigits u ≤ 20 := by have := Lib.numDigits_eq u hu1 hu64; split at this <;> omega
    have hb3 : Lib.nDigits u ≤ 23 := by omega
    have hal : Tryd.prog.arrayLen 150 = 24 := by simp [Program.arrayLen, Tryd.underlying150]
    have hsl1 : ∀ W, (Instr.sliceAt 150 (.pointer (some ⟨w.heap.size, 0, none⟩)) none (some (.int .i64 (Lib.nDigits u : Int))) none).run Tryd.prog W = .ok (.slice (some ⟨w.heap.size, 0, none⟩) (Lib.nDigits u) 24) W := fun W => by
      rw [run_sliceAt_array_h W 150 ⟨w.heap.size, 0, none⟩ (by simp [Program.arrayLen, Program.elem, Tryd.underlying150]) .i64 (Lib.nDigits u : Int) (by omega) (by rw [hal]; omega)]
      go_simp
      first | done | omega
    have hH0 := Lib.holds_zero0 w 150 (Lib.nDigits u) (by omega)
    have hfmt := base_calls w.heap.size 0 24 u (Array.replicate (Lib.nDigits u) 0) (w.alloc (.cells Lib.zeros24 150)) hH0 (by rw [Array.size_replicate]; exact Lib.lt_pow_nDigits u) hu64 (by rw [Array.size_replicate]; omega)
    rw [Array.size_replicate] at hfmt
    have HH0 := Lib.hid hH0
    clear hH0 hal
    go_enter Tryd.func75, Tryd.ntmps75
    go_wp2_with (go_at_call 106; refine (digits_calls u hu1 hu64 _ (Lib.tabIs_alloc htab _)).mono ?_; rintro e w' ⟨rfl, rfl⟩)
    go_at_call 107
    refine hfmt.mono ?_
    rintro e w' ⟨rfl, k, v', dk, rfl, hF⟩
    have hcv : (convert 22 9 (.slice (some ⟨w.heap.size, 0, none⟩) (Lib.nDigits u) 24)).run Tryd.prog ((putRow (fun (b : UInt8) => Value.int .u8 (b.toNat : Int)) (w.alloc (.cells Lib.zeros24 150)) w.heap.size 0 dk).drewN k) = .ok (.string ⟨(Lib.decDigits u).toArray⟩) ((putRow (fun (b : UInt8) => Value.int .u8 (b.toNat : Int)) (w.alloc (.cells Lib.zeros24 150)) w.heap.size 0 dk).drewN k) := by
      have h := run_convert_bytes_back (P := Tryd.prog) ((putRow (fun (b : UInt8) => Value.int .u8 (b.toNat : Int)) (w.alloc (.cells Lib.zeros24 150)) w.heap.size 0 dk).drewN k) 22 9 5 ⟨w.heap.size, 0, none⟩ 24 (Lib.decDigits u) Tryd.underlying22 Tryd.underlying5 Tryd.underlying9 (fun j hj => by
        rw [Lib.row_is_numeral hF j hj, Lib.add_plain, World.cell?_drewN]
        exact cell?_putRow (fun (b : UInt8) => Value.int .u8 (b.toNat : Int)) _ w.heap.size 0 _ dk HH0.out (by rw [hF.size, Array.size_replicate]) j (by rw [hF.size]; rw [Lib.decDigits_length] at hj; exact hj))
      rw [Lib.decDigits_length] at h
      exact h
    go_wp2
    go_ret
    obtain ⟨os, eo⟩ := Lib.fin_at w (.cells Lib.zeros24 150) dk k 0
    exact ⟨rfl, k, os, eo⟩
theorem fmt_uint (u : Nat) (hu64 : u < 18446744073709551616) (w : World) (htab : Lib.TabIs Tryd.prog w "internal/strconv.uint64pow10" .u64 Lib.pow10Tab) :
    Calls Tryd.prog 41 #[.int .u64 u, .int .i64 10] w fun e w' => e = .returned (.string ⟨(Lib.decDigits u).toArray⟩) ∧ ∃ k os, w' = Sort.grow (w.drewN k) os := by
  have hc := fmt75 u hu64 w htab
  go_enter Tryd.func41, Tryd.ntmps41
  go_wp2_with (go_at_call 75; refine hc.mono ?_; rintro e w' ⟨rfl, k, os, rfl⟩)
  go_ret
  exact ⟨rfl, k, os, rfl⟩
end Go.Proofs.YtekmminmgjoabaaDoor.Fmt
