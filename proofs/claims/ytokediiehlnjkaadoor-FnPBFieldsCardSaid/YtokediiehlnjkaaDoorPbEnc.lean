/- The varint writer stores the bytes of a number's wire form into its buffer, and nothing else; for every number of 64 bits and every buffer with ten bytes of room. -/
import Derived.Test.YtokediiehlnjkaaDoorMPbx1
import Derived.Test.YtokediiehlnjkaaDoorPbLen
import Derived.Lib.ItoaNum
import Derived.Handy
namespace Go.Proofs.YtokediiehlnjkaaDoor.Pb
open Go.RowKit Go.Proofs.YtokediiehlnjkaaDoorW.PrintWords Go.Proofs.YtokediiehlnjkaaDoorW.PrintLast Go.Proofs.YtokediiehlnjkaaDoorW.PrintMore Go.Proofs.YtokediiehlnjkaaDoor.PFnPBAppends
set_option linter.unusedVariables false
set_option linter.unusedSimpArgs false

/-- Is a number written with j bytes ahead of its last? -/
def nb : Nat → Int → Prop
  | 0, v => v ≤ 127
  | j + 1, v => 127 < v ∧ nb j (v / 128)
/-- The bytes of a number, j ahead of its last. -/
def vbytes : Nat → Int → List Int
  | 0, v => [v % 256]
  | j + 1, v => Go.bits .or .u8 (v % 256) 128 :: vbytes j (v / 128)
theorem vbytes_len : ∀ (j : Nat) (v : Int), (vbytes j v).length = j + 1
  | 0, _ => rfl
  | j + 1, v => by simp [vbytes, vbytes_len j]
theorem var_bytes : ∀ (j K : Nat) (v : Int) (acc : List Int), nb j v → j < K → acc.length + j < 1000 → spec_WRVar.l0 K v acc = some (acc ++ vbytes j v)
  | 0, K + 1, v, acc, h, _, hl => by
    simp only [nb] at h
    simp only [spec_WRVar.l0]
    rw [if_neg (by omega), if_pos (by omega)]
    rfl
  | j + 1, K + 1, v, acc, h, hk, hl => by
    simp only [nb] at h
    simp only [spec_WRVar.l0]
    rw [if_pos (by omega), if_pos (by omega), var_bytes j K (v / 128) _ h.2 (by omega) (by simp; omega)]
    simp [vbytes]
theorem wrvar (j K : Nat) (v : Int) (h : nb j v) (hk : j < K) (hj : j < 10) : spec_WRVar.f K v = some (vbytes j v) := by
  unfold spec_WRVar.f
  rw [var_bytes j K v [] h hk (by simp; omega)]
  rfl
theorem nb_some (v : Int) (h0 : 0 ≤ v) (h1 : v < 18446744073709551616) : ∃ j, j < 10 ∧ nb j v ∧ (v < 128 ^ (j + 1)) ∧ (j = 0 ∨ (128 : Int) ^ j ≤ v) := by
  rcases Int.lt_or_le v 128 with h | h
  · exact ⟨0, by omega, by simp only [nb]; omega, by simpa using h, .inl rfl⟩
  rcases Int.lt_or_le v 16384 with h2 | h2
  · exact ⟨1, by omega, by simp only [nb]; omega, by simpa using h2, .inr (by simpa using h)⟩
  rcases Int.lt_or_le v 2097152 with h3 | h3
  · exact ⟨2, by omega, by simp only [nb]; omega, by simpa using h3, .inr (by simpa using h2)⟩
  rcases Int.lt_or_le v 268435456 with h4 | h4
  · exact ⟨3, by omega, by simp only [nb]; omega, by simpa using h4, .inr (by simpa using h3)⟩
  rcases Int.lt_or_le v 34359738368 with h5 | h5
  · exact ⟨4, by omega, by simp only [nb]; omega, by simpa using h5, .inr (by simpa using h4)⟩
  rcases Int.lt_or_le v 4398046511104 with h6 | h6
  · exact ⟨5, by omega, by simp only [nb]; omega, by simpa using h6, .inr (by simpa using h5)⟩
  rcases Int.lt_or_le v 562949953421312 with h7 | h7
  · exact ⟨6, by omega, by simp only [nb]; omega, by simpa using h7, .inr (by simpa using h6)⟩
  rcases Int.lt_or_le v 72057594037927936 with h8 | h8
  · exact ⟨7, by omega, by simp only [nb]; omega, by simpa using h8, .inr (by simpa using h7)⟩
  rcases Int.lt_or_le v 9223372036854775808 with h9 | h9
  · exact ⟨8, by omega, by simp only [nb]; omega, by simpa using h9, .inr (by simpa using h8)⟩
  · exact ⟨9, by omega, by simp only [nb]; omega, by simp; omega, .inr (by simpa using h9)⟩

/-- How many bytes: the bits of the number with its lowest one set. -/
theorem size_is (v : Int) (j : Nat) (h0 : 0 ≤ v) (h1 : v < 18446744073709551616) (hj : j < 10) (ha : v < 128 ^ (j + 1)) (hb : j = 0 ∨ (128 : Int) ^ j ≤ v) :
    7 * j + 1 ≤ Lib.bitLen (Go.bits .or .u64 v 1).toNat ∧ Lib.bitLen (Go.bits .or .u64 v 1).toNat ≤ 7 * j + 7 ∧ 0 ≤ Go.bits .or .u64 v 1 ∧ Go.bits .or .u64 v 1 ≤ 18446744073709551615 := by
  have e : Go.bits .or .u64 v 1 = ((v.toNat ||| 1 : Nat) : Int) := by
    have hlt : v.toNat ||| 1 < 2 ^ 64 := Nat.or_lt_two_pow (by omega) (by decide)
    unfold Go.bits
    simp only [BitVec.toNat_or]
    rw [IntKind.wrap_u64]
    have e1 : (BitVec.ofInt 64 v).toNat = v.toNat := by rw [BitVec.toNat_ofInt]; omega
    have e2 : (BitVec.ofInt 64 (1 : Int)).toNat = 1 := by decide
    show ((((BitVec.ofInt 64 v).toNat ||| (BitVec.ofInt 64 (1 : Int)).toNat : Nat) : Int)) % 18446744073709551616 = _
    rw [e1, e2]
    omega
  have hlt : v.toNat ||| 1 < 2 ^ 64 := Nat.or_lt_two_pow (by omega) (by decide)
  rw [e]
  refine ⟨?_, ?_, by omega, by omega⟩
  · rw [Int.toNat_natCast]
    have hge : 2 ^ (7 * j) ≤ v.toNat ||| 1 := by
      rcases hb with rfl | hb
      · exact Nat.right_le_or
      · refine Nat.le_trans ?_ Nat.left_le_or
        have : (128 : Int) ^ j = ((2 ^ (7 * j) : Nat) : Int) := by rw [Nat.pow_mul]; push_cast; rfl
        omega
    obtain ⟨a, b, c⟩ := Lib.bitLenAux_bounds 64 (v.toNat ||| 1) hlt (by have := Nat.one_le_two_pow (n := 7 * j); omega)
    have h2 := Nat.lt_of_le_of_lt hge c
    have := (Nat.pow_lt_pow_iff_right (a := 2) (by decide)).1 h2
    unfold Lib.bitLen
    omega
  · rw [Int.toNat_natCast]
    have hle : v.toNat ||| 1 < 2 ^ (7 * (j + 1)) := by
      refine Nat.or_lt_two_pow ?_ (Nat.one_lt_two_pow (by omega))
      have : (128 : Int) ^ (j + 1) = ((2 ^ (7 * (j + 1)) : Nat) : Int) := by rw [Nat.pow_mul]; push_cast; rfl
      omega
    exact Lib.bitLenAux_le 64 _ _ hle

/-- The list l with the given items from place o on. -/
def putAt (l : List Int) (o : Nat) : List Int → List Int
  | [] => l
  | b :: bs => putAt (l.set o b) (o + 1) bs
theorem putAt_eq : ∀ (bs l : List Int) (o : Nat), o + bs.length ≤ l.length → putAt l o bs = l.take o ++ bs ++ l.drop (o + bs.length)
  | [], l, o, h => by simp [putAt]
  | b :: bs, l, o, h => by
    have hlt : o < l.length := by simp at h; omega
    rw [putAt, putAt_eq bs (l.set o b) (o + 1) (by simp at h ⊢; omega)]
    have e1 : (l.set o b).take (o + 1) = l.take o ++ [b] := by
      rw [List.take_succ_eq_append_getElem (by simpa using hlt), List.take_set_of_le (Nat.le_refl o), List.getElem_set_self]
    rw [e1, List.drop_set_of_lt (by omega)]
    simp [Nat.add_assoc, Nat.add_comm 1]

theorem gate_st {P : Program} {ops : Array Oper} {rest : List Oper} {o : Oper} {a : Act} {Q : Exit → Act → World → Prop} {W : World} {t : TypeId} {p v : Operand} (_ho : o.op = .store t p v) (h : wpList P ops Q (o :: rest) a W) : wpList P ops Q (o :: rest) a W := h
theorem store_blk {P : Program} {ops : Array Oper} {rest : List Oper} {o : Oper} {a : Act} {Q : Exit → Act → World → Prop} {W : World} (t : TypeId) (p v : Operand) (ho : o.op = .store t p v) (hN : o.dst = none) (hgd : o.guard = none)
    {G T i : Nat} {l : List Int} {x : Int} (hb : W.heap[G]? = some (.cells (l.map (Value.int .u8)).toArray T (0, 0))) (hp : a.eval p = .pointer (some ⟨G, i, none⟩)) (hi : i < l.length) (hu : a.eval v = .int .u8 x) (ht : (P.info? t).map (·.size) = some 1)
    (h : ∀ W1, W1.heap[G]? = some (.cells ((l.set i x).map (Value.int .u8)).toArray T (0, 0)) → KeepBut W W1 G none → Below G W W1 → wpList P ops Q rest a W1) :
    wpList P ops Q (o :: rest) a W := by
  refine wpList_plain hgd fun K hK => ?_
  unfold Oper.wp execOp
  have hrun := run_store_run (P := P) (w := W) t (.int .u8 x) [.int .u8 x] hb rfl ht (o := i) (by simp; omega) (by simp [Value.oneCell'])
  simp only [ho, Sem.run_bind, Sem.run_pure, Result.andThen_ok, hp, hu, hrun]
  refine hK _ _ ?_
  rw [hN]
  refine h (W.setCell ⟨G, i, none⟩ (.int .u8 x)) ?_ ((KeepBut.refl W G none).set_ i _) ((Below.refl G W).setCell (Nat.le_refl _) _)
  rw [blk_set hb i _]
  simp [List.map_set]

set_option maxHeartbeats 4000000 in
set_option maxRecDepth 100000 in
/-- How many bytes a number has. -/
theorem size_calls (j : Nat) (v : Int) (h0 : 0 ≤ v) (h1 : v < 18446744073709551616) (hj : j < 10) (ha : v < 128 ^ (j + 1)) (hb : j = 0 ∨ (128 : Int) ^ j ≤ v) (w : World) :
    Calls Tryd.prog 38 #[.int .u64 v] w fun e w' => e = .returned (.int .i64 ((j + 1 : Nat) : Int)) ∧ w' = w := by
  obtain ⟨s1, s2, s3, s4⟩ := size_is v j h0 h1 hj ha hb
  clear ha hb
  go_enter Tryd.func38, Tryd.ntmps38
  go_wp2_with (go_at_call 39; refine (PbLen.bits_Len64 (Go.bits .or .u64 v 1) _ s3 s4).mono ?_; rintro e w' ⟨rfl, rfl⟩)
  go_ret
  refine ⟨congrArg Ending.returned (congrArg (Value.int IntKind.i64) ?_), rfl⟩
  generalize Lib.bitLen (Go.bits .or .u64 v 1).toNat = L at s1 s2
  omega


set_option maxHeartbeats 4000000 in
set_option maxRecDepth 100000 in
theorem enc0 (v : Int) (h0 : 0 ≤ v) (h1 : v < 18446744073709551616) (hv : v < 128 ^ 1) (hw : 0 = 0 ∨ (128 : Int) ^ 0 ≤ v) (G T o n c : Nat) (l : List Int) (w : World) (hb : w.heap[G]? = some (.cells (l.map (Value.int .u8)).toArray T (0, 0))) (hl : o + n ≤ l.length) (hn : 10 ≤ n) (hn2 : n < 1000) :
    Calls Tryd.prog 32 #[.slice (some ⟨G, o, none⟩) n c, .int .u64 v] w fun e w' => e = .returned (.tuple #[.int .i64 1, .nilIface]) ∧ w'.heap[G]? = some (.cells ((putAt l o (vbytes 0 v)).map (Value.int .u8)).toArray T (0, 0)) ∧ KeepBut w w' G none ∧ Below G w w' := by
  have HS := Aside0.mk (size_calls 0 v h0 h1 (by decide) hv hw)
  have hlt : decide ((n : Int) < 1) = false := by simp; omega
  have BK := Aside0.mk hb
  have HK := Aside0.mk (KeepBut.refl w G none)
  have HG := Aside0.mk (Below.refl G w)
  have HV := Aside0.mk hv
  clear hv hw hb
  go_enter Tryd.func32, Tryd.ntmps32
  go_wp2_with (first | (go_at_call 38; (with_reducible refine (HS.out _).mono ?_); rintro e w1 ⟨rfl, rfl⟩) | ((with_reducible refine gate_st rfl ?_); refine store_blk _ _ _ rfl rfl rfl BK.out rfl (by (try simp only [List.length_set]); omega) rfl (by kernel_rfl) ?_; intro W1 hb1 hk1 hg1; have n1 := Aside0.mk hb1; have n2 := Aside0.mk (HK.out.trans hk1 (.inl rfl)); have n3 := Aside0.mk (HG.out.trans hg1); clear BK HK HG hb1 hk1 hg1; have BK := n1; have HK := n2; have HG := n3; clear n1 n2 n3))
  go_returns
  refine ⟨rfl, ?_, HK.out, HG.out⟩
  refine BK.out.trans ?_
  simp only [vbytes, putAt, Nat.add_assoc, Nat.reduceAdd]

set_option maxHeartbeats 4000000 in
set_option maxRecDepth 100000 in
theorem enc1 (v : Int) (h0 : 0 ≤ v) (h1 : v < 18446744073709551616) (hv : v < 128 ^ 2) (hw : 1 = 0 ∨ (128 : Int) ^ 1 ≤ v) (G T o n c : Nat) (l : List Int) (w : World) (hb : w.heap[G]? = some (.cells (l.map (Value.int .u8)).toArray T (0, 0))) (hl : o + n ≤ l.length) (hn : 10 ≤ n) (hn2 : n < 1000) :
    Calls Tryd.prog 32 #[.slice (some ⟨G, o, none⟩) n c, .int .u64 v] w fun e w' => e = .returned (.tuple #[.int .i64 2, .nilIface]) ∧ w'.heap[G]? = some (.cells ((putAt l o (vbytes 1 v)).map (Value.int .u8)).toArray T (0, 0)) ∧ KeepBut w w' G none ∧ Below G w w' := by
  have HS := Aside0.mk (size_calls 1 v h0 h1 (by decide) hv hw)
  have hlt : decide ((n : Int) < 2) = false := by simp; omega
  have BK := Aside0.mk hb
  have HK := Aside0.mk (KeepBut.refl w G none)
  have HG := Aside0.mk (Below.refl G w)
  have HV := Aside0.mk hv
  clear hv hw hb
  go_enter Tryd.func32, Tryd.ntmps32
  go_wp2_with (first | (go_at_call 38; (with_reducible refine (HS.out _).mono ?_); rintro e w1 ⟨rfl, rfl⟩) | ((with_reducible refine gate_st rfl ?_); refine store_blk _ _ _ rfl rfl rfl BK.out rfl (by (try simp only [List.length_set]); omega) rfl (by kernel_rfl) ?_; intro W1 hb1 hk1 hg1; have n1 := Aside0.mk hb1; have n2 := Aside0.mk (HK.out.trans hk1 (.inl rfl)); have n3 := Aside0.mk (HG.out.trans hg1); clear BK HK HG hb1 hk1 hg1; have BK := n1; have HK := n2; have HG := n3; clear n1 n2 n3))
  go_returns
  refine ⟨rfl, ?_, HK.out, HG.out⟩
  refine BK.out.trans ?_
  simp only [vbytes, putAt, Nat.add_assoc, Nat.reduceAdd]

set_option maxHeartbeats 4000000 in
set_option maxRecDepth 100000 in
theorem enc2 (v : Int) (h0 : 0 ≤ v) (h1 : v < 18446744073709551616) (hv : v < 128 ^ 3) (hw : 2 = 0 ∨ (128 : Int) ^ 2 ≤ v) (G T o n c : Nat) (l : List Int) (w : World) (hb : w.heap[G]? = some (.cells (l.map (Value.int .u8)).toArray T (0, 0))) (hl : o + n ≤ l.length) (hn : 10 ≤ n) (hn2 : n < 1000) :
    Calls Tryd.prog 32 #[.slice (some ⟨G, o, none⟩) n c, .int .u64 v] w fun e w' => e = .returned (.tuple #[.int .i64 3, .nilIface]) ∧ w'.heap[G]? = some (.cells ((putAt l o (vbytes 2 v)).map (Value.int .u8)).toArray T (0, 0)) ∧ KeepBut w w' G none ∧ Below G w w' := by
  have HS := Aside0.mk (size_calls 2 v h0 h1 (by decide) hv hw)
  have hlt : decide ((n : Int) < 3) = false := by simp; omega
  have BK := Aside0.mk hb
  have HK := Aside0.mk (KeepBut.refl w G none)
  have HG := Aside0.mk (Below.refl G w)
  have HV := Aside0.mk hv
  clear hv hw hb
  go_enter Tryd.func32, Tryd.ntmps32
  go_wp2_with (first | (go_at_call 38; (with_reducible refine (HS.out _).mono ?_); rintro e w1 ⟨rfl, rfl⟩) | ((with_reducible refine gate_st rfl ?_); refine store_blk _ _ _ rfl rfl rfl BK.out rfl (by (try simp only [List.length_set]); omega) rfl (by kernel_rfl) ?_; intro W1 hb1 hk1 hg1; have n1 := Aside0.mk hb1; have n2 := Aside0.mk (HK.out.trans hk1 (.inl rfl)); have n3 := Aside0.mk (HG.out.trans hg1); clear BK HK HG hb1 hk1 hg1; have BK := n1; have HK := n2; have HG := n3; clear n1 n2 n3))
  go_returns
  refine ⟨rfl, ?_, HK.out, HG.out⟩
  refine BK.out.trans ?_
  have q2 : v / 128 / 128 = v / 16384 := by omega
  simp only [vbytes, putAt, Nat.add_assoc, Nat.reduceAdd, q2]

set_option maxHeartbeats 4000000 in
set_option maxRecDepth 100000 in
theorem enc3 (v : Int) (h0 : 0 ≤ v) (h1 : v < 18446744073709551616) (hv : v < 128 ^ 4) (hw : 3 = 0 ∨ (128 : Int) ^ 3 ≤ v) (G T o n c : Nat) (l : List Int) (w : World) (hb : w.heap[G]? = some (.cells (l.map (Value.int .u8)).toArray T (0, 0))) (hl : o + n ≤ l.length) (hn : 10 ≤ n) (hn2 : n < 1000) :
    Calls Tryd.prog 32 #[.slice (some ⟨G, o, none⟩) n c, .int .u64 v] w fun e w' => e = .returned (.tuple #[.int .i64 4, .nilIface]) ∧ w'.heap[G]? = some (.cells ((putAt l o (vbytes 3 v)).map (Value.int .u8)).toArray T (0, 0)) ∧ KeepBut w w' G none ∧ Below G w w' := by
  have HS := Aside0.mk (size_calls 3 v h0 h1 (by decide) hv hw)
  have hlt : decide ((n : Int) < 4) = false := by simp; omega
  have BK := Aside0.mk hb
  have HK := Aside0.mk (KeepBut.refl w G none)
  have HG := Aside0.mk (Below.refl G w)
  have HV := Aside0.mk hv
  clear hv hw hb
  go_enter Tryd.func32, Tryd.ntmps32
  go_wp2_with (first | (go_at_call 38; (with_reducible refine (HS.out _).mono ?_); rintro e w1 ⟨rfl, rfl⟩) | ((with_reducible refine gate_st rfl ?_); refine store_blk _ _ _ rfl rfl rfl BK.out rfl (by (try simp only [List.length_set]); omega) rfl (by kernel_rfl) ?_; intro W1 hb1 hk1 hg1; have n1 := Aside0.mk hb1; have n2 := Aside0.mk (HK.out.trans hk1 (.inl rfl)); have n3 := Aside0.mk (HG.out.trans hg1); clear BK HK HG hb1 hk1 hg1; have BK := n1; have HK := n2; have HG := n3; clear n1 n2 n3))
  go_returns
  refine ⟨rfl, ?_, HK.out, HG.out⟩
  refine BK.out.trans ?_
  have q2 : v / 128 / 128 = v / 16384 := by omega
  have q3 : v / 16384 / 128 = v / 2097152 := by omega
  simp only [vbytes, putAt, Nat.add_assoc, Nat.reduceAdd, q2, q3]

set_option maxHeartbeats 4000000 in
set_option maxRecDepth 100000 in
theorem enc4 (v : Int) (h0 : 0 ≤ v) (h1 : v < 18446744073709551616) (hv : v < 128 ^ 5) (hw : 4 = 0 ∨ (128 : Int) ^ 4 ≤ v) (G T o n c : Nat) (l : List Int) (w : World) (hb : w.heap[G]? = some (.cells (l.map (Value.int .u8)).toArray T (0, 0))) (hl : o + n ≤ l.length) (hn : 10 ≤ n) (hn2 : n < 1000) :
    Calls Tryd.prog 32 #[.slice (some ⟨G, o, none⟩) n c, .int .u64 v] w fun e w' => e = .returned (.tuple #[.int .i64 5, .nilIface]) ∧ w'.heap[G]? = some (.cells ((putAt l o (vbytes 4 v)).map (Value.int .u8)).toArray T (0, 0)) ∧ KeepBut w w' G none ∧ Below G w w' := by
  have HS := Aside0.mk (size_calls 4 v h0 h1 (by decide) hv hw)
  have hlt : decide ((n : Int) < 5) = false := by simp; omega
  have BK := Aside0.mk hb
  have HK := Aside0.mk (KeepBut.refl w G none)
  have HG := Aside0.mk (Below.refl G w)
  have HV := Aside0.mk hv
  clear hv hw hb
  go_enter Tryd.func32, Tryd.ntmps32
  go_wp2_with (first | (go_at_call 38; (with_reducible refine (HS.out _).mono ?_); rintro e w1 ⟨rfl, rfl⟩) | ((with_reducible refine gate_st rfl ?_); refine store_blk _ _ _ rfl rfl rfl BK.out rfl (by (try simp only [List.length_set]); omega) rfl (by kernel_rfl) ?_; intro W1 hb1 hk1 hg1; have n1 := Aside0.mk hb1; have n2 := Aside0.mk (HK.out.trans hk1 (.inl rfl)); have n3 := Aside0.mk (HG.out.trans hg1); clear BK HK HG hb1 hk1 hg1; have BK := n1; have HK := n2; have HG := n3; clear n1 n2 n3))
  go_returns
  refine ⟨rfl, ?_, HK.out, HG.out⟩
  refine BK.out.trans ?_
  have q2 : v / 128 / 128 = v / 16384 := by omega
  have q3 : v / 16384 / 128 = v / 2097152 := by omega
  have q4 : v / 2097152 / 128 = v / 268435456 := by omega
  simp only [vbytes, putAt, Nat.add_assoc, Nat.reduceAdd, q2, q3, q4]

set_option maxHeartbeats 4000000 in
set_option maxRecDepth 100000 in
theorem enc5 (v : Int) (h0 : 0 ≤ v) (h1 : v < 18446744073709551616) (hv : v < 128 ^ 6) (hw : 5 = 0 ∨ (128 : Int) ^ 5 ≤ v) (G T o n c : Nat) (l : List Int) (w : World) (hb : w.heap[G]? = some (.cells (l.map (Value.int .u8)).toArray T (0, 0))) (hl : o + n ≤ l.length) (hn : 10 ≤ n) (hn2 : n < 1000) :
    Calls Tryd.prog 32 #[.slice (some ⟨G, o, none⟩) n c, .int .u64 v] w fun e w' => e = .returned (.tuple #[.int .i64 6, .nilIface]) ∧ w'.heap[G]? = some (.cells ((putAt l o (vbytes 5 v)).map (Value.int .u8)).toArray T (0, 0)) ∧ KeepBut w w' G none ∧ Below G w w' := by
  have HS := Aside0.mk (size_calls 5 v h0 h1 (by decide) hv hw)
  have hlt : decide ((n : Int) < 6) = false := by simp; omega
  have BK := Aside0.mk hb
  have HK := Aside0.mk (KeepBut.refl w G none)
  have HG := Aside0.mk (Below.refl G w)
  have HV := Aside0.mk hv
  clear hv hw hb
  go_enter Tryd.func32, Tryd.ntmps32
  go_wp2_with (first | (go_at_call 38; (with_reducible refine (HS.out _).mono ?_); rintro e w1 ⟨rfl, rfl⟩) | ((with_reducible refine gate_st rfl ?_); refine store_blk _ _ _ rfl rfl rfl BK.out rfl (by (try simp only [List.length_set]); omega) rfl (by kernel_rfl) ?_; intro W1 hb1 hk1 hg1; have n1 := Aside0.mk hb1; have n2 := Aside0.mk (HK.out.trans hk1 (.inl rfl)); have n3 := Aside0.mk (HG.out.trans hg1); clear BK HK HG hb1 hk1 hg1; have BK := n1; have HK := n2; have HG := n3; clear n1 n2 n3))
  go_returns
  refine ⟨rfl, ?_, HK.out, HG.out⟩
  refine BK.out.trans ?_
  have q2 : v / 128 / 128 = v / 16384 := by omega
  have q3 : v / 16384 / 128 = v / 2097152 := by omega
  have q4 : v / 2097152 / 128 = v / 268435456 := by omega
  have q5 : v / 268435456 / 128 = v / 34359738368 := by omega
  simp only [vbytes, putAt, Nat.add_assoc, Nat.reduceAdd, q2, q3, q4, q5]

set_option maxHeartbeats 4000000 in
set_option maxRecDepth 100000 in
theorem enc6 (v : Int) (h0 : 0 ≤ v) (h1 : v < 18446744073709551616) (hv : v < 128 ^ 7) (hw : 6 = 0 ∨ (128 : Int) ^ 6 ≤ v) (G T o n c : Nat) (l : List Int) (w : World) (hb : w.heap[G]? = some (.cells (l.map (Value.int .u8)).toArray T (0, 0))) (hl : o + n ≤ l.length) (hn : 10 ≤ n) (hn2 : n < 1000) :
    Calls Tryd.prog 32 #[.slice (some ⟨G, o, none⟩) n c, .int .u64 v] w fun e w' => e = .returned (.tuple #[.int .i64 7, .nilIface]) ∧ w'.heap[G]? = some (.cells ((putAt l o (vbytes 6 v)).map (Value.int .u8)).toArray T (0, 0)) ∧ KeepBut w w' G none ∧ Below G w w' := by
  have HS := Aside0.mk (size_calls 6 v h0 h1 (by decide) hv hw)
  have hlt : decide ((n : Int) < 7) = false := by simp; omega
  have BK := Aside0.mk hb
  have HK := Aside0.mk (KeepBut.refl w G none)
  have HG := Aside0.mk (Below.refl G w)
  have HV := Aside0.mk hv
  clear hv hw hb
  go_enter Tryd.func32, Tryd.ntmps32
  go_wp2_with (first | (go_at_call 38; (with_reducible refine (HS.out _).mono ?_); rintro e w1 ⟨rfl, rfl⟩) | ((with_reducible refine gate_st rfl ?_); refine store_blk _ _ _ rfl rfl rfl BK.out rfl (by (try simp only [List.length_set]); omega) rfl (by kernel_rfl) ?_; intro W1 hb1 hk1 hg1; have n1 := Aside0.mk hb1; have n2 := Aside0.mk (HK.out.trans hk1 (.inl rfl)); have n3 := Aside0.mk (HG.out.trans hg1); clear BK HK HG hb1 hk1 hg1; have BK := n1; have HK := n2; have HG := n3; clear n1 n2 n3))
  go_returns
  refine ⟨rfl, ?_, HK.out, HG.out⟩
  refine BK.out.trans ?_
  have q2 : v / 128 / 128 = v / 16384 := by omega
  have q3 : v / 16384 / 128 = v / 2097152 := by omega
  have q4 : v / 2097152 / 128 = v / 268435456 := by omega
  have q5 : v / 268435456 / 128 = v / 34359738368 := by omega
  have q6 : v / 34359738368 / 128 = v / 4398046511104 := by omega
  simp only [vbytes, putAt, Nat.add_assoc, Nat.reduceAdd, q2, q3, q4, q5, q6]

set_option maxHeartbeats 4000000 in
set_option maxRecDepth 100000 in
theorem enc7 (v : Int) (h0 : 0 ≤ v) (h1 : v < 18446744073709551616) (hv : v < 128 ^ 8) (hw : 7 = 0 ∨ (128 : Int) ^ 7 ≤ v) (G T o n c : Nat) (l : List Int) (w : World) (hb : w.heap[G]? = some (.cells (l.map (Value.int .u8)).toArray T (0, 0))) (hl : o + n ≤ l.length) (hn : 10 ≤ n) (hn2 : n < 1000) :
    Calls Tryd.prog 32 #[.slice (some ⟨G, o, none⟩) n c, .int .u64 v] w fun e w' => e = .returned (.tuple #[.int .i64 8, .nilIface]) ∧ w'.heap[G]? = some (.cells ((putAt l o (vbytes 7 v)).map (Value.int .u8)).toArray T (0, 0)) ∧ KeepBut w w' G none ∧ Below G w w' := by
  have HS := Aside0.mk (size_calls 7 v h0 h1 (by decide) hv hw)
  have hlt : decide ((n : Int) < 8) = false := by simp; omega
  have BK := Aside0.mk hb
  have HK := Aside0.mk (KeepBut.refl w G none)
  have HG := Aside0.mk (Below.refl G w)
  have HV := Aside0.mk hv
  clear hv hw hb
  go_enter Tryd.func32, Tryd.ntmps32
  go_wp2_with (first | (go_at_call 38; (with_reducible refine (HS.out _).mono ?_); rintro e w1 ⟨rfl, rfl⟩) | ((with_reducible refine gate_st rfl ?_); refine store_blk _ _ _ rfl rfl rfl BK.out rfl (by (try simp only [List.length_set]); omega) rfl (by kernel_rfl) ?_; intro W1 hb1 hk1 hg1; have n1 := Aside0.mk hb1; have n2 := Aside0.mk (HK.out.trans hk1 (.inl rfl)); have n3 := Aside0.mk (HG.out.trans hg1); clear BK HK HG hb1 hk1 hg1; have BK := n1; have HK := n2; have HG := n3; clear n1 n2 n3))
  go_returns
  refine ⟨rfl, ?_, HK.out, HG.out⟩
  refine BK.out.trans ?_
  have q2 : v / 128 / 128 = v / 16384 := by omega
  have q3 : v / 16384 / 128 = v / 2097152 := by omega
  have q4 : v / 2097152 / 128 = v / 268435456 := by omega
  have q5 : v / 268435456 / 128 = v / 34359738368 := by omega
  have q6 : v / 34359738368 / 128 = v / 4398046511104 := by omega
  have q7 : v / 4398046511104 / 128 = v / 562949953421312 := by omega
  simp only [vbytes, putAt, Nat.add_assoc, Nat.reduceAdd, q2, q3, q4, q5, q6, q7]

set_option maxHeartbeats 4000000 in
set_option maxRecDepth 100000 in
theorem enc8 (v : Int) (h0 : 0 ≤ v) (h1 : v < 18446744073709551616) (hv : v < 128 ^ 9) (hw : 8 = 0 ∨ (128 : Int) ^ 8 ≤ v) (G T o n c : Nat) (l : List Int) (w : World) (hb : w.heap[G]? = some (.cells (l.map (Value.int .u8)).toArray T (0, 0))) (hl : o + n ≤ l.length) (hn : 10 ≤ n) (hn2 : n < 1000) :
    Calls Tryd.prog 32 #[.slice (some ⟨G, o, none⟩) n c, .int .u64 v] w fun e w' => e = .returned (.tuple #[.int .i64 9, .nilIface]) ∧ w'.heap[G]? = some (.cells ((putAt l o (vbytes 8 v)).map (Value.int .u8)).toArray T (0, 0)) ∧ KeepBut w w' G none ∧ Below G w w' := by
  have HS := Aside0.mk (size_calls 8 v h0 h1 (by decide) hv hw)
  have hlt : decide ((n : Int) < 9) = false := by simp; omega
  have BK := Aside0.mk hb
  have HK := Aside0.mk (KeepBut.refl w G none)
  have HG := Aside0.mk (Below.refl G w)
  have HV := Aside0.mk hv
  clear hv hw hb
  go_enter Tryd.func32, Tryd.ntmps32
  go_wp2_with (first | (go_at_call 38; (with_reducible refine (HS.out _).mono ?_); rintro e w1 ⟨rfl, rfl⟩) | ((with_reducible refine gate_st rfl ?_); refine store_blk _ _ _ rfl rfl rfl BK.out rfl (by (try simp only [List.length_set]); omega) rfl (by kernel_rfl) ?_; intro W1 hb1 hk1 hg1; have n1 := Aside0.mk hb1; have n2 := Aside0.mk (HK.out.trans hk1 (.inl rfl)); have n3 := Aside0.mk (HG.out.trans hg1); clear BK HK HG hb1 hk1 hg1; have BK := n1; have HK := n2; have HG := n3; clear n1 n2 n3))
  go_returns
  refine ⟨rfl, ?_, HK.out, HG.out⟩
  refine BK.out.trans ?_
  have q2 : v / 128 / 128 = v / 16384 := by omega
  have q3 : v / 16384 / 128 = v / 2097152 := by omega
  have q4 : v / 2097152 / 128 = v / 268435456 := by omega
  have q5 : v / 268435456 / 128 = v / 34359738368 := by omega
  have q6 : v / 34359738368 / 128 = v / 4398046511104 := by omega
  have q7 : v / 4398046511104 / 128 = v / 562949953421312 := by omega
  have q8 : v / 562949953421312 / 128 = v / 72057594037927936 := by omega
  have hm : v / 72057594037927936 % 256 = v / 72057594037927936 := by omega
  simp only [vbytes, putAt, Nat.add_assoc, Nat.reduceAdd, q2, q3, q4, q5, q6, q7, q8, hm]

set_option maxHeartbeats 4000000 in
set_option maxRecDepth 100000 in
theorem enc9 (v : Int) (h0 : 0 ≤ v) (h1 : v < 18446744073709551616) (hv : v < 128 ^ 10) (hw : 9 = 0 ∨ (128 : Int) ^ 9 ≤ v) (G T o n c : Nat) (l : List Int) (w : World) (hb : w.heap[G]? = some (.cells (l.map (Value.int .u8)).toArray T (0, 0))) (hl : o + n ≤ l.length) (hn : 10 ≤ n) (hn2 : n < 1000) :
    Calls Tryd.prog 32 #[.slice (some ⟨G, o, none⟩) n c, .int .u64 v] w fun e w' => e = .returned (.tuple #[.int .i64 10, .nilIface]) ∧ w'.heap[G]? = some (.cells ((putAt l o (vbytes 9 v)).map (Value.int .u8)).toArray T (0, 0)) ∧ KeepBut w w' G none ∧ Below G w w' := by
  have HS := Aside0.mk (size_calls 9 v h0 h1 (by decide) hv hw)
  have hlt : decide ((n : Int) < 10) = false := by simp; omega
  have BK := Aside0.mk hb
  have HK := Aside0.mk (KeepBut.refl w G none)
  have HG := Aside0.mk (Below.refl G w)
  have HV := Aside0.mk hv
  clear hv hw hb
  go_enter Tryd.func32, Tryd.ntmps32
  go_wp2_with (first | (go_at_call 38; (with_reducible refine (HS.out _).mono ?_); rintro e w1 ⟨rfl, rfl⟩) | ((with_reducible refine gate_st rfl ?_); refine store_blk _ _ _ rfl rfl rfl BK.out rfl (by (try simp only [List.length_set]); omega) rfl (by kernel_rfl) ?_; intro W1 hb1 hk1 hg1; have n1 := Aside0.mk hb1; have n2 := Aside0.mk (HK.out.trans hk1 (.inl rfl)); have n3 := Aside0.mk (HG.out.trans hg1); clear BK HK HG hb1 hk1 hg1; have BK := n1; have HK := n2; have HG := n3; clear n1 n2 n3))
  go_returns
  refine ⟨rfl, ?_, HK.out, HG.out⟩
  refine BK.out.trans ?_
  have q2 : v / 128 / 128 = v / 16384 := by omega
  have q3 : v / 16384 / 128 = v / 2097152 := by omega
  have q4 : v / 2097152 / 128 = v / 268435456 := by omega
  have q5 : v / 268435456 / 128 = v / 34359738368 := by omega
  have q6 : v / 34359738368 / 128 = v / 4398046511104 := by omega
  have q7 : v / 4398046511104 / 128 = v / 562949953421312 := by omega
  have q8 : v / 562949953421312 / 128 = v / 72057594037927936 := by omega
  have q9 : v / 72057594037927936 / 128 = v / 9223372036854775808 := by omega
  have hm : v / 9223372036854775808 % 256 = v / 9223372036854775808 := by omega
  have hm8 : v / 72057594037927936 % 256 = v / 72057594037927936 := by omega
  simp only [vbytes, putAt, Nat.add_assoc, Nat.reduceAdd, q2, q3, q4, q5, q6, q7, q8, q9, hm, hm8]

/-- The varint writer, whatever the number: j is how many bytes stand ahead of the last. -/
theorem enc (j : Nat) (hj : j < 10) (v : Int) (h0 : 0 ≤ v) (h1 : v < 18446744073709551616) (hv : v < 128 ^ (j + 1)) (hw : j = 0 ∨ (128 : Int) ^ j ≤ v) (G T o n c : Nat) (l : List Int) (w : World) (hb : w.heap[G]? = some (.cells (l.map (Value.int .u8)).toArray T (0, 0))) (hl : o + n ≤ l.length) (hn : 10 ≤ n) (hn2 : n < 1000) :
    Calls Tryd.prog 32 #[.slice (some ⟨G, o, none⟩) n c, .int .u64 v] w fun e w' => e = .returned (.tuple #[.int .i64 ((j + 1 : Nat) : Int), .nilIface]) ∧ w'.heap[G]? = some (.cells ((l.take o ++ vbytes j v ++ l.drop (o + (j + 1))).map (Value.int .u8)).toArray T (0, 0)) ∧ KeepBut w w' G none ∧ Below G w w' := by
  have hp : putAt l o (vbytes j v) = l.take o ++ vbytes j v ++ l.drop (o + (j + 1)) := by
    have hq := vbytes_len j v
    rw [putAt_eq _ _ _ (by omega), hq]
  rw [← hp]
  match j, hj with
  | 0, _ => exact enc0 v h0 h1 hv hw G T o n c l w hb hl hn hn2
  | 1, _ => exact enc1 v h0 h1 hv hw G T o n c l w hb hl hn hn2
  | 2, _ => exact enc2 v h0 h1 hv hw G T o n c l w hb hl hn hn2
  | 3, _ => exact enc3 v h0 h1 hv hw G T o n c l w hb hl hn hn2
  | 4, _ => exact enc4 v h0 h1 hv hw G T o n c l w hb hl hn hn2
  | 5, _ => exact enc5 v h0 h1 hv hw G T o n c l w hb hl hn hn2
  | 6, _ => exact enc6 v h0 h1 hv hw G T o n c l w hb hl hn hn2
  | 7, _ => exact enc7 v h0 h1 hv hw G T o n c l w hb hl hn hn2
  | 8, _ => exact enc8 v h0 h1 hv hw G T o n c l w hb hl hn hn2
  | 9, _ => exact enc9 v h0 h1 hv hw G T o n c l w hb hl hn hn2

end Go.Proofs.YtokediiehlnjkaaDoor.Pb
