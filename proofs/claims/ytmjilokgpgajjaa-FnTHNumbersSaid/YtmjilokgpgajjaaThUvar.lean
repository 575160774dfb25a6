/- The writing of a number in parts of seven bits. -/
import Derived.Test.YtmjilokgpgajjaaThBin2
import Derived.Test.YtmjilokgpgajjaaPFnTHWritesx2
namespace Go.Proofs.Ytmjilokgpgajjaa.Th
open Go.RowKit Go.Proofs.YtmjilokgpgajjaaW.PrintWords Go.Proofs.YtmjilokgpgajjaaW.PrintLast Go.Proofs.YtmjilokgpgajjaaW.PrintMore Go.Proofs.Ytmjilokgpgajjaa.PFnTHWrites
set_option linter.unusedVariables false
set_option linter.unusedSimpArgs false
/-- Is a number written with j bytes ahead of its last? -/
def nb : Nat → Int → Prop
  | 0, v => v ≤ 127
  | j + 1, v => 127 < v ∧ nb j (v / 128)
/-- The bytes of a number, j ahead of its last. -/
def vbytes : Nat → Int → List Int
  | 0, v => [v % 256]
  | j + 1, v => Go.bits .or .u8 (v % 256) 128 :: vbytes j (v / 128)
theorem vbytes_len : ∀ (j : Nat) (v : Int), (vbytes j v).length = j + 1
  | 0, _ => rfl
  | j + 1, v => by simp [vbytes, vbytes_len j]
theorem var_bytes : ∀ (j K : Nat) (v : Int) (acc : List Int), nb j v → j < K → acc.length + j < 1000 → spec_WRVar.l0 K v acc = some (acc ++ vbytes j v)
  | 0, K + 1, v, acc, h, _, hl => by
    simp only [nb] at h
    simp only [spec_WRVar.l0]
    rw [if_neg (by omega), if_pos (by omega)]
    rfl
  | j + 1, K + 1, v, acc, h, hk, hl => by
    simp only [nb] at h
    simp only [spec_WRVar.l0]
    rw [if_pos (by omega), if_pos (by omega), var_bytes j K (v / 128) _ h.2 (by omega) (by simp; omega)]
    simp [vbytes]
theorem wrvar (j K : Nat) (v : Int) (h : nb j v) (hk : j < K) (hj : j < 10) : spec_WRVar.f K v = some (vbytes j v) := by
  unfold spec_WRVar.f
  rw [var_bytes j K v [] h hk (by simp; omega)]
  rfl
theorem nb_some (v : Int) (h0 : 0 ≤ v) (h1 : v < 18446744073709551616) : ∃ j, j < 10 ∧ nb j v := by
  rcases Int.lt_or_le v 128 with h | h
  · exact ⟨0, by omega, by simp only [nb]; omega⟩
  rcases Int.lt_or_le v 16384 with h2 | h2
  · exact ⟨1, by omega, by simp only [nb]; omega⟩
  rcases Int.lt_or_le v 2097152 with h3 | h3
  · exact ⟨2, by omega, by simp only [nb]; omega⟩
  rcases Int.lt_or_le v 268435456 with h4 | h4
  · exact ⟨3, by omega, by simp only [nb]; omega⟩
  rcases Int.lt_or_le v 34359738368 with h5 | h5
  · exact ⟨4, by omega, by simp only [nb]; omega⟩
  rcases Int.lt_or_le v 4398046511104 with h6 | h6
  · exact ⟨5, by omega, by simp only [nb]; omega⟩
  rcases Int.lt_or_le v 562949953421312 with h7 | h7
  · exact ⟨6, by omega, by simp only [nb]; omega⟩
  rcases Int.lt_or_le v 72057594037927936 with h8 | h8
  · exact ⟨7, by omega, by simp only [nb]; omega⟩
  rcases Int.lt_or_le v 9223372036854775808 with h9 | h9
  · exact ⟨8, by omega, by simp only [nb]; omega⟩
  · exact ⟨9, by omega, by simp only [nb]; omega⟩
theorem setBytes_snoc : ∀ (bs : List Int) (ws : Array Value) (o : Nat) (b : Int), setBytes ws o (bs ++ [b]) = (setBytes ws o bs).setIfInBounds (o + bs.length) (.int .u8 b)
  | [], ws, o, b => rfl
  | a :: r, ws, o, b => by
    rw [List.cons_append, setBytes, setBytes_snoc r, setBytes, List.length_cons]
    congr 1
    omega
set_option maxHeartbeats 4000000 in
set_option maxRecDepth 100000 in
theorem uvar (v : Int) (h0 : 0 ≤ v) (h1 : v < 18446744073709551616) (j : Nat) (hj : j < 10) (hn : nb j v) (G T o c : Nat) (ws : Array Value) (w : World) (hb : w.heap[G]? = some (.cells ws T (0, 0))) (hsz : o + 10 ≤ ws.size) :
    Calls Try.prog 142 #[.slice (some ⟨G, o, none⟩) 10 c, .int .u64 v] w fun e w' => e = .returned (.int .i64 ((j + 1 : Nat) : Int)) ∧ w'.heap[G]? = some (.cells (setBytes ws o (vbytes j v)) T (0, 0)) ∧ KeepBut w w' G none ∧ Below G w w' := by
  obtain ⟨bs, hbs⟩ : ∃ bs, bs = vbytes j v := ⟨_, rfl⟩
  rw [← hbs]
  have BK0 := Aside0.mk hb
  have HN0 := Aside0.mk hn
  have HBS := Aside0.mk hbs
  have HV := Aside0.mk h1
  have HSZ := Aside0.mk hsz
  clear hb hn hbs hsz
  go_enter Try.func142, Try.ntmps142
  go_upto_region 2 with fail
  go_loopg [1, 5] j (fun kq v1 v5 w' => ∃ (k : Nat) (x : Int) (pre : List Int), v1 = .int .u64 x ∧ v5 = .int .i64 (k : Int) ∧ Aside0 (k + kq = j) ∧ Aside0 (nb kq x) ∧ Aside0 (0 ≤ x ∧ x < 18446744073709551616) ∧ Aside0 (pre.length = k ∧ pre ++ vbytes kq x = bs) ∧ Aside0 (w'.heap[G]? = some (.cells (setBytes ws o pre) T (0, 0))) ∧ Aside0 (KeepBut w w' G none) ∧ Aside0 (Below G w w'))
  case atStart => exact ⟨0, v, [], rfl, rfl, ⟨by omega⟩, HN0, ⟨h0, h1⟩, ⟨⟨rfl, HBS.out.symm⟩⟩, BK0, ⟨KeepBut.refl w G none⟩, ⟨Below.refl G w⟩⟩
  case round =>
    obtain ⟨k, x, pre, rfl, rfl, HK, HN, HX, HP, BK, HKB, HG⟩ := hrel
    have x0 := HX.out.1
    have x1 := HX.out.2
    have hk10 : k < 10 := by have := HK.out; omega
    clear BK0 HN0 h0 h1
    cases gk with
    | zero =>
      have hle := HN.out
      simp only [nb] at hle
      have d : decide (128 ≤ x) = false := by simp; omega
      have HLE := Aside0.mk hle
      clear hle
      go_wp2_with ((with_reducible refine gate_st rfl ?_); refine store_any _ _ _ rfl rfl rfl BK.out rfl (by rw [setBytes_size]; have := HSZ.out; omega) rfl rfl rfl (by kernel_rfl) ?_; intro W1 hb1 hk1 hg1; have n1 := Aside0.mk hb1; have n2 := Aside0.mk (HKB.out.trans hk1 (.inl rfl)); have n3 := Aside0.mk (HG.out.trans hg1); clear BK HKB HG hb1 hk1 hg1; have BK := n1; have HKB := n2; have HG := n3; clear n1 n2 n3)
      go_ret
      refine ⟨congrArg Ending.returned (congrArg (Value.int .i64) (by have := HK.out; omega)), ?_, HKB.out, HG.out⟩
      have hq : (setBytes ws o pre).setIfInBounds (o + k) (.int .u8 (x % 256)) = setBytes ws o bs := by
        rw [← HP.out.2]
        show _ = setBytes ws o (pre ++ [x % 256])
        rw [setBytes_snoc, HP.out.1]
      rw [← hq]
      exact BK.out
    | succ k1 =>
      have hle := HN.out
      simp only [nb] at hle
      have d : decide (128 ≤ x) = true := by simp; omega
      have HLE := Aside0.mk hle
      clear hle
      go_wp2_with ((with_reducible refine gate_st rfl ?_); refine store_any _ _ _ rfl rfl rfl BK.out rfl (by rw [setBytes_size]; have := HSZ.out; omega) rfl rfl rfl (by kernel_rfl) ?_; intro W1 hb1 hk1 hg1; have n1 := Aside0.mk hb1; have n2 := Aside0.mk (HKB.out.trans hk1 (.inl rfl)); have n3 := Aside0.mk (HG.out.trans hg1); clear BK HKB HG hb1 hk1 hg1; have BK := n1; have HKB := n2; have HG := n3; clear n1 n2 n3)
      go_roundg k1
      case measure => omega
      case rel => exact ⟨k + 1, x / 128, pre ++ [Go.bits .or .u8 (x % 256) 128], rfl, rfl, ⟨by have := HK.out; omega⟩, ⟨HLE.out.2⟩, ⟨by omega, by omega⟩, ⟨⟨by rw [List.length_append, HP.out.1]; rfl, by rw [List.append_assoc]; exact HP.out.2⟩⟩, ⟨by rw [setBytes_snoc, HP.out.1]; exact BK.out⟩, HKB, HG⟩
end Go.Proofs.Ytmjilokgpgajjaa.Th
