/- Merged by merge.py (wip/tpl) out of ThSpec, ThSpecA0, ThSpecD0: The definition's numbers: the lowest bytes of a number, the highest one of them first; and the writing of a text behind a row. Written by thspec2.py (wip/tpl): one call's bytes by the binary protocols, as the definition tells them. Written by thspec3.py (wip/tpl): one call's bytes by the compact protocol, as the definition tells them. -/
import Derived.Test.YtmjilokgpgajjaaGreatSThM1
import Derived.Test.YtmjilokgpgajjaaGreatSPFnTHScriptsx1
import Derived.Test.YtmjilokgpgajjaaGreatSPFnTHScriptsx2
import Derived.Lib.AppendStr
import Derived.Deep.RegionLaw
import Derived.Deep.AppendLies
import Derived.Deep.RegionHeld3
import Derived.BigQuiet
import Derived.Deep.RegionWith
import Derived.Deep.DeepCutAuto
namespace Go.Proofs.YtmjilokgpgajjaaGreat.Th
open Go.RowKit Go.Proofs.YtmjilokgpgajjaaGreatW.PrintWords Go.Proofs.YtmjilokgpgajjaaGreatW.PrintLast Go.Proofs.YtmjilokgpgajjaaGreatW.PrintMore Go.Proofs.YtmjilokgpgajjaaGreat.PFnTHScripts
set_option linter.unusedVariables false
set_option linter.unusedSimpArgs false
theorem pow8 (m : Nat) : (2 : Int) ^ (8 * m) = 256 ^ m := by
  have : (2 : Nat) ^ (8 * m) = 256 ^ m := by rw [Nat.pow_mul]
  have h := congrArg (fun k : Nat => (k : Int)) this
  simpa using h
theorem wrhigh_l (u : Int) (h0 : 0 ≤ u) : ∀ (m K : Nat) (acc : List Int), m ≤ 8 → m < K → acc.length + m < 100 → spec_WRHigh.l0 K u acc ((m : Int) - 1) = some (acc ++ hib m u)
  | 0, K + 1, acc, _, _, _ => by
    simp only [spec_WRHigh.l0]
    rw [if_neg (by omega)]
    simp [hib]
  | m + 1, K + 1, acc, hm, hk, hl => by
    have ih := wrhigh_l u h0 m K (acc ++ [u / 256 ^ m % 256]) (by omega) (by omega)
    simp only [spec_WRHigh.l0]
    have e1 : ((m + 1 : Nat) : Int) - 1 = m := by omega
    have e2 : IntKind.u64.wrap (wrap64 (8 * (m : Int))) = ((8 * m : Nat) : Int) := by
      simp only [IntKind.wrap_u64]
      unfold wrap64
      omega
    have e3 : wrap64 ((m : Int) - 1) = (m : Int) - 1 := by unfold wrap64; omega
    have e4 : shr .u64 u ((8 * m : Nat) : Int) = u / 256 ^ m := by
      unfold shr
      rw [Int.toNat_natCast, show min (8 * m) IntKind.u64.bits = 8 * m from Nat.min_eq_left (by show 8 * m ≤ 64; omega), pow8]
    rw [e1, if_pos (by omega), e2, if_pos (by omega), if_pos (by omega), e3, e4, ih]
    · simp [hib]
    · rw [List.length_append]; simp; omega
theorem hib_wrap (n : Int) : ∀ k, k ≤ 8 → hib k (IntKind.u64.wrap n) = hib k n
  | 0, _ => rfl
  | k + 1, h => by
    have ih := hib_wrap n k (by omega)
    simp only [hib]
    rw [ih]
    congr 1
    simp only [IntKind.wrap_u64]
    rcases (by omega : k = 0 ∨ k = 1 ∨ k = 2 ∨ k = 3 ∨ k = 4 ∨ k = 5 ∨ k = 6 ∨ k = 7) with rfl | rfl | rfl | rfl | rfl | rfl | rfl | rfl <;> simp only [Int.reducePow] <;> omega
theorem wrhigh (n : Int) (m : Nat) (h : m ≤ 8) : spec_WRHigh.f 9 (IntKind.u64.wrap n) (m : Int) = some (hib m n) := by
  have h0 : 0 ≤ IntKind.u64.wrap n := by simp only [IntKind.wrap_u64]; omega
  have e : wrap64 ((m : Int) - 1) = (m : Int) - 1 := by unfold wrap64; omega
  unfold spec_WRHigh.f
  rw [e, wrhigh_l _ h0 m 9 [] h (by omega) (by simp; omega), hib_wrap n m h]
  rfl
theorem wrhigh2 (n : Int) : spec_WRHigh.f 9 (IntKind.u64.wrap n) 2 = some (hib 2 n) := wrhigh n 2 (by omega)
theorem wrhigh4 (n : Int) : spec_WRHigh.f 9 (IntKind.u64.wrap n) 4 = some (hib 4 n) := wrhigh n 4 (by omega)
theorem R_str {e : Nat} {w1 : World} {base : Nat} {v1 : Value} {xs : List Int} (h : w1.ownsRow base e 1 v1 xs.length (nums .u8 xs)) : (Kd.int .u8).R e w1 base (fun _ => True) v1 xs := Kd.R_of_own (show w1.ownsRow base e 1 v1 xs.length (encs (Value.int .u8) xs) from h) (fun _ _ => trivial)
/-- A text behind a row, in a region that draws its order. -/
theorem str_step {P : Program} {ops : Array Oper} {o : Oper} {a : Act} {Q : Exit → Act → World → Prop} {Kc : Act → World → Prop} {w0 W : World} (base : Nat) (hw : Region.wanted o (yielded ops a.tmps) = true) (s x : Operand) (t u e : TypeId)
    (ho : o.op = .call { callee := .builtin .append, args := #[s, x], argTypes := #[t, u] })
    (ht : P.underlying t = some (.slice e)) (hu : P.underlying u = some .string) (hinfo : (P.info? e).map (fun i => (i.zero, i.size, i.bytes)) = some (some (.int .u8 0), 1, 1))
    (v : Value) (xs : List Int) (y : ByteArray) (hs : a.eval s = v) (hx : a.eval x = .string y)
    (HO : (Kd.int .u8).R e W base (fun _ => True) v xs) (HB : Below base w0 W) (hbase : base ≤ W.heap.size) (hl : xs.length + y.size ≤ 140737488355328)
    (h : ∀ v1 w1, (Kd.int .u8).R e w1 base (fun _ => True) v1 (xs ++ bytesOf y) → Below base w0 w1 → W.grownBy w1 v.ownBlock → Kc (a.put o.dst v1) w1) :
    if Region.wanted o (yielded ops a.tmps) = true then Oper.wp P o a W Kc Q else Kc (a.put o.dst undef) W := by
  obtain ⟨i0, hi, hzz⟩ := Option.map_eq_some_iff.1 hinfo
  simp only [Prod.mk.injEq] at hzz
  obtain ⟨hz0, hz1, hz2⟩ := hzz
  have HOW : W.ownsRow base e 1 v xs.length (nums .u8 xs) := Kd.own_of_R HO
  obtain ⟨v1, w1, hr1, hown, hg, _⟩ := Lib.run_append_own_string (P := P) W base t u o.type e i0 ht hu hi hz0 hz1 hz2 v xs.length (nums .u8 xs) HOW y (by simp only [maxLen]; omega) hl hbase
  rw [if_pos hw]
  unfold Oper.wp execOp
  simp only [ho, resolve, invoke, builtin, Sem.run_bind, Sem.run_pure, Result.andThen_ok, List.map_toArray, List.map_cons, List.map_nil, hs, hx, hr1]
  have hl2 : (xs ++ bytesOf y).length = xs.length + y.size := by rw [List.length_append, bytesOf_length]
  have hc : nums .u8 (xs ++ bytesOf y) = nums .u8 xs ++ Lib.strCells y := by
    rw [nums_append]
    congr 1
    simp [nums, bytesOf, Lib.strCells]
  exact h v1 w1 (R_str (by rw [hl2, hc]; exact hown)) (HB.grown hg hbase (own_base HOW)) hg
end Go.Proofs.YtmjilokgpgajjaaGreat.Th

namespace Go.Proofs.YtmjilokgpgajjaaGreat.Th
open Go.RowKit Go.Proofs.YtmjilokgpgajjaaGreatW.PrintWords Go.Proofs.YtmjilokgpgajjaaGreatW.PrintLast Go.Proofs.YtmjilokgpgajjaaGreatW.PrintMore Go.Proofs.YtmjilokgpgajjaaGreat.PFnTHScripts
set_option linter.unusedVariables false
set_option linter.unusedSimpArgs false
theorem R_litw (W : World) (base : Nat) (hb : base ≤ W.heap.size) (xs : List Int) (hl : xs.length < 1000) : (Kd.int .u8).R 5 (W.alloc (.cells (nums .u8 xs).toArray 5)) base (fun _ => True) (.slice (some ⟨W.heap.size, 0, none⟩) xs.length xs.length) xs :=
  Kd.R_of_own (World.ownsRow_lit (base := base) (e := 5) (size := 1) W (nums .u8 xs).toArray xs.length hb (by simp only [maxLen]; omega) (by simp [nums])) (fun _ _ => trivial)
end Go.Proofs.YtmjilokgpgajjaaGreat.Th

namespace Go.Proofs.YtmjilokgpgajjaaGreat.Th
open Go.RowKit Go.Proofs.YtmjilokgpgajjaaGreatW.PrintWords Go.Proofs.YtmjilokgpgajjaaGreatW.PrintLast Go.Proofs.YtmjilokgpgajjaaGreatW.PrintMore Go.Proofs.YtmjilokgpgajjaaGreat.PFnTHScripts
set_option linter.unusedVariables false
set_option linter.unusedSimpArgs false
theorem wrvarw (n : Int) (h0 : 0 ≤ n) (h1 : n < 18446744073709551616) (j : Nat) (hj : j < 10) (hn : nb j n) : spec_WRVar.f 11 (IntKind.u64.wrap n) = some (vbytes j n) := by
  rw [show IntKind.u64.wrap n = n by simp only [IntKind.wrap_u64]; omega]
  exact wrvar j 11 n hn (by omega) hj
end Go.Proofs.YtmjilokgpgajjaaGreat.Th

