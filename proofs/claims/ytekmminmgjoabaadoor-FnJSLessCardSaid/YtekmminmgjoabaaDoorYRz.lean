/- bytes.IndexByte. Blanks ahead. -/
import Derived.Test.YtekmminmgjoabaaDoorYRy
import Derived.Test.YtekmminmgjoabaaDoorYKa
import Derived.Deep.DeepCutAuto
import Derived.Deep.LoopGhost
import Derived.Deep.RegionLaw
import Derived.Deep.QuietTactic
import Derived.Deep.RegionHeld3
import Derived.Lib.BytesEntry
import Derived.Lib.Walk
namespace Go.Proofs.YtekmminmgjoabaaDoor.Js
open Go.RowKit Go.Proofs.YtekmminmgjoabaaDoorW.PrintWords Go.Proofs.YtekmminmgjoabaaDoorW.PrintLast Go.Proofs.YtekmminmgjoabaaDoorW.PrintMore Go.Proofs.YtekmminmgjoabaaDoor.PFnJSTokens
set_option linter.unusedVariables false
set_option linter.unusedSimpArgs false
/-- Where the first one stands; -1: nowhere. -/
def idx : List Int → Int → Int
  | [], _ => -1
  | b :: l, c => if b = c then 0 else if idx l c = -1 then -1 else idx l c + 1
theorem idx_lib (c : Int) (h0 : 0 ≤ c) (h1 : c ≤ 255) : ∀ zs : List Int, Bytes zs → Lib.indexByte (Lib.bytesOf zs) c.toNat.toUInt8 = idx zs c := by
  intro zs
  induction zs with
  | nil => intro _; rfl
  | cons b l ih =>
    intro hb
    have h2 := hb b List.mem_cons_self
    have e := ih (fun d hd => hb d (List.mem_cons_of_mem _ hd))
    show (if (UInt8.ofNat b.toNat) == c.toNat.toUInt8 then 0 else if Lib.indexByte (Lib.bytesOf l) c.toNat.toUInt8 == -1 then -1 else Lib.indexByte (Lib.bytesOf l) c.toNat.toUInt8 + 1) = _
    rw [e, idx]
    have hq : ((UInt8.ofNat b.toNat) == c.toNat.toUInt8) = decide (b = c) := by
      rw [Bool.eq_iff_iff, beq_iff_eq, decide_eq_true_iff]
      constructor
      · intro h
        have := congrArg UInt8.toNat h
        simp at this
        omega
      · rintro rfl; rfl
    rw [hq]
    simp
theorem run_indexSl {P : Program} {w : World} {B : Nat} {A : Option Addr} {n c : Nat} {zs : List Int} (h : Sl w B (.slice A n c) zs) (hb : Bytes zs) (cv : Int) (h0 : 0 ≤ cv) (h1 : cv ≤ 255) :
    (Extern.BytealgIndexByte.indexByte #[.slice A n c, .int .u8 cv]).run P w = .ok (.int .i64 (idx zs cv)) w := by
  rw [← idx_lib cv h0 h1 zs hb]
  obtain ⟨rfl, hl, hC, hA⟩ := h.cut
  by_cases hz : zs = []
  · subst hz
    cases A with
    | none => exact Lib.run_indexByteNil w _ c cv
    | some a =>
      have hs := Lib.run_indexByteString (P := P) .empty cv w
      exact hs
  obtain ⟨a, rfl, hc⟩ := hC.2.2 (List.length_pos_iff.2 hz)
  have hl := Lib.run_loadBytesX (P := P) w zs a .empty (fun j x hj => by
    obtain ⟨cs, e1, e2, e3⟩ := hc j x hj
    have e2 : cs = [.int .u8 x] := e2
    subst e2
    have := e3 0 _ rfl
    rw [show (Kd.int IntKind.u8).sz = 1 from rfl] at this
    simpa using this)
  have hs := Lib.run_indexByteString (P := P) ⟨(Lib.bytesOf zs).toArray⟩ cv w
  have he : (⟨ByteArray.empty.data ++ (Lib.bytesOf zs).toArray⟩ : ByteArray) = ⟨(Lib.bytesOf zs).toArray⟩ := by
    apply ByteArray.ext
    show (#[] : Array UInt8) ++ (Lib.bytesOf zs).toArray = (Lib.bytesOf zs).toArray
    simp
  rw [he] at hl
  change Sem.run P (do
    let b ← Extern.Bytes.bytesOf (.slice (some a) zs.length c)
    let c ← Extern.Bytes.asByte (.int .u8 cv)
    match (List.range b.size).find? fun i => b[i]! == c with
    | some i => pure (goInt i)
    | none => pure (goInt (-1))) w = _
  change Sem.run P (do
    let b ← Extern.Bytes.bytesOf (.string ⟨(Lib.bytesOf zs).toArray⟩)
    let c ← Extern.Bytes.asByte (.int .u8 cv)
    match (List.range b.size).find? fun i => b[i]! == c with
    | some i => pure (goInt i)
    | none => pure (goInt (-1))) w = _ at hs
  simp only [Extern.Bytes.bytesOf, Sem.run_bind, Sem.run_pure, hl, Result.andThen] at hs ⊢
  exact hs
set_option maxHeartbeats 4000000 in
set_option maxRecDepth 100000 in
theorem index_calls (w : World) (B : Nat) (A : Option Addr) (n c : Nat) (zs : List Int) (cv : Int) (h : Sl w B (.slice A n c) zs) (hb : Bytes zs) (h0 : 0 ≤ cv) (h1 : cv ≤ 255) :
    Calls Tryd.prog 112 #[.slice A n c, .int .u8 cv] w fun e w' => e = .returned (.int .i64 (idx zs cv)) ∧ w' = w := by
  have HR := Aside0.mk (run_indexSl (P := Tryd.prog) h hb cv h0 h1)
  clear h hb h0 h1
  go_enter Tryd.func112, Tryd.ntmps112
  go_wp2
  rw [run_callFunc_extern Tryd.func147 (by kernel_rfl) (by kernel_rfl) (by kernel_rfl) (e := Extern.BytealgIndexByte.indexByte) (by kernel_rfl), HR.out]
  simp only [Result.andThen]
  rw [Oper.upon_value]
  go_wp2
  go_ret
  exact ⟨rfl, rfl⟩
end Go.Proofs.YtekmminmgjoabaaDoor.Js

namespace Go.Proofs.YtekmminmgjoabaaDoor.Js
open Go.RowKit Go.Proofs.YtekmminmgjoabaaDoorW.PrintWords Go.Proofs.YtekmminmgjoabaaDoorW.PrintLast Go.Proofs.YtekmminmgjoabaaDoorW.PrintMore Go.Proofs.YtekmminmgjoabaaDoor.PFnJSTokens
set_option linter.unusedVariables false
set_option linter.unusedSimpArgs false
def isSp (c : Int) : Bool := c == 32 || c == 9 || c == 10 || c == 13
def skipF (zs : List Int) : List Int := zs.dropWhile isSp
theorem skip_at : ∀ (zs : List Int) (j : Nat), (∀ i, i < j → isSp (zs.getD i 0) = true) → j < zs.length → isSp (zs.getD j 0) = false → skipF zs = zs.drop j := by
  intro zs
  induction zs with
  | nil => intro j _ h; simp at h
  | cons b l ih =>
    intro j h1 h2 h3
    cases j with
    | zero =>
      have h3 : isSp b = false := by simpa using h3
      simp [skipF, h3]
    | succ j =>
      have h0 : isSp b = true := by simpa using h1 0 (by omega)
      have := ih j (fun i hi => by simpa using h1 (i + 1) (by omega)) (by simpa using h2) (by simpa using h3)
      simp only [skipF, List.dropWhile_cons, h0, if_true, List.drop_succ_cons] at this ⊢
      exact this
theorem skip_all : ∀ (zs : List Int), (∀ i, i < zs.length → isSp (zs.getD i 0) = true) → skipF zs = [] := by
  intro zs
  induction zs with
  | nil => intro _; rfl
  | cons b l ih =>
    intro h
    have h0 : isSp b = true := by simpa using h 0 (by simp)
    have := ih (fun i hi => by simpa using h (i + 1) (by simpa using hi))
    simp only [skipF, List.dropWhile_cons, h0, if_true] at this ⊢
    exact this
set_option maxHeartbeats 4000000 in
set_option maxRecDepth 100000 in
theorem skipN_calls (w : World) (B : Nat) (A : Option Addr) (n c : Nat) (zs : List Int) (h : Sl w B (.slice A n c) zs) (hb : Bytes zs) (hB : B ≤ w.heap.size) :
    Calls Tryd.prog 134 #[.slice A n c] w fun e w' => ∃ v i, e = .returned (.tuple #[v, .int .i64 i]) ∧ Sl w' B v (skipF zs) ∧ Below w.heap.size w w' := by
  obtain ⟨rfl, hnc⟩ := h.len
  have hmx : zs.length ≤ 9223372036854775807 := h.cut.2.2.1.2.1
  have HS := Aside0.mk h
  have HB := Aside0.mk hB
  clear h hb hB
  go_enter Tryd.func134, Tryd.ntmps134
  go_upto_region 2 with (fail)
  go_loopg [7] zs.length (fun m v7 w' => ∃ (j : Nat), v7 = .int .i64 (j : Int) ∧ Aside0 (j + m = zs.length) ∧ Aside0 (∀ i, i < j → isSp (zs.getD i 0) = true) ∧ Aside0 (Below w.heap.size w w'))
  case atStart => exact ⟨0, rfl, ⟨by omega⟩, ⟨fun i hi => by omega⟩, ⟨Below.refl _ _⟩⟩
  case round =>
    obtain ⟨j, rfl, HJ, HA, HBr⟩ := hrel
    cases gk with
    | zero =>
      have d0 : decide (j < zs.length) = false := by have := HJ.out; simp; omega
      go_wp2_with fail
      go_returns
      refine ⟨.slice none 0 0, 0, rfl, ?_, HBr.out⟩
      rw [skip_all zs (fun i hi => HA.out i (by have := HJ.out; omega))]
      exact Sl.nil _ _
    | succ k1 =>
      have d0 : decide (j < zs.length) = true := by have := HJ.out; simp; omega
      have hjl : j < zs.length := by have := HJ.out; omega
      obtain ⟨ad, rfl, hcell, -⟩ := (HS.out.below (HBr.out.mono HB.out)).at_ j hjl
      obtain ⟨A', hcut, hd⟩ := HS.out.next 22 j .i64 Tryd.underlying22 (Nat.le_of_lt hjl)
      obtain ⟨ch, hch⟩ : ∃ ch, ch = zs.getD j 0 := ⟨_, rfl⟩
      rw [← hch] at hcell
      have HCH := Aside0.mk hch
      have HD := Aside0.mk hd
      clear hch hd
      by_cases hs : isSp ch = true
      · have hsp : ∀ i, i < j + 1 → isSp (zs.getD i 0) = true := by
          intro i hi
          by_cases hij : i < j
          · exact HA.out i hij
          · obtain rfl : i = j := by omega
            rw [← HCH.out]; exact hs
        have HSP := Aside0.mk hsp
        have hor : ch = 32 ∨ ch = 9 ∨ ch = 10 ∨ ch = 13 := by simpa [isSp, or_assoc] using hs
        clear hsp hs
        rcases hor with rfl | rfl | rfl | rfl
        all_goals
          go_wp2_with fail
          go_roundg k1
          case measure => omega
          case rel => exact ⟨j + 1, by go_num, ⟨by have := HJ.out; omega⟩, HSP, HBr⟩
      · have hs : isSp ch = false := by simpa using hs
        have hnot : ¬ ch = 32 ∧ ¬ ch = 9 ∧ ¬ ch = 10 ∧ ¬ ch = 13 := by simpa [isSp, and_assoc] using hs
        obtain ⟨n1, n2, n3, n4⟩ := hnot
        have HSF := Aside0.mk hs
        clear hs
        go_wp2_with fail
        go_returns
        refine ⟨.slice A' (zs.length - j) (c - j), (j : Int), rfl, ?_, HBr.out⟩
        rw [skip_at zs j HA.out hjl (by rw [← HCH.out]; exact HSF.out)]
        exact HD.out.below (HBr.out.mono HB.out)
set_option maxHeartbeats 4000000 in
set_option maxRecDepth 100000 in
theorem skip_calls (w : World) (B : Nat) (A : Option Addr) (n c : Nat) (zs : List Int) (h : Sl w B (.slice A n c) zs) (hb : Bytes zs) (hB : B ≤ w.heap.size) :
    Calls Tryd.prog 95 #[.slice A n c] w fun e w' => ∃ v, e = .returned v ∧ Sl w' B v (skipF zs) ∧ Below w.heap.size w w' := by
  have HN := Aside0.mk (skipN_calls w B A n c zs h hb hB)
  have HS := Aside0.mk h
  cases zs with
  | nil =>
    obtain ⟨rfl, hnc⟩ := h.len
    clear h hb hB
    go_enter Tryd.func95, Tryd.ntmps95
    go_wp2_with fail
    go_returns
    exact ⟨_, rfl, HS.out, Below.refl _ _⟩
  | cons b l =>
    obtain ⟨ad, A', rfl, rfl, hcell, -⟩ := h.head 22 Tryd.underlying22
    by_cases h32 : b ≤ 32
    · have hd : decide (b ≤ 32) = true := by simpa using h32
      clear h hb hB
      go_enter Tryd.func95, Tryd.ntmps95
      go_wp2_with (go_at_call 134; (with_reducible refine HN.out.mono ?_); rintro e w2 ⟨v, i, rfl, hv, hb2⟩)
      go_returns
      exact ⟨_, rfl, hv, hb2⟩
    · have hd : decide (b ≤ 32) = false := by simpa using h32
      have hsf : skipF (b :: l) = b :: l := by
        have : isSp b = false := by simp [isSp]; omega
        simp [skipF, this]
      have HSF := Aside0.mk hsf
      clear h hb hB hsf
      go_enter Tryd.func95, Tryd.ntmps95
      go_wp2_with fail
      go_returns
      rw [HSF.out]
      exact ⟨_, rfl, HS.out, Below.refl _ _⟩
end Go.Proofs.YtekmminmgjoabaaDoor.Js

