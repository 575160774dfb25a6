/- Merged by merge.py (wip/tpl) out of ThRf, ThRg0: Written by thrdcall.py (wip/tpl): what the readers read of the bytes of each call Written by thrdcall.py (wip/tpl): a call of a reader through its interface: what is read -/
import Derived.Test.YtmjilokgpgajjaaGreatSThRc4
import Derived.Deep.RegionWith
import Derived.RegionTactic
import Derived.BigRegion
namespace Go.Proofs.YtmjilokgpgajjaaGreat.Th
open Go.RowKit Go.Proofs.YtmjilokgpgajjaaGreatW.PrintWords Go.Proofs.YtmjilokgpgajjaaGreatW.PrintLast Go.Proofs.YtmjilokgpgajjaaGreatW.PrintMore
set_option linter.unusedVariables false
set_option linter.unusedSimpArgs false
theorem w8 (a : Int) (a0 : 0 ≤ a) (a1 : a < 128) : IntKind.i8.wrap (IntKind.u8.wrap a) = a := by
  have e : ∀ x : Int, IntKind.i8.wrap x = (x + 128) % 256 - 128 := fun x => by simp [IntKind.wrap, IntKind.signed, IntKind.bits, IntKind.min, IntKind.max]; omega
  rw [e]; simp only [IntKind.wrap_u8]; omega
theorem f_field (w : World) (base Rb Rd T off SZ : Nat) (A : Option Addr) (D : List Int) (C i : Nat) (hs : Sr w base Rb Rd T off SZ A D C i) (n a : Int) (h0 : -32768 ≤ n) (h1 : n < 32768) (a0 : 0 ≤ a) (a1 : a < 13) (hz : At D i ([IntKind.u8.wrap a] ++ hib 2 n)) :
    Calls Tryz.prog 56 #[.pointer (some ⟨Rd, off, none⟩)] w fun e w' => e = .returned (.tuple #[.agg #[.int .i16 n, .int .i8 a, .bool false], .nilIface]) ∧ Done w w' base Rb Rd T off SZ A D C (i + 1 + 2) := by
  have h := r_field w base Rb Rd T off SZ A D C i hs _ n h0 h1 hz
  rw [w8 a (by omega) (by omega)] at h
  exact h
end Go.Proofs.YtmjilokgpgajjaaGreat.Th

namespace Go.Proofs.YtmjilokgpgajjaaGreat.Th
open Go.RowKit Go.Proofs.YtmjilokgpgajjaaGreatW.PrintWords Go.Proofs.YtmjilokgpgajjaaGreatW.PrintLast Go.Proofs.YtmjilokgpgajjaaGreatW.PrintMore
set_option linter.unusedVariables false
set_option linter.unusedSimpArgs false
theorem KeepBut.drewr {w X : World} {g : Nat} (h : KeepBut w X g none) : KeepBut w X.drew g none := h
theorem fin6 {w W : World} {base Rb Rd T off SZ B t : Nat} {A : Option Addr} {D : List Int} {C j : Nat} {b0 b1 b2 b3 b4 b5 : Value} (a0 a1 a2 a3 a4 a5 : Value) (hs : Sr W base Rb Rd T off SZ A D C j) (hn : B ≠ Rb ∧ B ≠ Rd ∧ base ≤ B ∧ w.heap.size ≤ B) (hk : Kp w W Rb Rd) (hb : Below base w W) (h : W.heap[B]? = some (.cells #[b0, b1, b2, b3, b4, b5] t (0, 0))) :
    ∃ X, X = ((((((W.setCell ⟨B, 0, none⟩ a0).setCell ⟨B, 1, none⟩ a1).setCell ⟨B, 2, none⟩ a2).setCell ⟨B, 3, none⟩ a3).setCell ⟨B, 4, none⟩ a4).setCell ⟨B, 5, none⟩ a5).drew ∧ X.cell? ⟨B, 0, none⟩ = some a0 ∧ X.cell? ⟨B, 1, none⟩ = some a1 ∧ X.cell? ⟨B, 2, none⟩ = some a2 ∧ X.cell? ⟨B, 3, none⟩ = some a3 ∧ X.cell? ⟨B, 4, none⟩ = some a4 ∧ X.cell? ⟨B, 5, none⟩ = some a5 ∧ Done w X base Rb Rd T off SZ A D C j := by
  have hb6 := blk_drew (blk_set (blk_set (blk_set (blk_set (blk_set (blk_set h 0 a0) 1 a1) 2 a2) 3 a3) 4 a4) 5 a5)
  have hk6 := KeepBut.drewr (((((((KeepBut.refl W B none).set_ 0 a0).set_ 1 a1).set_ 2 a2).set_ 3 a3).set_ 4 a4).set_ 5 a5)
  have hg6 := below_drew (((((((Below.refl B W).setCell (p := ⟨B, 0, none⟩) (Nat.le_refl _) a0).setCell (p := ⟨B, 1, none⟩) (Nat.le_refl _) a1).setCell (p := ⟨B, 2, none⟩) (Nat.le_refl _) a2).setCell (p := ⟨B, 3, none⟩) (Nat.le_refl _) a3).setCell (p := ⟨B, 4, none⟩) (Nat.le_refl _) a4).setCell (p := ⟨B, 5, none⟩) (Nat.le_refl _) a5)
  obtain ⟨X, hX⟩ : ∃ X, X = ((((((W.setCell ⟨B, 0, none⟩ a0).setCell ⟨B, 1, none⟩ a1).setCell ⟨B, 2, none⟩ a2).setCell ⟨B, 3, none⟩ a3).setCell ⟨B, 4, none⟩ a4).setCell ⟨B, 5, none⟩ a5).drew := ⟨_, rfl⟩
  rw [← hX] at hb6 hk6 hg6
  have hb7 : X.heap[B]? = some (.cells #[a0, a1, a2, a3, a4, a5] t (0, 0)) := hb6
  obtain ⟨x0, x1, x2, x3, x4, x5, -⟩ := blkof6 hb7
  exact ⟨X, hX, x0, x1, x2, x3, x4, x5, hs.other hn hk6, hk.other hk6 hn, hb.trans (hg6.mono hn.2.2.1)⟩
end Go.Proofs.YtmjilokgpgajjaaGreat.Th

