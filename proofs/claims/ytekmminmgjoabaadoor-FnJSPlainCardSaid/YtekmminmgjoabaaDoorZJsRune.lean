/- unicode/utf8.EncodeRune: the shelf's contract, laid at this program. -/
import Derived.Shelf.Spec.EncodeRune
import Derived.Test.YtekmminmgjoabaaDoorChecked
namespace Go.Proofs.YtekmminmgjoabaaDoor.Rune
open Go Go.Proofs Go.Shelf Go.RowKit Go.Lib
set_option linter.unusedVariables false
set_option linter.unusedSimpArgs false
def lays30_ren : Go.Shelf.Ren := ⟨fun | 30 => 149 | 47 => 153 | n => n, fun | 30 => 22 | 21 => 21 | 3 => 3 | 27 => 113 | 4 => 4 | 5 => 5 | 0 => 0 | 25 => 89 | n => n, fun | n => n⟩
theorem lays30 : Go.Proofs.Lays7.n30 Tryd.prog lays30_ren := {
  mixed := by kernel_rfl
  f30 := Tryd.func149.trans (congrArg some (by kernel_rfl))
  f47 := Tryd.func153.trans (congrArg some (by kernel_rfl))
  t0 := Tryd.underlying0
  a0 := Tryd.isAgg0
  z0 := Tryd.sizeOf0
  v0 := Tryd.zeroValue0
  i0 := by kernel_rfl
  t3 := Tryd.underlying3
  a3 := Tryd.isAgg3
  z3 := Tryd.sizeOf3
  v3 := Tryd.zeroValue3
  i3 := by kernel_rfl
  t4 := Tryd.underlying4
  a4 := Tryd.isAgg4
  z4 := Tryd.sizeOf4
  v4 := Tryd.zeroValue4
  i4 := by kernel_rfl
  t5 := Tryd.underlying5
  a5 := Tryd.isAgg5
  z5 := Tryd.sizeOf5
  v5 := Tryd.zeroValue5
  i5 := by kernel_rfl
  t21 := Tryd.underlying21
  a21 := Tryd.isAgg21
  z21 := Tryd.sizeOf21
  v21 := Tryd.zeroValue21
  i21 := by kernel_rfl
  t25 := Tryd.underlying89
  a25 := Tryd.isAgg89
  z25 := Tryd.sizeOf89
  v25 := Tryd.zeroValue89
  i25 := by kernel_rfl
  t27 := Tryd.underlying113
  a27 := Tryd.isAgg113
  z27 := Tryd.sizeOf113
  v27 := Tryd.zeroValue113
  i27 := by kernel_rfl
  t30 := Tryd.underlying22
  a30 := Tryd.isAgg22
  z30 := Tryd.sizeOf22
  v30 := Tryd.zeroValue22
  i30 := by kernel_rfl }
theorem encode_calls (b off len cap : Nat) (r : Int) (hlo : -2147483648 ≤ r) (hhi : r ≤ 2147483647) (w : World) (hl : (Lib.runeCells r).length ≤ len)
    (hc : ∀ j, j < (Lib.runeCells r).length → (w.cell? ⟨b, off + j, none⟩).isSome = true) (hf : ∀ j, j < (Lib.runeCells r).length → w.frozen? ⟨b, off + j, none⟩ = false) :
    Calls Tryd.prog 149 #[.slice (some ⟨b, off, none⟩) len cap, .int .i32 r] w fun e w' => e = .returned (.int .i64 (Lib.runeCells r).length) ∧ w' = w.setCells b off (Lib.runeCells r) := Any7.utf8_EncodeRune lays30 b off len cap r hlo hhi w hl hc hf
end Go.Proofs.YtekmminmgjoabaaDoor.Rune

