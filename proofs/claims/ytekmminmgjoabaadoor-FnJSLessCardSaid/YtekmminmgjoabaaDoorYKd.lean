/- A value as it lies in memory. The maker's values: what all of its cases share. -/
import Derived.Test.YtekmminmgjoabaaDoorYKc
import Derived.Deep.DeepCutAuto
import Derived.Deep.RegionLaw
namespace Go.Proofs.YtekmminmgjoabaaDoor.Js
open Go.RowKit Go.Proofs.YtekmminmgjoabaaDoorW.PrintWords Go.Proofs.YtekmminmgjoabaaDoorW.PrintLast Go.Proofs.YtekmminmgjoabaaDoorW.PrintMore
set_option linter.unusedVariables false
set_option linter.unusedSimpArgs false
def jparts (n : JN) : Int × ByteArray × List JN × List ByteArray := (n.kind, strOfNums n.text, n.items, n.keys.map strOfNums)
def FJ (d : Kd JN) : Kd JN := Kd.iso (Kd.pair (Kd.int .i64) (Kd.pair Kd.string (Kd.pair (Kd.slice 29 d) (Kd.slice 9 Kd.string)))) jparts
theorem FJ_mono : Kd.Mono FJ := Kd.mono_iso _ (Kd.mono_pair (Kd.mono_const _) (Kd.mono_pair (Kd.mono_const _) (Kd.mono_pair (Kd.mono_slice 29 Kd.mono_id) (Kd.mono_const _))))
theorem FJ_sub : Kd.Sub FJ [29, 9] := Kd.sub_iso _ (Kd.sub_pair (Kd.sub_const _ (fun q h => by cases h)) (Kd.sub_pair (Kd.sub_const _ (fun q h => by cases h)) (Kd.sub_pair (Kd.sub_slice 29 (by decide) Kd.sub_id) (Kd.sub_const _ (fun q h => by
  rcases List.mem_cons.1 h with rfl | h
  · decide
  · cases h)))))
theorem FJ_sz : ∀ n, (Kd.upto FJ 4 [29, 9] n).sz = 4 := Kd.upto_sz (fun d => rfl)
/-- A value's four cells. -/
def kJ : Kd JN := Kd.fix FJ 4 [29, 9] FJ_sz (Kd.upto_E FJ_sub)
theorem kJ_make {w : World} {base : Nat} {ok : Nat → Prop} {k : Int} {t : List Int} {items : List JN} {keys : List (List Int)} {v2 v3 : Value} (h2 : kJ.R 29 w base ok v2 items) (h3 : Kd.string.R 9 w base ok v3 (keys.map strOfNums)) :
    kJ.M w base ok (.mk k t items keys) [.int .i64 k, .string (strOfNums t), v2, v3] := by
  obtain ⟨n, hn⟩ := Kd.fix_R_back FJ_mono h2
  exact ⟨n + 1, [_], [_, _, _], rfl, rfl, [_], [_, _], rfl, rfl, [_], [_], rfl, ⟨v2, rfl, hn⟩, ⟨v3, rfl, h3⟩⟩
theorem kJ_open {w : World} {n : JN} {cs : List Value} (h : kJ.K w n cs) : ∃ A c A' c', cs = [.int .i64 n.kind, .string (strOfNums n.text), .slice A n.items.length c, .slice A' n.keys.length c'] ∧ n.items.length ≤ c ∧ kJ.C w A n.items.length n.items ∧ n.keys.length ≤ c' ∧ Kd.string.C w A' n.keys.length (n.keys.map strOfNums) := by
  obtain ⟨m, h⟩ := h
  cases m with
  | zero => exact h.elim
  | succ m =>
    obtain ⟨c0, c1, rfl, rfl, c2, c3, rfl, rfl, c4, c5, rfl, ⟨A, c, rfl, hl, hC⟩, ⟨A', c', rfl, hl', hC'⟩⟩ := h
    have e : (jparts n).2.2.2.length = n.keys.length := by simp [jparts]
    rw [e] at hl' hC'
    refine ⟨A, c, A', c', ?_, hl, Kd.fix_C hC, hl', hC'⟩
    simp [jparts]
theorem kJ_leaf {w : World} {base : Nat} {ok : Nat → Prop} {k : Int} {t : List Int} : kJ.M w base ok (.mk k t [] []) [.int .i64 k, .string (strOfNums t), .slice none 0 0, .slice none 0 0] := kJ_make (Kd.R_nil _ _ _ _ _) (Kd.R_nil _ _ _ _ _)
theorem kJ_sz : kJ.sz = 4 := rfl
theorem info29 : (Tryd.prog.info? 29).map (fun i => (i.zero, i.size, i.bytes)) = some (some (.agg #[.int .i64 0, .string ⟨#[]⟩, .slice none 0 0, .slice none 0 0]), 4, 72) := by kernel_rfl
theorem info9 : (Tryd.prog.info? 9).map (fun i => (i.zero, i.size, i.bytes)) = some (some (.string ⟨#[]⟩), 1, 16) := by kernel_rfl
theorem kJ_mv {w w' : World} {base m : Nat} {ok : Nat → Prop} {v : Value} {xs : List JN} {cs : Array Value} (h : kJ.R 29 w base ok v xs) (hm : w.heap[m]? = some (.cells cs 45 (0, 0))) (hv : Mv w w' m) : kJ.R 29 w' base ok v xs :=
  Kd.R_mono (Kd.R_keep (Kd.R_types h hm (by decide)) hv.keep (fun k hk => hk.2)) (fun k hk => hk.1)
theorem kS_mv {w w' : World} {base m : Nat} {ok : Nat → Prop} {v : Value} {xs : List ByteArray} {cs : Array Value} (h : Kd.string.R 9 w base ok v xs) (hm : w.heap[m]? = some (.cells cs 45 (0, 0))) (hv : Mv w w' m) : Kd.string.R 9 w' base ok v xs :=
  Kd.R_mono (Kd.R_keep (Kd.R_types h hm (by decide)) hv.keep (fun k hk => hk.2)) (fun k hk => hk.1)
theorem kS_keep {w w' : World} {base g : Nat} {ok : Nat → Prop} {v : Value} {xs : List ByteArray} {cs : Array Value} (h : Kd.string.R 9 w base ok v xs) (hm : w.heap[g]? = some (.cells cs 29 (0, 0))) (hk : KeepBut w w' g none) : Kd.string.R 9 w' base ok v xs :=
  Kd.R_mono (Kd.R_keep (Kd.R_types h hm (by decide)) hk (fun k hk => hk.2)) (fun k hk => hk.1)
theorem MadeAt.cells {w : World} {B m : Nat} {code : List Int} {left : Int} (h : MadeAt w B m code left) : ∃ cs, w.heap[m]? = some (.cells cs 45 (0, 0)) := by
  obtain ⟨cv, h, -⟩ := h
  exact ⟨_, h⟩
theorem Mv.aboveB {w w1 w2 : World} {m base : Nat} (h : Mv w w1 m) (hb : Below base w1 w2) (h1 : w.heap.size ≤ base) (h2 : m ≤ base) : Mv w w2 m :=
  ⟨⟨Nat.le_trans h.keep.1 hb.size, fun i hi hne hr => (hb.block i (by omega)).trans (h.keep.2 i hi hne hr)⟩, h.below.trans (hb.mono h2)⟩
/-- How many parts at most. -/
def cntB : Nat → Int
  | 0 => 1
  | f + 1 => 1 + 5 * cntB f
theorem cntB_pos (f : Nat) : 1 ≤ cntB f := by
  induction f with
  | zero => decide
  | succ f ih => unfold cntB; omega
theorem leafF_left (k : Int) (code : List Int) (left : Int) : (leafF k code left).2.2 = left := by
  unfold leafF; split; · rfl
  split; · rfl
  split <;> rfl
theorem items_left {g : List Int → Int → JN × List Int × Int} {c : Int} (hc : 0 ≤ c) (hg : ∀ code left, left - c ≤ (g code left).2.2 ∧ (g code left).2.2 ≤ left) (ob : Bool) : ∀ (n : Nat) (code : List Int) (left : Int), left - n * c ≤ (itemsG g ob n code left).2.2.2 ∧ (itemsG g ob n code left).2.2.2 ≤ left := by
  intro n
  induction n with
  | zero => intro code left; simp [itemsG]
  | succ n ih =>
    intro code left
    have h1 := hg (if ob then (textF code).2.2 else code) left
    have h2 := ih (g (if ob then (textF code).2.2 else code) left).2.1 (g (if ob then (textF code).2.2 else code) left).2.2
    have e : ((n + 1 : Nat) : Int) * c = n * c + c := by rw [Int.natCast_add, Int.add_mul]; simp
    rw [e]
    show left - (n * c + c) ≤ (itemsG g ob n (g (if ob then (textF code).2.2 else code) left).2.1 (g (if ob then (textF code).2.2 else code) left).2.2).2.2.2 ∧ (itemsG g ob n (g (if ob then (textF code).2.2 else code) left).2.1 (g (if ob then (textF code).2.2 else code) left).2.2).2.2.2 ≤ left
    omega
theorem node_left : ∀ (f : Nat) (code : List Int) (left : Int), left - cntB f ≤ (nodeF f code left).2.2 ∧ (nodeF f code left).2.2 ≤ left := by
  intro f
  induction f with
  | zero => intro code left; show left - 1 ≤ (leafF _ _ _).2.2 ∧ (leafF _ _ _).2.2 ≤ left; rw [leafF_left]; omega
  | succ f ih =>
    intro code left
    have hp := cntB_pos f
    rw [nodeF]
    simp only []
    generalize (if left - 1 ≤ 0 then (byteF code).1 % 10 % 5 else (byteF code).1 % 10) = k
    split
    · rw [leafF_left]; unfold cntB; omega
    · have hm : manyF k (byteF (byteF code).2).1 ≤ 5 := by unfold manyF; split <;> omega
      have h := items_left (by omega) ih (decide (7 < k)) (manyF k (byteF (byteF code).2).1) (byteF (byteF code).2).2 (left - 1)
      have h2 : ((manyF k (byteF (byteF code).2).1 : Nat) : Int) * cntB f ≤ 5 * cntB f := Int.mul_le_mul_of_nonneg_right (by omega) (by omega)
      unfold cntB
      constructor
      · show left - (1 + 5 * cntB f) ≤ (itemsG (nodeF f) (decide (7 < k)) (manyF k (byteF (byteF code).2).1) (byteF (byteF code).2).2 (left - 1)).2.2.2
        omega
      · show (itemsG (nodeF f) (decide (7 < k)) (manyF k (byteF (byteF code).2).1) (byteF (byteF code).2).2 (left - 1)).2.2.2 ≤ left
        omega
theorem node_arr (g : Nat) (code : List Int) (left kk x : Int) (c1 c2 : List Int) (hc1 : c1 = (byteF code).2) (hx : x = (byteF c1).1) (hc2 : c2 = (byteF c1).2) (hk : kk = if left - 1 ≤ 0 then (byteF code).1 % 10 % 5 else (byteF code).1 % 10) (h : ¬ kk < 6) :
    nodeF (g + 1) code left = (.mk (if 7 < kk then 6 else 5) [] (itemsG (nodeF g) (decide (7 < kk)) (manyF kk x) c2 (left - 1)).1 (itemsG (nodeF g) (decide (7 < kk)) (manyF kk x) c2 (left - 1)).2.1, (itemsG (nodeF g) (decide (7 < kk)) (manyF kk x) c2 (left - 1)).2.2.1, (itemsG (nodeF g) (decide (7 < kk)) (manyF kk x) c2 (left - 1)).2.2.2) := by
  rw [nodeF]
  simp only [← hk]
  rw [if_neg h, hx, hc2, hc1]
theorem items_step (g : List Int → Int → JN × List Int × Int) (ob : Bool) (n : Nat) (code : List Int) (left : Int) (c1 : List Int) (x : JN) (c2 : List Int) (l2 : Int) (h1 : c1 = if ob then (textF code).2.2 else code) (h2 : g c1 left = (x, c2, l2)) :
    itemsG g ob (n + 1) code left = (x :: (itemsG g ob n c2 l2).1, (if ob then (textF code).1 :: (itemsG g ob n c2 l2).2.1 else (itemsG g ob n c2 l2).2.1), (itemsG g ob n c2 l2).2.2.1, (itemsG g ob n c2 l2).2.2.2) := by
  simp only [itemsG, ← h1, h2]
end Go.Proofs.YtekmminmgjoabaaDoor.Js



namespace Go.Proofs.YtekmminmgjoabaaDoor.Js
open Go.RowKit Go.Proofs.YtekmminmgjoabaaDoorW.PrintWords Go.Proofs.YtekmminmgjoabaaDoorW.PrintLast Go.Proofs.YtekmminmgjoabaaDoorW.PrintMore
set_option linter.unusedVariables false
set_option linter.unusedSimpArgs false
theorem store_agg {P : Program} {ops : Array Oper} {rest : List Oper} {o : Oper} {a : Act} {Q : Exit → Act → World → Prop} {W : World} (t : TypeId) (p v : Operand) (ho : o.op = .store t p v) (hN : o.dst = none) (hgd : o.guard = none)
    {G T : Nat} {cur : Array Value} (l : List Value) (hb : W.heap[G]? = some (.cells cur T (0, 0))) (hp : a.eval p = .pointer (some ⟨G, 0, none⟩)) (hi : l.length = cur.size) (hu : a.eval v = .agg l.toArray) (ht : (P.info? t).map (·.size) = some l.length) (h1 : ∀ q ∈ l, q.oneCell' = true)
    (h : ∀ W1, W1.heap[G]? = some (.cells l.toArray T (0, 0)) → KeepBut W W1 G none → Below G W W1 → wpList P ops Q rest a W1) :
    wpList P ops Q (o :: rest) a W := by
  refine wpList_plain hgd fun K hK => ?_
  unfold Oper.wp execOp
  have hrun := run_store_run (P := P) (w := W) t (.agg l.toArray) l hb (by simp [Value.cells]) ht (o := 0) (by simp; omega) h1
  simp only [ho, Sem.run_bind, Sem.run_pure, Result.andThen_ok, hp, hu, hrun]
  refine hK _ _ ?_
  rw [hN]
  obtain ⟨cur', h1', h2, h3⟩ := setCells_row (g := G) l 0 W cur hb (by omega)
  obtain ⟨s1, s2, s3, s4⟩ := setCells_same G l 0 W
  have e : cur' = l.toArray := by
    refine Array.toList_inj.1 ?_
    rw [h3]
    simp
    omega
  exact h (W.setCells G 0 l) (e ▸ h1') ⟨by omega, fun i _ hi _ => setCells_far _ _ i hi⟩ ⟨s1, s2, s3, by omega, fun i hi => setCells_far _ _ i (by omega)⟩
def NodePost (w : World) (B m f : Nat) (code : List Int) (left : Int) (e : Ending) (w' : World) : Prop :=
  ∃ v2 v3, e = .returned (.agg #[.int .i64 (nodeF f code left).1.kind, .string (strOfNums (nodeF f code left).1.text), v2, v3]) ∧ kJ.M w' w.heap.size (fun _ => True) (nodeF f code left).1 [.int .i64 (nodeF f code left).1.kind, .string (strOfNums (nodeF f code left).1.text), v2, v3] ∧ MadeAt w' B m (nodeF f code left).2.1 (nodeF f code left).2.2 ∧ Mv w w' m
def NodeC (f : Nat) : Prop := ∀ (w : World) (B m : Nat) (code : List Int) (left deep : Int), B ≤ m → (6 - deep).toNat = f → 0 ≤ deep → deep ≤ 100 → left ≤ 1000 → cntB f - 1000000 ≤ left → MadeAt w B m code left →
  Calls Tryd.prog 24 #[.pointer (some ⟨m, 0, none⟩), .int .i64 deep] w (NodePost w B m f code left)
theorem Mv.setNew {w w2 W3 : World} {m G : Nat} (h : Mv w w2 m) (hk : KeepBut w2 W3 G none) (hg : Below G w2 W3) (hG : w.heap.size ≤ G) (hm : m < w.heap.size) : Mv w W3 m :=
  ⟨⟨Nat.le_trans h.keep.1 hk.1, fun i hi hne hr => (hk.2 i (by have := h.keep.1; omega) (by omega) hr).trans (h.keep.2 i hi hne hr)⟩, h.below.trans (hg.mono (by omega))⟩
theorem MadeAt.above {w w' : World} {B m G : Nat} {code : List Int} {left : Int} (h : MadeAt w B m code left) (hB : B ≤ m) (hg : Below G w w') (hm : m < G) : MadeAt w' B m code left := by
  obtain ⟨cv, h1, h2, h3⟩ := h
  exact ⟨cv, (hg.block m hm).trans h1, h2.below (hg.mono (by omega)), h3⟩
theorem node_leaf (f : Nat) (code : List Int) (left kk : Int) (hk : kk = if f = 0 ∨ left - 1 ≤ 0 then (byteF code).1 % 10 % 5 else (byteF code).1 % 10) (h : kk < 6) : nodeF f code left = leafF kk (byteF code).2 (left - 1) := by
  cases f with
  | zero => rw [if_pos (.inl rfl)] at hk; rw [hk]; rfl
  | succ f =>
    have e : kk = if left - 1 ≤ 0 then (byteF code).1 % 10 % 5 else (byteF code).1 % 10 := by rw [hk]; simp
    rw [nodeF]
    simp only [← e]
    rw [if_pos h]
theorem litB (x : Int) : (#[Value.string ⟨#[116, 114, 117, 101]⟩, .string ⟨#[102, 97, 108, 115, 101]⟩] : Array Value)[(x % 2).toNat]? = some (.string (strOfNums (if x % 2 = 0 then [116, 114, 117, 101] else [102, 97, 108, 115, 101]))) := by
  rw [pick2 _ (by omega) (by omega)]; split <;> rfl
/-- The kind that a first byte tells. -/
def kindF (f : Nat) (b left : Int) : Int := if f = 0 ∨ left - 1 ≤ 0 then b % 10 % 5 else b % 10
end Go.Proofs.YtekmminmgjoabaaDoor.Js

