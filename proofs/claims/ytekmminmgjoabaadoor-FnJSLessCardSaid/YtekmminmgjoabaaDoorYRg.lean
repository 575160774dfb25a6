/- A tokenizer's memory: its struct, its stack, what its steps leave as it is; errors; depth and index. Depth and index of a tokenizer. A bracket is taken off a tokenizer's stack; which one lies on top. A tokenizer's small methods. Written by reset.py: a new tokenizer, and one that is begun anew. -/
import Derived.Test.YtekmminmgjoabaaDoorYRf
import Derived.Test.YtekmminmgjoabaaDoorYRc
import Derived.Deep.AppendLies
import Derived.WalkSmall
namespace Go.Proofs.YtekmminmgjoabaaDoor.Js
open Go.RowKit Go.Proofs.YtekmminmgjoabaaDoorW.PrintWords Go.Proofs.YtekmminmgjoabaaDoorW.PrintLast Go.Proofs.YtekmminmgjoabaaDoorW.PrintMore Go.Proofs.YtekmminmgjoabaaDoor.PFnJSTokens
set_option linter.unusedVariables false
set_option linter.unusedSimpArgs false
/-- The types of a tokenizer's own blocks. -/
def TokT (t : Nat) : Prop := t = 118 ∨ t = 130 ∨ t = 133
def StkT (t : Nat) : Prop := t = 130 ∨ t = 133
/-- What a tokenizer's step leaves as it is: all below B, and every block of a type that is none of these. -/
structure TK (F : Nat → Prop) (B : Nat) (w w' : World) : Prop where
  below : Below B w w'
  keep : ∀ (b : Nat) (cs : Array Value) (t : TypeId), w.heap[b]? = some (.cells cs t (0, 0)) → ¬ F t → w'.heap[b]? = some (.cells cs t (0, 0))
theorem TK.refl (F : Nat → Prop) (B : Nat) (w : World) : TK F B w w := ⟨Below.refl _ _, fun _ _ _ h _ => h⟩
theorem TK.trans {F : Nat → Prop} {B : Nat} {a b c : World} (h : TK F B a b) (k : TK F B b c) : TK F B a c := ⟨h.below.trans k.below, fun g cs t hg ht => k.keep g cs t (h.keep g cs t hg ht) ht⟩
theorem TK.of {F : Nat → Prop} {B : Nat} {w w' : World} (h : Below w.heap.size w w') (hB : B ≤ w.heap.size) : TK F B w w' := ⟨h.mono hB, fun g cs t hg _ => blk_below hg h⟩
theorem TK.drewN {F : Nat → Prop} {B : Nat} {a w : World} (h : TK F B a w) (n : Nat) : TK F B a (w.drewN n) := ⟨pw_below_drewN h.below n, h.keep⟩
theorem TK.drew {F : Nat → Prop} {B : Nat} {a w : World} (h : TK F B a w) : TK F B a w.drew := ⟨below_drew h.below, h.keep⟩
theorem TK.tok {B : Nat} {a w : World} (h : TK StkT B a w) : TK TokT B a w := ⟨h.below, fun g cs t hg ht => h.keep g cs t hg (fun hs => ht (by rcases hs with h | h; exact .inr (.inl h); exact .inr (.inr h)))⟩
theorem TK.put {F : Nat → Prop} {B : Nat} {w w' : World} {G T : Nat} {cs : Array Value} (hb : w.heap[G]? = some (.cells cs T (0, 0))) (hT : F T) (hG : B ≤ G) (hk : KeepBut w w' G none) (hg : Below G w w') : TK F B w w' :=
  ⟨hg.mono hG, fun b ds t hd ht => (hk.2 b (blk_lt hd) (fun e => by subst e; rw [hb] at hd; injection hd with hd; injection hd with _ hd; exact ht (hd ▸ hT)) (by simp)).trans hd⟩
theorem TK.grown {F : Nat → Prop} {B : Nat} {w w' : World} {g : Nat} {cs : Array Value} (hb : w.heap[g]? = some (.cells cs 133 (0, 0))) (hF : F 133) (hG : B ≤ g) (hB : B ≤ w.heap.size) (hg : w.grownBy w' (some g)) : TK F B w w' :=
  ⟨(Below.refl B w).grown hg hB (fun k hk => by injection hk with hk; omega), fun b ds t hd ht => blk_grown hd hg (fun e => by
    injection e with e
    subst e
    rw [hb] at hd
    injection hd with hd
    injection hd with _ hd
    exact ht (hd ▸ hF))⟩
/-- The stack's cells: the first bracket first. -/
def flat : List (Bool × Int) → List Value
  | [] => []
  | (o, n) :: r => flat r ++ [.int .i64 (if o then 1 else 0), .int .i64 n]
theorem flat_len : ∀ l : List (Bool × Int), (flat l).length = l.length * 2
  | [] => rfl
  | (o, n) :: r => by rw [flat, List.length_append, flat_len r]; simp; omega
/-- A stack in memory. -/
def Stk (w : World) (B : Nat) (sp : Value) (l : List (Bool × Int)) : Prop :=
  (sp = .pointer none ∧ l = []) ∨ ∃ S g cap, sp = .pointer (some ⟨S, 0, none⟩) ∧ B ≤ S ∧ B ≤ g ∧ w.heap[S]? = some (.cells #[.slice (some ⟨g, 0, none⟩) l.length cap] 130 (0, 0)) ∧ w.ownsRow B 133 2 (.slice (some ⟨g, 0, none⟩) l.length cap) l.length (flat l)
theorem Row_block {w w' : World} {B e size : Nat} {g n cap : Nat} {xs : List Value} (h : w.ownsRow B e size (.slice (some ⟨g, 0, none⟩) n cap) n xs) (hg : w'.heap[g]? = w.heap[g]?) : w'.ownsRow B e size (.slice (some ⟨g, 0, none⟩) n cap) n xs := by
  refine ⟨h.1, ?_⟩
  rcases h.2 with hn | ⟨g', cap', cur, hv, hb, hgg, rest⟩
  · exact .inl hn
  · injection hv with h1 h2 h3
    injection h1 with h1
    injection h1 with h1
    subst h1
    exact .inr ⟨g, cap', cur, by rw [h3], hb, hg.trans hgg, rest⟩
theorem Row_blk {w : World} {B e size : Nat} {g n cap : Nat} {xs : List Value} (h : w.ownsRow B e size (.slice (some ⟨g, 0, none⟩) n cap) n xs) : ∃ cur, w.heap[g]? = some (.cells cur e (0, 0)) ∧ n ≤ cap := by
  rcases h.2 with ⟨hn, -⟩ | ⟨g', cap', cur, hv, hb, hgg, h1, -⟩
  · cases hn
  · injection hv with h1' h2 h3
    injection h1' with h1'
    injection h1' with h1'
    subst h1'
    exact ⟨cur, hgg, by omega⟩
theorem Stk.same {w w' : World} {B : Nat} {sp : Value} {l : List (Bool × Int)} (h : Stk w B sp l) (hb : Below w.heap.size w w') : Stk w' B sp l := by
  rcases h with h | ⟨S, g, cap, h1, h2, h3, h4, h5⟩
  · exact .inl h
  · refine .inr ⟨S, g, cap, h1, h2, h3, blk_below h4 hb, Row_block h5 ?_⟩
    obtain ⟨cur, hc, -⟩ := Row_blk h5
    exact hb.block g (blk_lt hc)
/-- .. where the tokenizer's own struct is turned. -/
theorem Stk.put {w w' : World} {B T : Nat} {cs : Array Value} {sp : Value} {l : List (Bool × Int)} (h : Stk w B sp l) (hT : w.heap[T]? = some (.cells cs 118 (0, 0))) (hk : KeepBut w w' T none) : Stk w' B sp l := by
  rcases h with h | ⟨S, g, cap, h1, h2, h3, h4, h5⟩
  · exact .inl h
  · have hne := blk_ne h4 hT (by decide)
    obtain ⟨cur, hc, -⟩ := Row_blk h5
    have hne2 := blk_ne hc hT (by decide)
    exact .inr ⟨S, g, cap, h1, h2, h3, (hk.2 S (blk_lt h4) hne (by simp)).trans h4, Row_block h5 (hk.2 g (blk_lt hc) hne2 (by simp))⟩
/-- A tokenizer's struct. -/
def tzr (d : Int) (vv er : Value) (dp ix : Int) (ik nk : Bool) (js sp : Value) (fl : Int) : Array Value := #[.int .i32 d, vv, er, .int .i64 dp, .int .i64 ix, .bool ik, .bool nk, js, sp, .int .u32 fl]
/-- Bounds that hold of a stack with m bytes to come. -/
def StOk (l : List (Bool × Int)) (m : Nat) : Prop := l.length + m ≤ 2200000000 ∧ ∀ x ∈ l, 1 ≤ x.2 ∧ x.2 + (m : Int) ≤ 2200000001
theorem StOk.mono {l : List (Bool × Int)} {m m' : Nat} (h : StOk l m) (hm : m' ≤ m) : StOk l m' := ⟨by have := h.1; omega, fun x hx => by have := h.2 x hx; omega⟩
set_option maxHeartbeats 4000000 in
set_option maxRecDepth 100000 in
theorem new_err (s : ByteArray) (w : World) : Calls Tryd.prog 121 #[.string s] w fun e w' => (∃ g, e = .returned (.iface 186 (.pointer (some ⟨g, 0, none⟩)))) ∧ Below w.heap.size w w' := by
  go_enter Tryd.func121, Tryd.ntmps121
  go_wp2
  go_ret
  exact ⟨⟨_, rfl⟩, below_alloc (Below.refl _ _) _⟩
set_option maxHeartbeats 4000000 in
set_option maxRecDepth 100000 in
theorem syntax_err (b a : Value) (s : ByteArray) (w : World) : Calls Tryd.prog 85 #[b, .string s, a] w fun e w' => (∃ g, e = .returned (.iface 186 (.pointer (some ⟨g, 0, none⟩)))) ∧ Below w.heap.size w w' := by
  go_enter Tryd.func85, Tryd.ntmps85
  go_wp2_with (go_at_call 121; (with_reducible refine (new_err _ _).mono ?_); rintro e w' ⟨⟨g, rfl⟩, hb⟩)
  go_ret
  exact ⟨⟨_, rfl⟩, hb⟩
set_option maxHeartbeats 4000000 in
set_option maxRecDepth 100000 in
theorem eof_err (b : Value) (w : World) : Calls Tryd.prog 113 #[b] w fun e w' => (∃ g, e = .returned (.iface 186 (.pointer (some ⟨g, 0, none⟩)))) ∧ Below w.heap.size w w' := by
  go_enter Tryd.func113, Tryd.ntmps113
  go_wp2_with (go_at_call 121; (with_reducible refine (new_err _ _).mono ?_); rintro e w' ⟨⟨g, rfl⟩, hb⟩)
  go_ret
  exact ⟨⟨_, rfl⟩, hb⟩
end Go.Proofs.YtekmminmgjoabaaDoor.Js

namespace Go.Proofs.YtekmminmgjoabaaDoor.Js
open Go.RowKit Go.Proofs.YtekmminmgjoabaaDoorW.PrintWords Go.Proofs.YtekmminmgjoabaaDoorW.PrintLast Go.Proofs.YtekmminmgjoabaaDoorW.PrintMore Go.Proofs.YtekmminmgjoabaaDoor.PFnJSTokens
set_option linter.unusedVariables false
set_option linter.unusedSimpArgs false
theorem tzr_cell {w : World} {T : Nat} {d : Int} {vv er : Value} {dp ix : Int} {ik nk : Bool} {js sp : Value} {fl : Int} (h : w.heap[T]? = some (.cells (tzr d vv er dp ix ik nk js sp fl) 118 (0, 0))) (i : Nat) : w.cell? ⟨T, i, none⟩ = (tzr d vv er dp ix ik nk js sp fl)[i]? := blk_cell h i
set_option maxHeartbeats 4000000 in
set_option maxRecDepth 100000 in
theorem sdepth (w : World) (S : Nat) (A : Option Addr) (n c : Nat) (h : w.heap[S]? = some (.cells #[.slice A n c] 130 (0, 0))) :
    Calls Tryd.prog 122 #[.pointer (some ⟨S, 0, none⟩)] w fun e w' => e = .returned (.int .i64 (n : Int)) ∧ w = w' := by
  have hc : w.cell? ⟨S, 0, none⟩ = some (.slice A n c) := (blk_cell h 0).trans rfl
  clear h
  go_enter Tryd.func122, Tryd.ntmps122
  go_wp2
  go_ret
  exact ⟨rfl, rfl⟩
set_option maxHeartbeats 4000000 in
set_option maxRecDepth 100000 in
theorem tdepth (w : World) (B T : Nat) (d : Int) (vv er : Value) (dp ix : Int) (ik nk : Bool) (js sp : Value) (fl : Int) (l : List (Bool × Int)) (h : w.heap[T]? = some (.cells (tzr d vv er dp ix ik nk js sp fl) 118 (0, 0))) (hs : Stk w B sp l) :
    Calls Tryd.prog 86 #[.pointer (some ⟨T, 0, none⟩)] w fun e w' => e = .returned (.int .i64 (l.length : Int)) ∧ w = w' := by
  have hc : w.cell? ⟨T, 8, none⟩ = some sp := (tzr_cell h 8).trans rfl
  rcases hs with ⟨rfl, rfl⟩ | ⟨S, g, cap, rfl, h2, h3, h4, h5⟩
  · clear h
    go_enter Tryd.func86, Tryd.ntmps86
    go_wp2
    go_ret
    exact ⟨rfl, rfl⟩
  · have H4 := Aside0.mk h4
    clear h h2 h3 h4 h5
    go_enter Tryd.func86, Tryd.ntmps86
    go_wp2_with (go_at_call 122; (with_reducible refine (sdepth _ _ _ _ _ H4.out).mono ?_); rintro e w2 ⟨rfl, rfl⟩)
    go_ret
    exact ⟨rfl, rfl⟩
set_option maxHeartbeats 4000000 in
set_option maxRecDepth 100000 in
theorem sindex (w : World) (B S g cap : Nat) (l : List (Bool × Int)) (h4 : w.heap[S]? = some (.cells #[.slice (some ⟨g, 0, none⟩) l.length cap] 130 (0, 0))) (h5 : w.ownsRow B 133 2 (.slice (some ⟨g, 0, none⟩) l.length cap) l.length (flat l)) (hm : ∀ x ∈ l, 1 ≤ x.2 ∧ x.2 ≤ 2200000001) (hl : l.length ≤ 2200000000) :
    Calls Tryd.prog 123 #[.pointer (some ⟨S, 0, none⟩)] w fun e w' => e = .returned (.int .i64 (topIdx l)) ∧ Drawn0 w w' := by
  have hc : w.cell? ⟨S, 0, none⟩ = some (.slice (some ⟨g, 0, none⟩) l.length cap) := (blk_cell h4 0).trans rfl
  cases l with
  | nil =>
    clear h4 h5 hm
    go_enter Tryd.func123, Tryd.ntmps123
    go_wp2
    go_ret
    exact ⟨rfl, Drawn0.refl _⟩
  | cons x r =>
    obtain ⟨o, n⟩ := x
    have hn := hm (o, n) List.mem_cons_self
    have hx := h5.cellAt (r.length * 2 + 1) (by simp only [List.length_cons]; omega)
    have hx2 : w.cell? ⟨g, r.length * 2 + 1, none⟩ = some (.int .i64 n) := by
      rw [hx, flat, List.getElem?_append_right (by rw [flat_len]; omega), flat_len]
      rw [show r.length * 2 + 1 - r.length * 2 = 1 by omega]
      rfl
    obtain ⟨hn1, hn2⟩ := hn
    obtain ⟨m, hm⟩ : ∃ m, m = r.length := ⟨_, rfl⟩
    have hlen : ((o, n) :: r).length = m + 1 := by rw [hm]; rfl
    rw [hlen] at hc hl
    rw [← hm] at hx2
    have hidx : topIdx ((o, n) :: r) = n - 1 := rfl
    rw [hidx]
    have hz : ((m : Int) + 1 == 0) = false := by rw [beq_eq_false_iff_ne]; omega
    clear h4 h5 hx hm hlen hidx
    go_enter Tryd.func123, Tryd.ntmps123
    go_upto_region 3 with (fail)
    have hsum : IntKind.i64.wrap ((m : Int) + 1 - 1) = (m : Int) := by rw [IntKind.wrap_i64]; omega
    have hsum2 : IntKind.i64.wrap ((m : Int)) = (m : Int) := by rw [IntKind.wrap_i64]; omega
    have hs3 : IntKind.i64.wrap (n - 1) = n - 1 := by rw [IntKind.wrap_i64]; omega
    have hi1 : (0 : Int) ≤ (m : Int) := by omega
    have hi2 : (m : Int) < (m : Int) + 1 := by omega
    go_quiet (fail)
    go_wp2
    go_ret
    exact ⟨rfl, ⟨⟨_, rfl⟩⟩⟩
set_option maxHeartbeats 4000000 in
set_option maxRecDepth 100000 in
theorem tindex (w : World) (B T : Nat) (d : Int) (vv er : Value) (dp ix : Int) (ik nk : Bool) (js sp : Value) (fl : Int) (l : List (Bool × Int)) (h : w.heap[T]? = some (.cells (tzr d vv er dp ix ik nk js sp fl) 118 (0, 0))) (hs : Stk w B sp l) (hm : ∀ x ∈ l, 1 ≤ x.2 ∧ x.2 ≤ 2200000001) (hl : l.length ≤ 2200000000) :
    Calls Tryd.prog 87 #[.pointer (some ⟨T, 0, none⟩)] w fun e w' => e = .returned (.int .i64 (topIdx l)) ∧ Drawn0 w w' := by
  have hc : w.cell? ⟨T, 8, none⟩ = some sp := (tzr_cell h 8).trans rfl
  rcases hs with ⟨rfl, rfl⟩ | ⟨S, g, cap, rfl, h2, h3, h4, h5⟩
  · clear h hm hl
    go_enter Tryd.func87, Tryd.ntmps87
    go_wp2
    go_ret
    exact ⟨rfl, Drawn0.refl _⟩
  · have HI := Aside0.mk (sindex w B S g cap l h4 h5 hm hl)
    clear h h2 h3 h4 h5 hm hl
    go_enter Tryd.func87, Tryd.ntmps87
    go_wp2_with (go_at_call 123; (with_reducible refine HI.out.mono ?_); rintro e w2 ⟨rfl, hd⟩; have HD := Aside0.mk hd; clear hd)
    go_ret
    exact ⟨rfl, HD.out⟩
theorem info133 : (Tryd.prog.info? 133).map (fun i => (i.zero, i.size, i.bytes)) = some (some (.agg #[.int .i64 0, .int .i64 0]), 2, 16) := by kernel_rfl
set_option maxHeartbeats 4000000 in
set_option maxRecDepth 100000 in
theorem snew (w : World) (B : Nat) (hB : B ≤ w.heap.size) : Calls Tryd.prog 124 #[] w fun e w' => ∃ S, e = .returned (.pointer (some ⟨S, 0, none⟩)) ∧ Stk w' B (.pointer (some ⟨S, 0, none⟩)) [] ∧ Below w.heap.size w w' := by
  have hmk : ∀ w : World, (Instr.makeSlice 128 (.int .i64 0) (.int .i64 4)).run Tryd.prog w = .ok (.slice (some ⟨w.heap.size, 0, none⟩) 0 4) (w.alloc (.cells #[.int .i64 0, .int .i64 0, .int .i64 0, .int .i64 0, .int .i64 0, .int .i64 0, .int .i64 0, .int .i64 0] 133)) := fun _ => by kernel_rfl
  have HR := Aside0.mk (World.ownsRow_made w #[.int .i64 0, .int .i64 0, .int .i64 0, .int .i64 0, .int .i64 0, .int .i64 0, .int .i64 0, .int .i64 0] 4 (e := 133) (size := 2) hB (by decide) (by decide))
  have HB := Aside0.mk hB
  clear hB
  go_enter Tryd.func124, Tryd.ntmps124
  go_wp2
  go_ret
  refine ⟨_, rfl, .inr ⟨_, w.heap.size, 4, rfl, ?_, HB.out, ?_, ?_⟩, ?_⟩
  · exact Nat.le_trans HB.out (by simp)
  · have h := heap_alloc_new (w.alloc (.cells #[.int .i64 0, .int .i64 0, .int .i64 0, .int .i64 0, .int .i64 0, .int .i64 0, .int .i64 0, .int .i64 0] 133)) (.cells #[.slice (some ⟨w.heap.size, 0, none⟩) 0 4] 130)
    rw [show (w.alloc (.cells #[.int .i64 0, .int .i64 0, .int .i64 0, .int .i64 0, .int .i64 0, .int .i64 0, .int .i64 0, .int .i64 0] 133)).heap.size = w.heap.size + 1 from by simp] at h
    exact h
  · exact HR.out.alloc _
  · exact below_alloc (below_alloc (Below.refl _ _) _) _
set_option maxHeartbeats 4000000 in
set_option maxRecDepth 100000 in
theorem spush (w : World) (B S g cap : Nat) (l : List (Bool × Int)) (ty : Int) (h2 : B ≤ S) (h3 : B ≤ g) (h4 : w.heap[S]? = some (.cells #[.slice (some ⟨g, 0, none⟩) l.length cap] 130 (0, 0))) (h5 : w.ownsRow B 133 2 (.slice (some ⟨g, 0, none⟩) l.length cap) l.length (flat l)) (hl : l.length ≤ 2200000000) :
    Calls Tryd.prog 125 #[.pointer (some ⟨S, 0, none⟩), .int .i64 ty] w fun e w' => e = .returned (.tuple #[]) ∧ (∃ g' cap', B ≤ g' ∧ w'.heap[S]? = some (.cells #[.slice (some ⟨g', 0, none⟩) (l.length + 1) cap'] 130 (0, 0)) ∧ w'.ownsRow B 133 2 (.slice (some ⟨g', 0, none⟩) (l.length + 1) cap') (l.length + 1) (flat l ++ [.int .i64 ty, .int .i64 1])) ∧ TK StkT B w w' := by
  obtain ⟨i0, hi, hz0, hz1, hz2⟩ := info_parts info133
  have hc : w.cell? ⟨S, 0, none⟩ = some (.slice (some ⟨g, 0, none⟩) l.length cap) := (blk_cell h4 0).trans rfl
  have H4 := Aside0.mk h4
  have H5 := Aside0.mk h5
  have HB := Aside0.mk (And.intro h2 h3)
  have HSZ := Aside0.mk (blk_lt h4)
  have HI := Aside0.mk (And.intro hi (And.intro hz0 (And.intro hz1 hz2)))
  have HL := Aside0.mk hl
  clear h2 h3 h4 h5 hl hi hz0 hz1 hz2
  go_enter Tryd.func125, Tryd.ntmps125
  have HNE := Aside0.mk (show S ≠ g from by
    obtain ⟨cur, hcur, -⟩ := Row_blk H5.out
    exact blk_ne H4.out hcur (by decide))
  go_wp2_with (first
    | (at_builtin; refine wpList_append_lies _ rfl _ _ 128 rfl B 133 i0 (.agg #[.int .i64 0, .int .i64 0]) 2 16 Tryd.underlying128 HI.out.1 HI.out.2.1 HI.out.2.2.1 HI.out.2.2.2 rfl (by decide) _ _ _ rfl (H5.out.alloc _) ⟨w.heap.size, 0, none⟩ 1 1 [.int .i64 ty, .int .i64 1] rfl rfl (World.news_of_block (heap_alloc_new w _)) (by intro u hu; simp only [List.mem_cons, List.not_mem_nil, or_false] at hu; rcases hu with rfl | rfl <;> rfl) (by decide) (by unfold maxLen; have := HL.out; omega) (by have := HL.out; omega) (by have := HB.out; have := HSZ.out; simp; omega) (w.heap.size + 1) (by simp) ?_; intro g1 cap1 w1 hown hgrow hat hlt; have HO := Aside0.mk hown; have HG := Aside0.mk hgrow; have HT := Aside0.mk hat; have HS1 := Aside0.mk (blk_grown (blk_alloc H4.out _) hgrow (fun e => HNE.out (by injection e))); clear hown hgrow hat hlt)
    | ((with_reducible refine gate_st rfl ?_); refine store_any _ _ _ rfl rfl rfl HS1.out rfl (by simp) rfl rfl rfl (by kernel_rfl) ?_; intro W1 hb1 hk1 hg1; have HS2 := Aside0.mk hb1; have HK2 := Aside0.mk hk1; have HG2 := Aside0.mk hg1; clear hb1 hk1 hg1))
  go_end0
  obtain ⟨cur, hcur, -⟩ := Row_blk (H5.out.alloc (.cells #[.int .i64 ty, .int .i64 1] 133))
  have hal : TK StkT B w (w.alloc (.cells #[.int .i64 ty, .int .i64 1] 133)) := TK.of (below_alloc (Below.refl _ _) _) (by have := HB.out; have := HSZ.out; omega)
  have hgr : TK StkT B (w.alloc (.cells #[.int .i64 ty, .int .i64 1] 133)) w1 := TK.grown hcur (.inr rfl) HB.out.2 (by have := HB.out; have := HSZ.out; simp; omega) HG.out
  obtain ⟨c1, hc1, -⟩ := Row_blk HO.out
  have hne1 : g1 ≠ S := blk_ne hc1 HS1.out (by decide)
  have hb1 : B ≤ g1 := (HO.out.lt g1 rfl).1
  refine ⟨rfl, ⟨g1, cap1, hb1, HS2.out, Row_block HO.out (HK2.out.2 g1 (blk_lt hc1) hne1 (by simp))⟩, (hal.trans hgr).trans (TK.put HS1.out (.inl rfl) HB.out.1 HK2.out HG2.out)⟩
theorem flat_push (o : Bool) (l : List (Bool × Int)) : flat ((o, 1) :: l) = flat l ++ [.int .i64 (if o then 1 else 0), .int .i64 1] := rfl
theorem spush' (w : World) (B S : Nat) (l : List (Bool × Int)) (o : Bool) (ty : Int) (hty : ty = if o then 1 else 0) (hs : Stk w B (.pointer (some ⟨S, 0, none⟩)) l) (hl : l.length ≤ 2200000000) :
    Calls Tryd.prog 125 #[.pointer (some ⟨S, 0, none⟩), .int .i64 ty] w fun e w' => e = .returned (.tuple #[]) ∧ Stk w' B (.pointer (some ⟨S, 0, none⟩)) ((o, 1) :: l) ∧ TK StkT B w w' := by
  rcases hs with ⟨hn, -⟩ | ⟨S', g, cap, he, h2, h3, h4, h5⟩
  · cases hn
  · injection he with he
    injection he with he
    injection he with he
    subst he
    refine (spush w B S g cap l ty h2 h3 h4 h5 hl).mono ?_
    rintro e w' ⟨rfl, ⟨g1, cap1, k1, k2, k3⟩, k4⟩
    refine ⟨rfl, .inr ⟨S, g1, cap1, rfl, h2, k1, k2, ?_⟩, k4⟩
    rw [flat_push, ← hty]
    exact k3
set_option maxHeartbeats 4000000 in
set_option maxRecDepth 100000 in
theorem tpush (w : World) (B T : Nat) (d : Int) (vv er : Value) (dp ix : Int) (ik nk : Bool) (js sp : Value) (fl : Int) (l : List (Bool × Int)) (o : Bool) (ty : Int) (hty : ty = if o then 1 else 0) (hT : B ≤ T) (h : w.heap[T]? = some (.cells (tzr d vv er dp ix ik nk js sp fl) 118 (0, 0))) (hs : Stk w B sp l) (hl : l.length ≤ 2200000000) :
    Calls Tryd.prog 89 #[.pointer (some ⟨T, 0, none⟩), .int .i64 ty] w fun e w' => e = .returned (.tuple #[]) ∧ (∃ sp', w'.heap[T]? = some (.cells (tzr d vv er dp ix ik nk js sp' fl) 118 (0, 0)) ∧ Stk w' B sp' ((o, 1) :: l)) ∧ TK TokT B w w' := by
  have hc : w.cell? ⟨T, 8, none⟩ = some sp := (tzr_cell h 8).trans rfl
  have H := Aside0.mk h
  have HT := Aside0.mk hT
  have HTY := Aside0.mk hty
  have HL := Aside0.mk hl
  have hBw := Aside0.mk (Nat.le_trans hT (Nat.le_of_lt (blk_lt h)))
  have HST0 := Aside0.mk hs
  rcases hs with ⟨rfl, rfl⟩ | ⟨S, g, cap, rfl, h2, h3, h4, h5⟩
  · have HN := Aside0.mk (snew w B hBw.out)
    clear h hT hl hty HST0
    go_enter Tryd.func89, Tryd.ntmps89
    go_upto_region 1 with (fail)
    clear hc
    go_wp2_with (first
      | (go_at_call 124; (with_reducible refine HN.out.mono ?_); rintro e w2 ⟨S, rfl, hst, hb⟩; have HST := Aside0.mk hst; have HB2 := Aside0.mk hb; have HT2 := Aside0.mk (blk_below H.out hb); clear hst hb)
      | ((with_reducible refine gate_st rfl ?_); refine store_any _ _ _ rfl rfl rfl HT2.out rfl (by simp [tzr]) rfl rfl rfl (by kernel_rfl) ?_; intro W1 hb1 hk1 hg1; have hc8 : W1.cell? ⟨T, 8, none⟩ = some (.pointer (some ⟨S, 0, none⟩)) := (blk_cell hb1 8).trans rfl; have HT3 := Aside0.mk (show W1.heap[T]? = some (.cells (tzr d vv er dp ix ik nk js (.pointer (some ⟨S, 0, none⟩)) fl) 118 (0, 0)) from hb1); have HK3 := Aside0.mk hk1; have HG3 := Aside0.mk hg1; clear hb1 hk1 hg1)
      | (go_at_call 125; (with_reducible refine (spush' _ _ _ _ o _ HTY.out (HST.out.put HT2.out HK3.out) (Nat.zero_le _)).mono ?_); rintro e w4 ⟨rfl, hs4, hk4⟩; have HS4 := Aside0.mk hs4; have HK4 := Aside0.mk hk4; clear hs4 hk4))
    go_end0
    exact ⟨rfl, ⟨_, HK4.out.keep T _ 118 HT3.out (by rintro (h | h) <;> cases h), HS4.out⟩, ((TK.of HB2.out hBw.out).trans (TK.put HT2.out (.inl rfl) HT.out HK3.out HG3.out)).trans HK4.out.tok⟩
  · clear h hT hl hty h2 h3 h4 h5
    go_enter Tryd.func89, Tryd.ntmps89
    go_wp2_with (go_at_call 125; (with_reducible refine (spush' _ _ _ _ o _ HTY.out HST0.out HL.out).mono ?_); rintro e w4 ⟨rfl, hs4, hk4⟩; have HS4 := Aside0.mk hs4; have HK4 := Aside0.mk hk4; clear hs4 hk4)
    go_end0
    exact ⟨rfl, ⟨_, HK4.out.keep T _ 118 H.out (by rintro (h | h) <;> cases h), HS4.out⟩, HK4.out.tok⟩
end Go.Proofs.YtekmminmgjoabaaDoor.Js


namespace Go.Proofs.YtekmminmgjoabaaDoor.Js
open Go.RowKit Go.Proofs.YtekmminmgjoabaaDoorW.PrintWords Go.Proofs.YtekmminmgjoabaaDoorW.PrintLast Go.Proofs.YtekmminmgjoabaaDoorW.PrintMore Go.Proofs.YtekmminmgjoabaaDoor.PFnJSTokens
set_option linter.unusedVariables false
set_option linter.unusedSimpArgs false
theorem top_cells {w : World} {B g cap : Nat} {o : Bool} {n : Int} {r : List (Bool × Int)} (h5 : w.ownsRow B 133 2 (.slice (some ⟨g, 0, none⟩) ((o, n) :: r).length cap) ((o, n) :: r).length (flat ((o, n) :: r))) : w.cell? ⟨g, r.length * 2, none⟩ = some (.int .i64 (if o then 1 else 0)) ∧ w.cell? ⟨g, r.length * 2 + 1, none⟩ = some (.int .i64 n) := by
  have h0 := h5.cellAt (r.length * 2) (by simp only [List.length_cons]; omega)
  have h1 := h5.cellAt (r.length * 2 + 1) (by simp only [List.length_cons]; omega)
  rw [flat, List.getElem?_append_right (by rw [flat_len]; omega), flat_len] at h0 h1
  rw [show r.length * 2 - r.length * 2 = 0 by omega] at h0
  rw [show r.length * 2 + 1 - r.length * 2 = 1 by omega] at h1
  exact ⟨h0.trans rfl, h1.trans rfl⟩
set_option maxHeartbeats 4000000 in
set_option maxRecDepth 100000 in
theorem spop (w : World) (B S g cap : Nat) (o : Bool) (n ty : Int) (r : List (Bool × Int)) (hty : ty = if o then 1 else 0) (h2 : B ≤ S) (h3 : B ≤ g) (h4 : w.heap[S]? = some (.cells #[.slice (some ⟨g, 0, none⟩) ((o, n) :: r).length cap] 130 (0, 0))) (h5 : w.ownsRow B 133 2 (.slice (some ⟨g, 0, none⟩) ((o, n) :: r).length cap) ((o, n) :: r).length (flat ((o, n) :: r))) (hl : r.length ≤ 2200000000) :
    Calls Tryd.prog 126 #[.pointer (some ⟨S, 0, none⟩), .int .i64 ty] w fun e w' => e = .returned (.bool true) ∧ Stk w' B (.pointer (some ⟨S, 0, none⟩)) r ∧ TK StkT B w w' := by
  obtain ⟨i0, hi, hz0, hz1, hz2⟩ := info_parts info133
  obtain ⟨ht0, ht1⟩ := top_cells h5
  obtain ⟨cur, hcur, hnc⟩ := Row_blk h5
  have hne := blk_ne h4 hcur (by decide)
  have HS := Aside0.mk h4
  have H5 := Aside0.mk (ownsRow_pop (by rw [flat_len]) h5)
  have HB := Aside0.mk (And.intro h2 h3)
  have HNE := Aside0.mk hne
  have HCUR := Aside0.mk hcur
  rw [← hty] at ht0
  obtain ⟨m, hm⟩ : ∃ m, m = r.length := ⟨_, rfl⟩
  have hlen : ((o, n) :: r).length = m + 1 := by rw [hm]; rfl
  rw [hlen] at h4 hnc
  rw [← hm] at ht0 ht1 hl H5
  have HM := Aside0.mk hm
  have hc : w.cell? ⟨S, 0, none⟩ = some (.slice (some ⟨g, 0, none⟩) (m + 1) cap) := (blk_cell h4 0).trans rfl
  have hcA : ∀ o : Obj, (w.alloc o).cell? ⟨S, 0, none⟩ = some (.slice (some ⟨g, 0, none⟩) (m + 1) cap) := fun o => (blk_cell (blk_alloc h4 o) 0).trans rfl
  have hcut := cut_to 128 133 .i64 Tryd.underlying128 hi (some ⟨g, 0, none⟩) (m + 1) cap (m : Int) (by omega) (by omega) (by omega)
  have hcut2 : ∀ W : World, (Instr.slice 128 (.slice (some ⟨g, 0, none⟩) (m + 1) cap) none (some (.int .i64 (m : Int))) none).run Tryd.prog W = .ok (.slice (some ⟨g, 0, none⟩) m cap) W := fun W => by have := hcut W; simpa using this
  clear h2 h3 h4 h5 hty hcur hne hm hlen hcut hi hz0 hz1 hz2
  go_enter Tryd.func126, Tryd.ntmps126
  go_wp2_with ((with_reducible refine gate_st (p := .tmp 34) rfl ?_); refine store_any _ _ _ rfl rfl rfl (blk_alloc HS.out _) rfl (by simp) rfl rfl rfl (by kernel_rfl) ?_; intro W1 hb1 hk1 hg1; have HS1 := Aside0.mk hb1; have HK1 := Aside0.mk hk1; have HG1 := Aside0.mk hg1; clear hb1 hk1 hg1)
  go_ret
  have hal : TK StkT B w (w.alloc (.cells #[.int .i64 ty, .int .i64 n] 133)) := TK.of (below_alloc (Below.refl _ _) _) (by have := HB.out; have := blk_lt HS.out; omega)
  refine ⟨rfl, .inr ⟨S, g, cap, rfl, HB.out.1, HB.out.2, ?_, ?_⟩, hal.trans (TK.put (blk_alloc HS.out _) (.inl rfl) HB.out.1 HK1.out HG1.out)⟩
  · rw [← HM.out]; exact HS1.out
  · rw [← HM.out]
    exact Row_block (H5.out.alloc _) (HK1.out.2 g (blk_lt (blk_alloc HCUR.out _)) (fun e => HNE.out e.symm) (by simp))
end Go.Proofs.YtekmminmgjoabaaDoor.Js

namespace Go.Proofs.YtekmminmgjoabaaDoor.Js
open Go.RowKit Go.Proofs.YtekmminmgjoabaaDoorW.PrintWords Go.Proofs.YtekmminmgjoabaaDoorW.PrintLast Go.Proofs.YtekmminmgjoabaaDoorW.PrintMore Go.Proofs.YtekmminmgjoabaaDoor.PFnJSTokens
set_option linter.unusedVariables false
set_option linter.unusedSimpArgs false
set_option maxHeartbeats 4000000 in
set_option maxRecDepth 100000 in
theorem tpop (w : World) (B T : Nat) (d : Int) (vv er : Value) (dp ix : Int) (ik nk : Bool) (js sp : Value) (fl : Int) (o : Bool) (n ty : Int) (r : List (Bool × Int)) (hty : ty = if o then 1 else 0) (h : w.heap[T]? = some (.cells (tzr d vv er dp ix ik nk js sp fl) 118 (0, 0))) (hs : Stk w B sp ((o, n) :: r)) (hl : r.length ≤ 2200000000) :
    Calls Tryd.prog 90 #[.pointer (some ⟨T, 0, none⟩), .int .i64 ty] w fun e w' => e = .returned .nilIface ∧ Stk w' B sp r ∧ TK StkT B w w' := by
  have hc : w.cell? ⟨T, 8, none⟩ = some sp := (tzr_cell h 8).trans rfl
  rcases hs with ⟨-, hn⟩ | ⟨S, g, cap, rfl, h2, h3, h4, h5⟩
  · cases hn
  · have HP := Aside0.mk (spop w B S g cap o n ty r hty h2 h3 h4 h5 hl)
    clear hty h2 h3 h4 h5 hl h
    go_enter Tryd.func90, Tryd.ntmps90
    go_wp2_with (go_at_call 126; (with_reducible refine HP.out.mono ?_); rintro e w2 ⟨rfl, hs2, hk2⟩; have HS2 := Aside0.mk hs2; have HK2 := Aside0.mk hk2; clear hs2 hk2)
    go_ret
    exact ⟨rfl, HS2.out, HK2.out⟩
set_option maxHeartbeats 4000000 in
set_option maxRecDepth 100000 in
theorem sis (w : World) (B S g cap : Nat) (o : Bool) (n : Int) (r : List (Bool × Int)) (h4 : w.heap[S]? = some (.cells #[.slice (some ⟨g, 0, none⟩) ((o, n) :: r).length cap] 130 (0, 0))) (h5 : w.ownsRow B 133 2 (.slice (some ⟨g, 0, none⟩) ((o, n) :: r).length cap) ((o, n) :: r).length (flat ((o, n) :: r))) (hl : r.length ≤ 2200000000) :
    Calls Tryd.prog 91 #[.pointer (some ⟨S, 0, none⟩), .int .i64 1] w fun e w' => e = .returned (.bool o) ∧ Drawn0 w w' := by
  obtain ⟨ht0, ht1⟩ := top_cells h5
  obtain ⟨t1, ht⟩ : ∃ t1 : Int, t1 = if o then 1 else 0 := ⟨_, rfl⟩
  have heq : (t1 == 1) = o := by rw [ht]; cases o <;> rfl
  rw [← ht] at ht0
  obtain ⟨m, hm⟩ : ∃ m, m = r.length := ⟨_, rfl⟩
  have hlen : ((o, n) :: r).length = m + 1 := by rw [hm]; rfl
  rw [hlen] at h4
  rw [← hm] at ht0 ht1 hl
  have hc : w.cell? ⟨S, 0, none⟩ = some (.slice (some ⟨g, 0, none⟩) (m + 1) cap) := (blk_cell h4 0).trans rfl
  have hz : ((m : Int) + 1 != 0) = true := by rw [bne_iff_ne]; omega
  have HQ := Aside0.mk heq
  clear h4 h5 ht hm hlen heq
  go_enter Tryd.func91, Tryd.ntmps91
  go_upto_region 1 with (fail)
  have hsum : IntKind.i64.wrap ((m : Int) + 1 - 1) = (m : Int) := by rw [IntKind.wrap_i64]; omega
  have hsum2 : IntKind.i64.wrap ((m : Int)) = (m : Int) := by rw [IntKind.wrap_i64]; omega
  have hi1 : (0 : Int) ≤ (m : Int) := by omega
  have hi2 : (m : Int) < (m : Int) + 1 := by omega
  go_quiet (fail)
  go_wp2
  go_ret
  exact ⟨by rw [← HQ.out]; try rfl, ⟨⟨_, rfl⟩⟩⟩
set_option maxHeartbeats 4000000 in
set_option maxRecDepth 100000 in
theorem tleft (w : World) (T : Nat) (d : Int) (vv er : Value) (dp ix : Int) (ik nk : Bool) (A : Option Addr) (n c : Nat) (sp : Value) (fl : Int) (h : w.heap[T]? = some (.cells (tzr d vv er dp ix ik nk (.slice A n c) sp fl) 118 (0, 0))) :
    Calls Tryd.prog 77 #[.pointer (some ⟨T, 0, none⟩)] w fun e w' => e = .returned (.int .i64 (n : Int)) ∧ w = w' := by
  have hc : w.cell? ⟨T, 7, none⟩ = some (.slice A n c) := (tzr_cell h 7).trans rfl
  clear h
  go_enter Tryd.func77, Tryd.ntmps77
  go_wp2
  go_ret
  exact ⟨rfl, rfl⟩
/-- Flags with a kind. -/
def flK (p q : Bool) (K : Int) : Int := flg p q + 65536 * K
theorem flK_all : ∀ (p q : Bool) (K L : Fin 64), Go.bits .or .u32 (Go.bits .and .u32 (flK p q (K.val : Int)) 4278255615) ((((L.val : Int)) % 4294967296 * 65536) % 4294967296) = flK p q (L.val : Int) ∧ IntKind.u64.wrap (Go.bits .and .u32 (flK p q (K.val : Int) / 65536) 255) = (K.val : Int) ∧ (Go.bits .and .u32 (flK p q (K.val : Int)) 268435456 != 0) = p ∧ (Go.bits .and .u32 (flK p q (K.val : Int)) 1073741824 != 0) = q := by decide +kernel
theorem flK_with (p q : Bool) (K L : Int) (h0 : 0 ≤ K) (h1 : K < 64) (h2 : 0 ≤ L) (h3 : L < 64) (w : World) : Calls Tryd.prog 88 #[.int .u32 (flK p q K), .int .u64 L] w fun e w' => e = .returned (.int .u32 (flK p q L)) ∧ Drawn0 w w' := by
  refine json_ParseFlags_withKind.calls _ _ _ w ?_
  have := (flK_all p q ⟨K.toNat, by omega⟩ ⟨L.toNat, by omega⟩).1
  simp only [Int.toNat_of_nonneg h0, Int.toNat_of_nonneg h2] at this
  exact congrArg some this
theorem flK_fl (p q : Bool) (K : Int) (h0 : 0 ≤ K) (h1 : K < 64) : Fl (flK p q K) p q := by
  have := (flK_all p q ⟨K.toNat, by omega⟩ ⟨0, by decide⟩).2.2
  simp only [Int.toNat_of_nonneg h0] at this
  exact ⟨this.1, this.2⟩
set_option maxHeartbeats 4000000 in
set_option maxRecDepth 100000 in
theorem tkind (w : World) (T : Nat) (d : Int) (vv er : Value) (dp ix : Int) (ik nk : Bool) (js : Value) (sp : Value) (p q : Bool) (K : Int) (h0 : 0 ≤ K) (h1 : K < 64) (h : w.heap[T]? = some (.cells (tzr d vv er dp ix ik nk js sp (flK p q K)) 118 (0, 0))) :
    Calls Tryd.prog 78 #[.pointer (some ⟨T, 0, none⟩)] w fun e w' => e = .returned (.int .u64 K) ∧ Drawn0 w w' := by
  have hc : w.cell? ⟨T, 9, none⟩ = some (.int .u32 (flK p q K)) := (tzr_cell h 9).trans rfl
  have hk : json_ParseFlags_kind.f (flK p q K) = some K := by
    have := (flK_all p q ⟨K.toNat, by omega⟩ ⟨0, by decide⟩).2.1
    simp only [Int.toNat_of_nonneg h0] at this
    exact congrArg some this
  have HK := Aside0.mk (fun (W : World) => json_ParseFlags_kind.calls _ _ W hk)
  obtain ⟨fl, hfl⟩ : ∃ fl, fl = flK p q K := ⟨_, rfl⟩
  rw [← hfl] at hc HK
  clear h hk hfl h0 h1
  go_enter Tryd.func78, Tryd.ntmps78
  go_wp2_with (go_at_call 92; (with_reducible refine (HK.out _).mono ?_); rintro e w2 ⟨rfl, hd⟩; have HD := Aside0.mk hd; clear hd)
  go_ret
  exact ⟨rfl, HD.out⟩
end Go.Proofs.YtekmminmgjoabaaDoor.Js

namespace Go.Proofs.YtekmminmgjoabaaDoor.Js
open Go.RowKit Go.Proofs.YtekmminmgjoabaaDoorW.PrintWords Go.Proofs.YtekmminmgjoabaaDoorW.PrintLast Go.Proofs.YtekmminmgjoabaaDoorW.PrintMore Go.Proofs.YtekmminmgjoabaaDoor.PFnJSTokens
set_option linter.unusedVariables false
set_option linter.unusedSimpArgs false
/-- A struct of one whole number is stored. -/
theorem store_agg1 {P : Program} {ops : Array Oper} {rest : List Oper} {o : Oper} {a : Act} {Q : Exit → Act → World → Prop} {W : World} (t : TypeId) (p v : Operand) (ho : o.op = .store t p v) (hN : o.dst = none) (hgd : o.guard = none)
    {G T i : Nat} {cs : Array Value} {k : IntKind} {x : Int} (hb : W.heap[G]? = some (.cells cs T (0, 0))) (hp : a.eval p = .pointer (some ⟨G, i, none⟩)) (hi : i < cs.size) (hu : a.eval v = .agg #[.int k x]) (ht : (P.info? t).map (·.size) = some 1)
    (h : ∀ W1, W1.heap[G]? = some (.cells (cs.setIfInBounds i (.int k x)) T (0, 0)) → KeepBut W W1 G none → Below G W W1 → wpList P ops Q rest a W1) :
    wpList P ops Q (o :: rest) a W := by
  refine wpList_plain hgd fun K hK => ?_
  unfold Oper.wp execOp
  have hrun := run_store_run (P := P) (w := W) t (.agg #[.int k x]) [.int k x] hb rfl ht (o := i) (by simp; omega) (by simp [Value.oneCell'])
  simp only [ho, Sem.run_bind, Sem.run_pure, Result.andThen_ok, hp, hu, hrun]
  refine hK _ _ ?_
  rw [hN]
  exact h (W.setCell ⟨G, i, none⟩ (.int k x)) (blk_set hb i _) ((KeepBut.refl W G none).set_ i _) ((Below.refl G W).setCell (Nat.le_refl _) _)
theorem flK_zero (p q : Bool) : flg p q = flK p q 0 := by cases p <;> cases q <;> rfl
set_option maxHeartbeats 4000000 in
set_option maxRecDepth 100000 in
theorem tnew (w : World) (B : Nat) (A : Option Addr) (n c : Nat) (zs : List Int) (h : Sl w B (.slice A n c) zs) (hb : Bytes zs) (hB : B ≤ w.heap.size) (hl : zs.length < 9000000000000000000) :
    Calls Tryd.prog 45 #[.slice A n c] w fun e w' => ∃ T p q, e = .returned (.pointer (some ⟨T, 0, none⟩)) ∧ w.heap.size ≤ T ∧ w'.heap[T]? = some (.cells (tzr 0 (.slice none 0 0) .nilIface 0 0 false false (.slice A n c) (.pointer none) (flK p q 0)) 118 (0, 0)) ∧ FlagsOk zs p q ∧ Below w.heap.size w w' := by
  have HF := Aside0.mk (flags_calls w B A n c zs h hb hB hl)
  clear h hb hB hl
  go_enter Tryd.func45, Tryd.ntmps45
  go_wp2_with (go_at_call 79; (with_reducible refine HF.out.mono ?_); rintro e w2 ⟨p, q, rfl, hf, hb2⟩; rw [flK_zero]; have HP := Aside0.mk hf; have HB2 := Aside0.mk hb2; clear hf hb2)
  go_ret
  exact ⟨_, _, _, rfl, HB2.out.size, blk_new _ _, HP.out, below_alloc HB2.out _⟩
set_option maxHeartbeats 4000000 in
set_option maxRecDepth 100000 in
theorem treset (w : World) (B T : Nat) (d : Int) (vv er : Value) (dp ix : Int) (ik nk : Bool) (js sp : Value) (fl : Int) (A : Option Addr) (n c : Nat) (zs : List Int) (hT : B ≤ T) (ht : w.heap[T]? = some (.cells (tzr d vv er dp ix ik nk js sp fl) 118 (0, 0))) (h : Sl w B (.slice A n c) zs) (hb : Bytes zs) (hl : zs.length < 9000000000000000000) :
    Calls Tryd.prog 55 #[.pointer (some ⟨T, 0, none⟩), .slice A n c] w fun e w' => e = .returned (.tuple #[]) ∧ (∃ p q, w'.heap[T]? = some (.cells (tzr 0 (.slice none 0 0) .nilIface 0 0 false false (.slice A n c) (.pointer none) (flK p q 0)) 118 (0, 0)) ∧ FlagsOk zs p q) ∧ TK TokT B w w' := by
  have HBT := Aside0.mk hT
  have HSl := Aside0.mk h
  have HBy := Aside0.mk hb
  have HL := Aside0.mk hl
  have HT0 := Aside0.mk ht
  have HK0 := Aside0.mk (TK.refl TokT B w)
  clear hT ht h hb hl
  go_enter Tryd.func55, Tryd.ntmps55
  go_upto_region 1 with ((with_reducible refine gate_st rfl ?_); refine store_any _ _ _ rfl rfl rfl HT0.out rfl (by simp [tzr]) rfl rfl rfl (by kernel_rfl) ?_; intro w1 hb1 hk1 hg1; have HT1 := Aside0.mk (show w1.heap[T]? = some (.cells (tzr 0 vv er dp ix ik nk js sp fl) 118 (0, 0)) from hb1); have HK1 := Aside0.mk (HK0.out.trans (TK.put HT0.out (.inl rfl) HBT.out hk1 hg1)); clear hb1 hk1 hg1)
  clear HT0 HK0
  go_upto_region 2 with ((with_reducible refine gate_st rfl ?_); refine store_any _ _ _ rfl rfl rfl HT1.out rfl (by simp [tzr]) rfl rfl rfl (by kernel_rfl) ?_; intro w2 hb1 hk1 hg1; have HT2 := Aside0.mk (show w2.heap[T]? = some (.cells (tzr 0 (.slice none 0 0) er dp ix ik nk js sp fl) 118 (0, 0)) from hb1); have HK2 := Aside0.mk (HK1.out.trans (TK.put HT1.out (.inl rfl) HBT.out hk1 hg1)); clear hb1 hk1 hg1)
  clear HT1 HK1
  go_upto_region 3 with ((with_reducible refine gate_st rfl ?_); refine store_any _ _ _ rfl rfl rfl HT2.out rfl (by simp [tzr]) rfl rfl rfl (by kernel_rfl) ?_; intro w3 hb1 hk1 hg1; have HT3 := Aside0.mk (show w3.heap[T]? = some (.cells (tzr 0 (.slice none 0 0) .nilIface dp ix ik nk js sp fl) 118 (0, 0)) from hb1); have HK3 := Aside0.mk (HK2.out.trans (TK.put HT2.out (.inl rfl) HBT.out hk1 hg1)); clear hb1 hk1 hg1)
  clear HT2 HK2
  go_upto_region 4 with ((with_reducible refine gate_st rfl ?_); refine store_any _ _ _ rfl rfl rfl HT3.out rfl (by simp [tzr]) rfl rfl rfl (by kernel_rfl) ?_; intro w4 hb1 hk1 hg1; have HT4 := Aside0.mk (show w4.heap[T]? = some (.cells (tzr 0 (.slice none 0 0) .nilIface 0 ix ik nk js sp fl) 118 (0, 0)) from hb1); have HK4 := Aside0.mk (HK3.out.trans (TK.put HT3.out (.inl rfl) HBT.out hk1 hg1)); clear hb1 hk1 hg1)
  clear HT3 HK3
  go_upto_region 5 with ((with_reducible refine gate_st rfl ?_); refine store_any _ _ _ rfl rfl rfl HT4.out rfl (by simp [tzr]) rfl rfl rfl (by kernel_rfl) ?_; intro w5 hb1 hk1 hg1; have HT5 := Aside0.mk (show w5.heap[T]? = some (.cells (tzr 0 (.slice none 0 0) .nilIface 0 0 ik nk js sp fl) 118 (0, 0)) from hb1); have HK5 := Aside0.mk (HK4.out.trans (TK.put HT4.out (.inl rfl) HBT.out hk1 hg1)); clear hb1 hk1 hg1)
  clear HT4 HK4
  go_upto_region 6 with ((with_reducible refine gate_st rfl ?_); refine store_any _ _ _ rfl rfl rfl HT5.out rfl (by simp [tzr]) rfl rfl rfl (by kernel_rfl) ?_; intro w6 hb1 hk1 hg1; have HT6 := Aside0.mk (show w6.heap[T]? = some (.cells (tzr 0 (.slice none 0 0) .nilIface 0 0 false nk js sp fl) 118 (0, 0)) from hb1); have HK6 := Aside0.mk (HK5.out.trans (TK.put HT5.out (.inl rfl) HBT.out hk1 hg1)); clear hb1 hk1 hg1)
  clear HT5 HK5
  go_upto_region 7 with ((with_reducible refine gate_st rfl ?_); refine store_any _ _ _ rfl rfl rfl HT6.out rfl (by simp [tzr]) rfl rfl rfl (by kernel_rfl) ?_; intro w7 hb1 hk1 hg1; have HT7 := Aside0.mk (show w7.heap[T]? = some (.cells (tzr 0 (.slice none 0 0) .nilIface 0 0 false false js sp fl) 118 (0, 0)) from hb1); have HK7 := Aside0.mk (HK6.out.trans (TK.put HT6.out (.inl rfl) HBT.out hk1 hg1)); clear hb1 hk1 hg1)
  clear HT6 HK6
  go_upto_region 8 with ((with_reducible refine gate_st rfl ?_); refine store_any _ _ _ rfl rfl rfl HT7.out rfl (by simp [tzr]) rfl rfl rfl (by kernel_rfl) ?_; intro w8 hb1 hk1 hg1; have HT8 := Aside0.mk (show w8.heap[T]? = some (.cells (tzr 0 (.slice none 0 0) .nilIface 0 0 false false (.slice A n c) sp fl) 118 (0, 0)) from hb1); have HK8 := Aside0.mk (HK7.out.trans (TK.put HT7.out (.inl rfl) HBT.out hk1 hg1)); clear hb1 hk1 hg1)
  clear HT7 HK7
  go_upto_region 9 with ((with_reducible refine gate_st rfl ?_); refine store_any _ _ _ rfl rfl rfl HT8.out rfl (by simp [tzr]) rfl rfl rfl (by kernel_rfl) ?_; intro w9 hb1 hk1 hg1; have HT9 := Aside0.mk (show w9.heap[T]? = some (.cells (tzr 0 (.slice none 0 0) .nilIface 0 0 false false (.slice A n c) (.pointer none) fl) 118 (0, 0)) from hb1); have HK9 := Aside0.mk (HK8.out.trans (TK.put HT8.out (.inl rfl) HBT.out hk1 hg1)); clear hb1 hk1 hg1)
  clear HT8 HK8
  have HF := Aside0.mk (flags_calls w9 B A n c zs (HSl.out.below HK9.out.below) HBy.out (Nat.le_trans HBT.out (Nat.le_of_lt (blk_lt HT9.out))) HL.out)
  go_wp2_with (first
    | (go_at_call 79; (with_reducible refine HF.out.mono ?_); rintro e w2 ⟨p, q, rfl, hf, hb2⟩; rw [flK_zero]; have HP := Aside0.mk hf; have HTA := Aside0.mk (blk_below HT9.out hb2); have HKA := Aside0.mk (HK9.out.trans (TK.of hb2 (Nat.le_trans HBT.out (Nat.le_of_lt (blk_lt HT9.out))))); clear hf hb2)
    | ((with_reducible refine gate_st rfl ?_); refine store_agg1 _ _ _ rfl rfl rfl HTA.out rfl (by simp [tzr]) rfl (by kernel_rfl) ?_; intro w10 hb1 hk1 hg1; have HTB := Aside0.mk (show w10.heap[T]? = some (.cells (tzr 0 (.slice none 0 0) .nilIface 0 0 false false (.slice A n c) (.pointer none) (flK p q 0)) 118 (0, 0)) from hb1); have HKB := Aside0.mk (HKA.out.trans (TK.put HTA.out (.inl rfl) HBT.out hk1 hg1)); clear hb1 hk1 hg1))
  go_end0
  exact ⟨rfl, ⟨_, _, HTB.out, HP.out⟩, HKB.out⟩
end Go.Proofs.YtekmminmgjoabaaDoor.Js

