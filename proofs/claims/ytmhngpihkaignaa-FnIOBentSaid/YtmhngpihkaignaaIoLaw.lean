/- The walks of the laws of a time's text. -/
import Derived.Test.YtmhngpihkaignaaIoAnswer
import Derived.Test.YtmhngpihkaignaaIoTime
import Derived.Test.YtmhngpihkaignaaMFnIOValidx2
namespace Go.Proofs.Ytmhngpihkaignaa.IoLaw
open Go.RowKit Go.Proofs.Ytmhngpihkaignaa.PFnIOValid Go.Proofs.YtmhngpihkaignaaW.PrintWords Go.Proofs.YtmhngpihkaignaaW.PrintLast Go.Proofs.YtmhngpihkaignaaW.PrintMore Go.Proofs.Ytmhngpihkaignaa.IoText Go.Proofs.Ytmhngpihkaignaa.IoPure Go.Proofs.Ytmhngpihkaignaa.IoAnswer Go.Proofs.Ytmhngpihkaignaa.IoTime
set_option linter.unusedVariables false
set_option linter.unusedSimpArgs false

/-- The subject's test, a name for the library's. -/
def Told (s : ByteArray) (f : Int) (b : Bool) : Prop := ∀ w : World, Calls Try.prog 35 #[.string s, .int .i64 f] w fun e w' => e = .returned (.bool b) ∧ Below w.heap.size w w'
theorem c35 (s : ByteArray) (f : Int) (b : Bool) (h : ∀ w : World, Calls Try.prog 59 #[.string s, .int .i64 f] w fun e w' => e = .returned (.bool b) ∧ Drawn0 w w') : Told s f b := by
  intro w
  go_enter Try.func35, Try.ntmps35
  go_wp2_with fail
  refine (h _).mono ?_
  rintro e w' ⟨rfl, ⟨nd, rfl⟩⟩
  go_wp2_with fail
  go_ret
  exact ⟨rfl, by repeat (first | exact Below.refl _ _ | apply pw_below_drewN | apply below_drew)⟩
theorem told_at {s : ByteArray} {f : Int} {b : Bool} (h : Told s f b) (w : World) : Calls Try.prog 35 #[.string s, .int .i64 f] w fun e w' => e = .returned (.bool b) ∧ Below w.heap.size w w' := h w
/-- The text of a time that is made, what the definition tells of it, and what the program tells. -/
theorem made_text (Y M D h m s : Int) (bl tm : Bool) (dg pt z o : Int) (Y0 : 1 ≤ Y) (Y1 : Y ≤ 9999) (M0 : 1 ≤ M) (M1 : M ≤ 12) (D0 : 1 ≤ D) (D1 : D ≤ 31) (h0 : 0 ≤ h) (h1 : h < 24) (m0 : 0 ≤ m) (m1 : m < 60) (s0 : 0 ≤ s) (s1 : s < 60) (g0 : 0 ≤ dg) (g1 : dg ≤ 9) (p0 : 0 ≤ pt) (p1 : pt ≤ 65535) (z0 : 0 ≤ z) (z1 : z ≤ 3) (o0 : -840 < o) (o1 : o < 840) :
    ∃ dl : List Int, (∀ x ∈ dl, dig x = true) ∧ spec_IOText.f 40 Y M D h m s bl tm dg pt z o = some (strOfNums (date Y M D ++ if tm = true then [if bl = true then 32 else 84] ++ clock h m s ++ frac dl ++ zone z o else [])) ∧
      ∀ f, Told (strOfNums (date Y M D ++ if tm = true then [if bl = true then 32 else 84] ++ clock h m s ++ frac dl ++ zone z o else [])) f (told bl tm dg z f) := by
  obtain ⟨dl, hl, hd, ht⟩ := text_is Y M D h m s bl tm dg pt z o (by omega) (by omega) (by omega) (by omega) (by omega) (by omega) h0 (by omega) m0 (by omega) s0 (by omega) g0 g1 p0 (by omega) (by omega) (by omega) z0 z1
  exact ⟨dl, hd, ht, fun f => c35 _ _ _ (fun w => answer Y M D h m s bl tm dg z o dl hl hd g1 z0 z1 f w)⟩
theorem told_all (bl tm : Bool) (dg z : Int) : told bl tm dg z 62 = true := by
  have b2 : (Go.bits .and .i64 62 2 == 0) = false := by decide +kernel
  have b4 : (Go.bits .and .i64 62 4 == 0) = false := by decide +kernel
  have b8 : (Go.bits .and .i64 62 8 == 0) = false := by decide +kernel
  have b16 : (Go.bits .and .i64 62 16 == 0) = false := by decide +kernel
  have b32 : (Go.bits .and .i64 62 32 == 0) = false := by decide +kernel
  unfold told
  rw [b2, b4, b8, b16, b32]
  simp
/-- The one text that the law names. -/
theorem told_one : Told (⟨#[50, 48, 50, 49, 45, 48, 51, 45, 50, 53, 84, 50, 49, 58, 51, 54, 58, 49, 50, 46, 53, 90]⟩ : ByteArray) 0 true := by
  have hok : okB [50, 48, 50, 49, 45, 48, 51, 45, 50, 53, 84, 50, 49, 58, 51, 54, 58, 49, 50, 46, 53, 90] := by
    repeat (first | exact ok_nil | refine ok_cons (by decide) ?_)
  have hd : ∀ x ∈ [(53 : Int)], dig x = true := by decide
  have key := fun w => tx_tf_z 0 w 50 48 50 49 48 51 50 53 50 49 51 54 49 50 (Aside0.mk rfl) (Aside0.mk rfl) (Aside0.mk rfl) (Aside0.mk rfl) (Aside0.mk rfl) (Aside0.mk rfl) (Aside0.mk rfl) (Aside0.mk rfl) (Aside0.mk rfl) (Aside0.mk rfl) (Aside0.mk rfl) (Aside0.mk rfl) (Aside0.mk rfl) (Aside0.mk rfl) [53] hd (by decide) (by decide) hok
  exact c35 _ _ _ key

set_option maxHeartbeats 4000000 in
set_option maxRecDepth 100000 in
theorem lawV (n0 n1 n2 n3 n4 n5 n6 n7 zn off : Int) (day : Bool) (fl : Int) (w : World)
    (a0 : 0 ≤ n0) (b0 : n0 ≤ 65535) (a1 : 0 ≤ n1) (b1 : n1 ≤ 65535) (a2 : 0 ≤ n2) (b2 : n2 ≤ 65535) (a3 : 0 ≤ n3) (b3 : n3 ≤ 65535) (a4 : 0 ≤ n4) (b4 : n4 ≤ 65535) (a5 : 0 ≤ n5) (b5 : n5 ≤ 65535) (a6 : 0 ≤ n6) (b6 : n6 ≤ 65535) (a7 : 0 ≤ n7) (b7 : n7 ≤ 65535)
    (az : 0 ≤ zn) (bz : zn ≤ 255) (ao : -32768 ≤ off) (bo : off ≤ 32767) (af : 0 ≤ fl) (bf : fl ≤ 255) :
    Calls Try.prog 11 #[.agg #[.int .u16 n0, .int .u16 n1, .int .u16 n2, .int .u16 n3, .int .u16 n4, .int .u16 n5, .int .u16 n6, .int .u16 n7], .int .u8 zn, .int .i16 off, .bool day, .int .u8 fl] w fun e w' => e = .returned (.bool true) ∧ Below w.heap.size w w' := by
  go_enter Try.func11, Try.ntmps11
  go_wp2_with fail
  go_at_call 33
  (with_reducible refine (made n0 n1 n2 n3 n4 n5 n6 n7 zn off day _ a0 b0 a1 b1 a2 b2 a3 b3 a4 b4 a5 b5 a6 b6 a7 b7 az bz ao bo).mono ?_)
  rintro e w' ⟨⟨Y, M, D, h, m, s, bl, tm, dg, pt, z, o, rfl, ⟨Y0, Y1⟩, ⟨M0, M1⟩, ⟨D0, D1⟩, ⟨h0, h1⟩, ⟨m0, m1⟩, ⟨s0, s1⟩, ⟨g0, g1⟩, ⟨p0, p1⟩, ⟨z0, z1⟩, o0, o1⟩, hb⟩
  have HB : Aside0 (Below w.heap.size w w') := Aside0.mk (below_then (below_alloc (Below.refl _ w) _) (by simp) hb)
  clear hb
  go_upto_region 3 with fail
  have BK : Aside0 ((w'.alloc (Obj.cells #[.int .i64 Y, .int .i64 M, .int .i64 D, .int .i64 h, .int .i64 m, .int .i64 s, .bool bl, .bool tm, .int .i64 dg, .int .i64 pt, .int .i64 z, .int .i64 o] 50)).heap[w'.heap.size]? = some (.cells #[.int .i64 Y, .int .i64 M, .int .i64 D, .int .i64 h, .int .i64 m, .int .i64 s, .bool bl, .bool tm, .int .i64 dg, .int .i64 pt, .int .i64 z, .int .i64 o] 50 (0, 0))) := Aside0.mk (blk_new _ _)
  have HB1 : Aside0 (Below w.heap.size w (w'.alloc (Obj.cells #[.int .i64 Y, .int .i64 M, .int .i64 D, .int .i64 h, .int .i64 m, .int .i64 s, .bool bl, .bool tm, .int .i64 dg, .int .i64 pt, .int .i64 z, .int .i64 o] 50))) := Aside0.mk (below_alloc HB.out _)
  clear HB
  have HB := HB1
  clear HB1
  obtain ⟨dl, hdl, hT, hall⟩ := made_text Y M D h m s bl tm dg pt z o Y0 Y1 M0 M1 D0 D1 h0 h1 m0 m1 s0 s1 g0 g1 p0 p1 z0 z1 o0 o1
  obtain ⟨T, hTe⟩ : ∃ T : ByteArray, strOfNums (date Y M D ++ if tm = true then [if bl = true then 32 else 84] ++ clock h m s ++ frac dl ++ zone z o else []) = T := ⟨_, rfl⟩
  rw [hTe] at hT hall
  have hT := Aside0.mk hT
  obtain ⟨F, hF⟩ : ∃ F : Int, Go.bits .and .i64 fl 62 = F := ⟨_, rfl⟩
  simp only [hF]
  have tF := Aside0.mk (hall F)
  have t62 : Aside0 (Told T 62 true) := Aside0.mk (by have := hall 62; rw [told_all] at this; exact this)
  have t0 := Aside0.mk told_one
  have hV := Aside0.mk (told_is Y M D h m s bl tm dg pt z o F)
  obtain ⟨b, hb⟩ : ∃ b : Bool, told bl tm dg z F = b := ⟨_, rfl⟩
  rw [hb] at tF hV
  clear hb hall hTe hdl hF
  obtain ⟨G, hG⟩ : ∃ G : Nat, w'.heap.size = G := ⟨_, rfl⟩
  rw [hG] at BK
  simp only [hG]
  obtain ⟨W, hW⟩ : ∃ W : World, w'.alloc (Obj.cells #[.int .i64 Y, .int .i64 M, .int .i64 D, .int .i64 h, .int .i64 m, .int .i64 s, .bool bl, .bool tm, .int .i64 dg, .int .i64 pt, .int .i64 z, .int .i64 o] 50) = W := ⟨_, rfl⟩
  rw [hW] at BK HB ⊢
  clear hW hG
  have c0 : W.cell? ⟨G, 0, none⟩ = some (.int .i64 Y) := (blk_cell BK.out 0).trans rfl
  have c1 : W.cell? ⟨G, 1, none⟩ = some (.int .i64 M) := (blk_cell BK.out 1).trans rfl
  have c2 : W.cell? ⟨G, 2, none⟩ = some (.int .i64 D) := (blk_cell BK.out 2).trans rfl
  have c3 : W.cell? ⟨G, 3, none⟩ = some (.int .i64 h) := (blk_cell BK.out 3).trans rfl
  have c4 : W.cell? ⟨G, 4, none⟩ = some (.int .i64 m) := (blk_cell BK.out 4).trans rfl
  have c5 : W.cell? ⟨G, 5, none⟩ = some (.int .i64 s) := (blk_cell BK.out 5).trans rfl
  have c6 : W.cell? ⟨G, 6, none⟩ = some (.bool bl) := (blk_cell BK.out 6).trans rfl
  have c7 : W.cell? ⟨G, 7, none⟩ = some (.bool tm) := (blk_cell BK.out 7).trans rfl
  have c8 : W.cell? ⟨G, 8, none⟩ = some (.int .i64 dg) := (blk_cell BK.out 8).trans rfl
  have c9 : W.cell? ⟨G, 9, none⟩ = some (.int .i64 pt) := (blk_cell BK.out 9).trans rfl
  have c10 : W.cell? ⟨G, 10, none⟩ = some (.int .i64 z) := (blk_cell BK.out 10).trans rfl
  have c11 : W.cell? ⟨G, 11, none⟩ = some (.int .i64 o) := (blk_cell BK.out 11).trans rfl
  go_region_with (first
    | (go_at_call 34; (with_reducible refine (spec_IOText.calls 40 Y M D h m s bl tm dg pt z o T _ hT.out).mono ?_); rintro e w2 ⟨rfl, hb⟩; have BK2 : Aside0 (w2.heap[G]? = some (.cells #[.int .i64 Y, .int .i64 M, .int .i64 D, .int .i64 h, .int .i64 m, .int .i64 s, .bool bl, .bool tm, .int .i64 dg, .int .i64 pt, .int .i64 z, .int .i64 o] 50 (0, 0))) := Aside0.mk (by first | exact blk_below BK.out hb | exact blk_below (blk_drew BK.out) hb); have HB2 : Aside0 (Below w.heap.size w w2) := Aside0.mk (by first | exact below_then HB.out HB.out.size hb | exact below_then (below_drew HB.out) HB.out.size hb); clear c0 c1 c2 c3 c4 c5 c6 c7 c8 c9 c10 c11; clear BK HB hb; have BK := BK2; have HB := HB2; clear BK2 HB2; have c0 : w2.cell? ⟨G, 0, none⟩ = some (.int .i64 Y) := (blk_cell BK.out 0).trans rfl; have c1 : w2.cell? ⟨G, 1, none⟩ = some (.int .i64 M) := (blk_cell BK.out 1).trans rfl; have c2 : w2.cell? ⟨G, 2, none⟩ = some (.int .i64 D) := (blk_cell BK.out 2).trans rfl; have c3 : w2.cell? ⟨G, 3, none⟩ = some (.int .i64 h) := (blk_cell BK.out 3).trans rfl; have c4 : w2.cell? ⟨G, 4, none⟩ = some (.int .i64 m) := (blk_cell BK.out 4).trans rfl; have c5 : w2.cell? ⟨G, 5, none⟩ = some (.int .i64 s) := (blk_cell BK.out 5).trans rfl; have c6 : w2.cell? ⟨G, 6, none⟩ = some (.bool bl) := (blk_cell BK.out 6).trans rfl; have c7 : w2.cell? ⟨G, 7, none⟩ = some (.bool tm) := (blk_cell BK.out 7).trans rfl; have c8 : w2.cell? ⟨G, 8, none⟩ = some (.int .i64 dg) := (blk_cell BK.out 8).trans rfl; have c9 : w2.cell? ⟨G, 9, none⟩ = some (.int .i64 pt) := (blk_cell BK.out 9).trans rfl; have c10 : w2.cell? ⟨G, 10, none⟩ = some (.int .i64 z) := (blk_cell BK.out 10).trans rfl; have c11 : w2.cell? ⟨G, 11, none⟩ = some (.int .i64 o) := (blk_cell BK.out 11).trans rfl)
    | (go_at_call 36; (with_reducible refine (spec_IOValid.calls 10 Y M D h m s bl tm dg pt z o F b _ hV.out).mono ?_); rintro e w2 ⟨rfl, hb⟩; have BK2 : Aside0 (w2.heap[G]? = some (.cells #[.int .i64 Y, .int .i64 M, .int .i64 D, .int .i64 h, .int .i64 m, .int .i64 s, .bool bl, .bool tm, .int .i64 dg, .int .i64 pt, .int .i64 z, .int .i64 o] 50 (0, 0))) := Aside0.mk (by first | exact blk_below BK.out hb | exact blk_below (blk_drew BK.out) hb); have HB2 : Aside0 (Below w.heap.size w w2) := Aside0.mk (by first | exact below_then HB.out HB.out.size hb | exact below_then (below_drew HB.out) HB.out.size hb); clear c0 c1 c2 c3 c4 c5 c6 c7 c8 c9 c10 c11; clear BK HB hb; have BK := BK2; have HB := HB2; clear BK2 HB2; have c0 : w2.cell? ⟨G, 0, none⟩ = some (.int .i64 Y) := (blk_cell BK.out 0).trans rfl; have c1 : w2.cell? ⟨G, 1, none⟩ = some (.int .i64 M) := (blk_cell BK.out 1).trans rfl; have c2 : w2.cell? ⟨G, 2, none⟩ = some (.int .i64 D) := (blk_cell BK.out 2).trans rfl; have c3 : w2.cell? ⟨G, 3, none⟩ = some (.int .i64 h) := (blk_cell BK.out 3).trans rfl; have c4 : w2.cell? ⟨G, 4, none⟩ = some (.int .i64 m) := (blk_cell BK.out 4).trans rfl; have c5 : w2.cell? ⟨G, 5, none⟩ = some (.int .i64 s) := (blk_cell BK.out 5).trans rfl; have c6 : w2.cell? ⟨G, 6, none⟩ = some (.bool bl) := (blk_cell BK.out 6).trans rfl; have c7 : w2.cell? ⟨G, 7, none⟩ = some (.bool tm) := (blk_cell BK.out 7).trans rfl; have c8 : w2.cell? ⟨G, 8, none⟩ = some (.int .i64 dg) := (blk_cell BK.out 8).trans rfl; have c9 : w2.cell? ⟨G, 9, none⟩ = some (.int .i64 pt) := (blk_cell BK.out 9).trans rfl; have c10 : w2.cell? ⟨G, 10, none⟩ = some (.int .i64 z) := (blk_cell BK.out 10).trans rfl; have c11 : w2.cell? ⟨G, 11, none⟩ = some (.int .i64 o) := (blk_cell BK.out 11).trans rfl)
    | (go_at_call 35; (with_reducible first | refine (told_at tF.out _).mono ?_ | refine (told_at t62.out _).mono ?_ | refine (told_at t0.out _).mono ?_); rintro e w2 ⟨rfl, hb⟩; have BK2 : Aside0 (w2.heap[G]? = some (.cells #[.int .i64 Y, .int .i64 M, .int .i64 D, .int .i64 h, .int .i64 m, .int .i64 s, .bool bl, .bool tm, .int .i64 dg, .int .i64 pt, .int .i64 z, .int .i64 o] 50 (0, 0))) := Aside0.mk (by first | exact blk_below BK.out hb | exact blk_below (blk_drew BK.out) hb); have HB2 : Aside0 (Below w.heap.size w w2) := Aside0.mk (by first | exact below_then HB.out HB.out.size hb | exact below_then (below_drew HB.out) HB.out.size hb); clear c0 c1 c2 c3 c4 c5 c6 c7 c8 c9 c10 c11; clear BK HB hb; have BK := BK2; have HB := HB2; clear BK2 HB2; have c0 : w2.cell? ⟨G, 0, none⟩ = some (.int .i64 Y) := (blk_cell BK.out 0).trans rfl; have c1 : w2.cell? ⟨G, 1, none⟩ = some (.int .i64 M) := (blk_cell BK.out 1).trans rfl; have c2 : w2.cell? ⟨G, 2, none⟩ = some (.int .i64 D) := (blk_cell BK.out 2).trans rfl; have c3 : w2.cell? ⟨G, 3, none⟩ = some (.int .i64 h) := (blk_cell BK.out 3).trans rfl; have c4 : w2.cell? ⟨G, 4, none⟩ = some (.int .i64 m) := (blk_cell BK.out 4).trans rfl; have c5 : w2.cell? ⟨G, 5, none⟩ = some (.int .i64 s) := (blk_cell BK.out 5).trans rfl; have c6 : w2.cell? ⟨G, 6, none⟩ = some (.bool bl) := (blk_cell BK.out 6).trans rfl; have c7 : w2.cell? ⟨G, 7, none⟩ = some (.bool tm) := (blk_cell BK.out 7).trans rfl; have c8 : w2.cell? ⟨G, 8, none⟩ = some (.int .i64 dg) := (blk_cell BK.out 8).trans rfl; have c9 : w2.cell? ⟨G, 9, none⟩ = some (.int .i64 pt) := (blk_cell BK.out 9).trans rfl; have c10 : w2.cell? ⟨G, 10, none⟩ = some (.int .i64 z) := (blk_cell BK.out 10).trans rfl; have c11 : w2.cell? ⟨G, 11, none⟩ = some (.int .i64 o) := (blk_cell BK.out 11).trans rfl))
  all_goals
    go_wp2_with fail
    go_ret
    exact ⟨by first | rfl | (simp [Act.put]), HB.out⟩
end Go.Proofs.Ytmhngpihkaignaa.IoLaw
