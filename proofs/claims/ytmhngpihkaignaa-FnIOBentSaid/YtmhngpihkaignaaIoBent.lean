/- The walk of the law of a time's text with a letter in it. -/
import Derived.Test.YtmhngpihkaignaaIoLaw
import Derived.Test.YtmhngpihkaignaaIoBentP
namespace Go.Proofs.Ytmhngpihkaignaa.IoBent
open Go.RowKit Go.Proofs.Ytmhngpihkaignaa.PFnIOValid Go.Proofs.YtmhngpihkaignaaW.PrintWords Go.Proofs.YtmhngpihkaignaaW.PrintLast Go.Proofs.YtmhngpihkaignaaW.PrintMore Go.Proofs.Ytmhngpihkaignaa.IoText Go.Proofs.Ytmhngpihkaignaa.IoPure Go.Proofs.Ytmhngpihkaignaa.IoAnswer Go.Proofs.Ytmhngpihkaignaa.IoTime Go.Proofs.Ytmhngpihkaignaa.IoLaw Go.Proofs.Ytmhngpihkaignaa.IoBentP
attribute [local go_sem] max2_int min2_int max_two min_two max_three min_three max_four min_four
set_option linter.unusedVariables false
set_option linter.unusedSimpArgs false

theorem bytesOf_str {l : List Int} (h : okB l) : bytesOf (strOfNums l) = l := by
  unfold bytesOf strOfNums
  rw [List.toList_toArray, List.map_map]
  conv => rhs; rw [← List.map_id l]
  apply List.map_congr_left
  intro x hx
  have := h x hx
  simp only [Function.comp_apply, id]
  simp
  omega

theorem bytes_thawed (W : World) (s : ByteArray) (j : Nat) (hj : j < s.size) : (Lib.bytesWorld W 5 s).frozen? ⟨W.heap.size, j, none⟩ = false := by
  have hs : s.size ≤ (Lib.bytesCells W 5 s).size := by simp [Lib.bytesCells]
  simp [World.frozen?, Lib.bytesWorld_at_new]
  omega

theorem str_take (a : List Int) (n : Nat) : (strOfNums a).extract 0 n = strOfNums (a.take n) := by
  apply ByteArray.ext
  apply Array.toList_inj.mp
  rw [Lib.extract_data]
  simp only [strOfNums, List.map_take]
  simp

/-- A byte of a row is written. -/
theorem reads_put {W : World} {G n : Nat} {xs : List Int} (h : ReadsInt W .u8 (some ⟨G, 0, none⟩) n xs) (k : Nat) (hk : k < n) (c : Int) : ReadsInt (W.setCell ⟨G, k, none⟩ (.int .u8 c)) .u8 (some ⟨G, 0, none⟩) n (xs.set k c) := by
  obtain ⟨h1, h2, h3⟩ := h
  refine ⟨by rw [List.length_set]; exact h1, h2, fun hp => ?_⟩
  obtain ⟨ad, e, hc⟩ := h3 hp
  obtain rfl := Option.some.inj e
  refine ⟨_, rfl, fun j hj => ?_⟩
  have ea : ∀ i : Nat, (Addr.add ⟨G, 0, none⟩ i) = ⟨G, i, none⟩ := by
    intro i
    unfold Addr.add
    by_cases h0 : i = 0 <;> simp [h0]
  rw [ea]
  by_cases hjk : k = j
  · subst hjk
    have := hc k hj
    rw [ea] at this
    rw [World.cell?_setCell_same (h := this)]
    have hkl : k < xs.length := by omega
    simp [List.getD_eq_getElem?_getD, List.getElem?_set, hkl]
  · rw [World.cell?_setCell_other (h := (by intro e; apply hjk; injection e))]
    have := hc j hj
    rw [ea] at this
    rw [this]
    simp [List.getD_eq_getElem?_getD, List.getElem?_set, hjk]

set_option maxHeartbeats 4000000 in
set_option maxRecDepth 100000 in
theorem lawB (n0 n1 n2 n3 n4 n5 n6 n7 zn off : Int) (day : Bool) (at' le : Int) (w : World)
    (a0 : 0 ≤ n0) (b0 : n0 ≤ 65535) (a1 : 0 ≤ n1) (b1 : n1 ≤ 65535) (a2 : 0 ≤ n2) (b2 : n2 ≤ 65535) (a3 : 0 ≤ n3) (b3 : n3 ≤ 65535) (a4 : 0 ≤ n4) (b4 : n4 ≤ 65535) (a5 : 0 ≤ n5) (b5 : n5 ≤ 65535) (a6 : 0 ≤ n6) (b6 : n6 ≤ 65535) (a7 : 0 ≤ n7) (b7 : n7 ≤ 65535)
    (az : 0 ≤ zn) (bz : zn ≤ 255) (ao : -32768 ≤ off) (bo : off ≤ 32767) (aa : 0 ≤ at') (ba : at' ≤ 255) (al : 0 ≤ le) (bl' : le ≤ 255) :
    Calls Try.prog 10 #[.agg #[.int .u16 n0, .int .u16 n1, .int .u16 n2, .int .u16 n3, .int .u16 n4, .int .u16 n5, .int .u16 n6, .int .u16 n7], .int .u8 zn, .int .i16 off, .bool day, .int .u8 at', .int .u8 le] w fun e w' => e = .returned (.bool true) ∧ Below w.heap.size w w' := by
  go_enter Try.func10, Try.ntmps10
  go_wp2_with fail
  go_at_call 33
  (with_reducible refine (made n0 n1 n2 n3 n4 n5 n6 n7 zn off day _ a0 b0 a1 b1 a2 b2 a3 b3 a4 b4 a5 b5 a6 b6 a7 b7 az bz ao bo).mono ?_)
  rintro e w' ⟨⟨Y, M, D, h, m, s, bl, tm, dg, pt, z, o, rfl, ⟨Y0, Y1⟩, ⟨M0, M1⟩, ⟨D0, D1⟩, ⟨h0, h1⟩, ⟨m0, m1⟩, ⟨s0, s1⟩, ⟨g0, g1⟩, ⟨p0, p1⟩, ⟨z0, z1⟩, o0, o1⟩, hb⟩
  have HB : Aside0 (Below w.heap.size w w') := Aside0.mk (below_then (below_alloc (Below.refl _ w) _) (by simp) hb)
  clear hb
  obtain ⟨dl, hl, hdl, hT⟩ := text_is Y M D h m s bl tm dg pt z o (by omega) (by omega) (by omega) (by omega) (by omega) (by omega) h0 (by omega) m0 (by omega) s0 (by omega) g0 g1 p0 (by omega) (by omega) (by omega) z0 z1
  have hL := len_text Y M D h m s bl tm z o dl (by omega)
  have hok := ok_text Y M D h m s bl tm z o hdl
  have hbent := bent Y M D h m s bl tm z o dl hdl (by omega)
  have hcut := cutt Y M D h m s bl tm z o dl hdl
  have hgood := c35 _ _ _ (fun w => answer Y M D h m s bl tm dg z o dl hl hdl g1 z0 z1 62 w)
  rw [told_all] at hgood
  obtain ⟨L, hLe⟩ : ∃ L : List Int, (date Y M D ++ if tm = true then [if bl = true then 32 else 84] ++ clock h m s ++ frac dl ++ zone z o else []) = L := ⟨_, rfl⟩
  rw [hLe] at hT hL hok hbent hcut hgood
  clear hLe
  have L10 : 10 ≤ L.length := hL.1
  have L100 : L.length ≤ 100 := hL.2.1
  clear hL hl hdl
  have hT := Aside0.mk hT
  have hbent := Aside0.mk hbent
  have hcut := Aside0.mk hcut
  have hgood := Aside0.mk hgood
  have hok := Aside0.mk hok
  go_wp2_with fail
  refine (spec_IOText.calls 40 Y M D h m s bl tm dg pt z o (strOfNums L) _ hT.out).mono ?_
  rintro e w2 ⟨rfl, hb⟩
  have HB2 : Aside0 (Below w.heap.size w w2) := Aside0.mk (below_then (below_alloc HB.out _) (by have := HB.out.size; simp; omega) hb)
  clear HB hb
  have HB := HB2
  clear HB2
  have hsz : (strOfNums L).size = L.length := strOfNums_size L
  have kb := fun W => print_bytes (P := Try.prog) 9 31 5 Try.underlying9 Try.underlying31 Try.underlying5 (strOfNums L) W
  have RD : Aside0 (ReadsInt (Lib.bytesWorld w2 5 (strOfNums L)) .u8 (some ⟨w2.heap.size, 0, none⟩) (strOfNums L).size L) := by
    have := bytes_reads w2 5 (strOfNums L) (by omega)
    rw [bytesOf_str hok.out] at this
    exact Aside0.mk this
  have FZ : Aside0 (∀ j, j < L.length → (Lib.bytesWorld w2 5 (strOfNums L)).frozen? ⟨w2.heap.size, j, none⟩ = false) := Aside0.mk (fun j hj => bytes_thawed w2 _ j (by omega))
  have wG : w.heap.size ≤ w2.heap.size := HB.out.size
  have HB3 : Aside0 (Below w.heap.size w (Lib.bytesWorld w2 5 (strOfNums L))) := Aside0.mk (bytes_below HB.out HB.out.size 5 _)
  clear HB
  have HB := HB3
  clear HB3
  go_upto_region 4 with fail
  rw [hsz] at RD
  try simp only [hsz]
  obtain ⟨C, hC⟩ : ∃ C : Nat, grownCap w2 L.length 0 5 = C := ⟨_, rfl⟩
  try simp only [hC]
  clear hC kb
  obtain ⟨G, hG⟩ : ∃ G : Nat, w2.heap.size = G := ⟨_, rfl⟩
  rw [hG] at RD wG FZ
  try simp only [hG]
  clear hG
  obtain ⟨W, hW⟩ : ∃ W : World, Lib.bytesWorld w2 5 (strOfNums L) = W := ⟨_, rfl⟩
  rw [hW] at RD HB FZ ⊢
  clear hW
  -- the place
  obtain ⟨m9, hm9⟩ : ∃ x : Int, (if 19 < (L.length : Int) then (19 : Int) else (L.length : Int)) = x := ⟨_, rfl⟩
  have hm10 : 10 ≤ m9 := by rw [← hm9]; split <;> omega
  have hm19 : m9 ≤ 19 ∧ m9 ≤ L.length := by rw [← hm9]; split <;> omega
  have hmod : at'.tmod m9 = at' % m9 := Int.tmod_eq_emod_of_nonneg aa
  have hk0 : 0 ≤ at' % m9 := Int.emod_nonneg _ (by omega)
  have hk1 : at' % m9 < m9 := Int.emod_lt_of_pos _ (by omega)
  go_upto_region 5 with fail
  try simp only [hm9]
  obtain ⟨kn, hkn⟩ : ∃ kn : Nat, at' % m9 = (kn : Int) := ⟨(at' % m9).toNat, by omega⟩
  rw [hkn] at hk1
  try simp only [hkn]
  have k19 : kn < 19 := by omega
  have kL : kn < L.length := by omega
  clear hmod hk0 hk1 hkn hm9 hm10 hm19
  -- the letter
  obtain ⟨c, hc⟩ : ∃ c : Int, 97 + le % 25 = c := ⟨_, rfl⟩
  have hl0 : 0 ≤ le % 25 := by omega
  have hl1 : le % 25 < 25 := by omega
  have hlt : le.tmod 25 = le % 25 := Int.tmod_eq_emod_of_nonneg al
  have c0 : 97 ≤ c := by omega
  have c1 : c ≤ 121 := by omega
  have hcell : W.cell? ⟨G, kn, none⟩ = some (.int .u8 (L.getD kn 0)) := by
    have := RD.out.2.2 (by omega)
    obtain ⟨ad, e, hh⟩ := this
    obtain rfl := Option.some.inj e
    have := hh kn kL
    rw [← this]
    unfold Addr.add
    by_cases h0 : kn = 0 <;> simp [h0]
  have hfz := FZ.out kn kL
  subst hc
  have R1 : Aside0 (ReadsInt (W.setCell ⟨G, kn, none⟩ (.int .u8 (97 + le % 25))) .u8 (some ⟨G, 0, none⟩) L.length (L.set kn (97 + le % 25))) := Aside0.mk (reads_put RD.out kn kL (97 + le % 25))
  have R2 : Aside0 (ReadsInt ((W.setCell ⟨G, kn, none⟩ (.int .u8 (97 + le % 25))).setCell ⟨G, kn, none⟩ (.int .u8 98)) .u8 (some ⟨G, 0, none⟩) L.length (L.set kn 98)) := by
    have := reads_put R1.out kn kL 98
    rw [List.set_set] at this
    exact Aside0.mk this
  have HBa : Aside0 (Below w.heap.size w (W.setCell ⟨G, kn, none⟩ (.int .u8 (97 + le % 25)))) := Aside0.mk (below_set HB.out wG)
  have HBb : Aside0 (Below w.heap.size w ((W.setCell ⟨G, kn, none⟩ (.int .u8 (97 + le % 25))).setCell ⟨G, kn, none⟩ (.int .u8 98))) := Aside0.mk (below_set HBa.out wG)
  by_cases h116 : (97 + le % 25) = 116
  · have hcb : ((97 + le % 25) == 116) = true := by simpa using h116
    clear h116
    go_upto_region 8 with fail
    have ks := string_of_reads (P := Try.prog) (c := C) Try.underlying31 Try.underlying5 Try.underlying9 R2.out
    have tB : Aside0 (IoLaw.Told (strOfNums (L.set kn 98)) 62 false) := Aside0.mk (c35 _ _ _ (hbent.out kn k19 kL 98 (by omega) (by omega)))
    have hm10 : (kn : Int).tmod 10 = ((kn % 10 : Nat) : Int) := by rw [Int.tmod_eq_emod_of_nonneg (by omega)]; omega
    have k10 : kn % 10 < 10 := Nat.mod_lt _ (by omega)
    have tC : Aside0 (IoLaw.Told (strOfNums (L.take (kn % 10))) 62 false) := Aside0.mk (c35 _ _ _ (hcut.out _ k10))
    obtain ⟨j, hj⟩ : ∃ j : Nat, kn % 10 = j := ⟨_, rfl⟩
    rw [hj] at hm10 k10 tC
    clear hj
    go_wp2_with fail
    refine (told_at tB.out _).mono ?_
    rintro e w3 ⟨rfl, hb⟩
    have HB3 : Aside0 (Below w.heap.size w w3) := Aside0.mk (below_then HBb.out HBb.out.size hb)
    clear hb
    have hex : (strOfNums L).extract 0 j = strOfNums (L.take j) := str_take L j
    have jL : (j : Int) ≤ (strOfNums L).size := by omega
    go_wp2_with fail
    refine (told_at tC.out _).mono ?_
    rintro e w4 ⟨rfl, hb⟩
    have HB4 : Aside0 (Below w.heap.size w w4) := Aside0.mk (below_then HB3.out HB3.out.size hb)
    clear hb
    go_wp2_with fail
    refine (told_at hgood.out _).mono ?_
    rintro e w5 ⟨rfl, hb⟩
    have HB5 : Aside0 (Below w.heap.size w w5) := Aside0.mk (below_then HB4.out HB4.out.size hb)
    clear hb
    go_wp2_with fail
    go_ret
    exact ⟨by first | rfl | (simp [Act.put]), HB5.out⟩
  · have hcb : ((97 + le % 25) == 116) = false := by simpa using h116
    clear h116
    go_upto_region 8 with fail
    have ks := string_of_reads (P := Try.prog) (c := C) Try.underlying31 Try.underlying5 Try.underlying9 R1.out
    have tB : Aside0 (IoLaw.Told (strOfNums (L.set kn (97 + le % 25))) 62 false) := Aside0.mk (c35 _ _ _ (hbent.out kn k19 kL (97 + le % 25) c0 c1))
    have hm10 : (kn : Int).tmod 10 = ((kn % 10 : Nat) : Int) := by rw [Int.tmod_eq_emod_of_nonneg (by omega)]; omega
    have k10 : kn % 10 < 10 := Nat.mod_lt _ (by omega)
    have tC : Aside0 (IoLaw.Told (strOfNums (L.take (kn % 10))) 62 false) := Aside0.mk (c35 _ _ _ (hcut.out _ k10))
    obtain ⟨j, hj⟩ : ∃ j : Nat, kn % 10 = j := ⟨_, rfl⟩
    rw [hj] at hm10 k10 tC
    clear hj
    go_wp2_with fail
    refine (told_at tB.out _).mono ?_
    rintro e w3 ⟨rfl, hb⟩
    have HB3 : Aside0 (Below w.heap.size w w3) := Aside0.mk (below_then HBa.out HBa.out.size hb)
    clear hb
    have hex : (strOfNums L).extract 0 j = strOfNums (L.take j) := str_take L j
    have jL : (j : Int) ≤ (strOfNums L).size := by omega
    go_wp2_with fail
    refine (told_at tC.out _).mono ?_
    rintro e w4 ⟨rfl, hb⟩
    have HB4 : Aside0 (Below w.heap.size w w4) := Aside0.mk (below_then HB3.out HB3.out.size hb)
    clear hb
    go_wp2_with fail
    refine (told_at hgood.out _).mono ?_
    rintro e w5 ⟨rfl, hb⟩
    have HB5 : Aside0 (Below w.heap.size w w5) := Aside0.mk (below_then HB4.out HB4.out.size hb)
    clear hb
    go_wp2_with fail
    go_ret
    exact ⟨by first | rfl | (simp [Act.put]), HB5.out⟩
end Go.Proofs.Ytmhngpihkaignaa.IoBent
