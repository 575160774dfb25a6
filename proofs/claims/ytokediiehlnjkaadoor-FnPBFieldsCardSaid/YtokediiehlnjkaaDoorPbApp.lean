/- The writers of fields append a field's wire form to a message: the tag, the length where there is one, and the value's bytes; for every number, wire type and value of the kinds named, and every message. -/
import Derived.Test.YtokediiehlnjkaaDoorPbApp2
import Derived.StillTailTactics
import Derived.Deep.RegionHeld3
import Derived.BigQuiet
import Derived.Below
import Derived.Lib.Hide
import Derived.Deep.RegionWith
import Derived.Deep.DeepCutAuto
namespace Go.Proofs.YtokediiehlnjkaaDoor.Pb
open Go.RowKit Go.Proofs.YtokediiehlnjkaaDoorW.PrintWords Go.Proofs.YtokediiehlnjkaaDoorW.PrintLast Go.Proofs.YtokediiehlnjkaaDoorW.PrintMore Go.Proofs.YtokediiehlnjkaaDoor.PFnPBAppends
set_option linter.unusedVariables false
set_option linter.unusedSimpArgs false

/-- A block of bytes read from its first one on. -/
theorem blk_C {W : World} {G T n : Nat} {l : List Int} (hb : W.heap[G]? = some (.cells (l.map (Value.int .u8)).toArray T (0, 0))) (hn : n ≤ l.length) (hm : l.length < 1000) : (Kd.int .u8).C W (some ⟨G, 0, none⟩) n (l.take n) := by
  refine Kd.C_of_reads (d := 0) ⟨by simp; omega, by omega, fun _ => ⟨_, rfl, fun j hj => ?_⟩⟩
  rw [add_plain]
  unfold World.cell?
  rw [hb]
  simp [List.getD, hj, show j < l.length by omega]


/-- A whole array of bytes is stored over a block of as many. -/
theorem store_all {P : Program} {ops : Array Oper} {rest : List Oper} {o : Oper} {a : Act} {Q : Exit → Act → World → Prop} {W : World} (t : TypeId) (p v : Operand) (ho : o.op = .store t p v) (hN : o.dst = none) (hgd : o.guard = none)
    {G T : Nat} {cur : Array Value} (l : List Int) (hb : W.heap[G]? = some (.cells cur T (0, 0))) (hp : a.eval p = .pointer (some ⟨G, 0, none⟩)) (hi : l.length = cur.size) (hu : a.eval v = .agg (l.map (Value.int .u8)).toArray) (ht : (P.info? t).map (·.size) = some l.length)
    (h : ∀ W1, W1.heap[G]? = some (.cells (l.map (Value.int .u8)).toArray T (0, 0)) → KeepBut W W1 G none → Below G W W1 → wpList P ops Q rest a W1) :
    wpList P ops Q (o :: rest) a W := by
  refine wpList_plain hgd fun K hK => ?_
  unfold Oper.wp execOp
  have hc : (Value.agg (l.map (Value.int .u8)).toArray).cells.toList = l.map (Value.int .u8) := by simp [Value.cells]
  have hrun := run_store_run (P := P) (w := W) t (.agg (l.map (Value.int .u8)).toArray) (l.map (Value.int .u8)) hb hc (by simpa using ht) (o := 0) (by simp; omega) (by intro q hq; obtain ⟨x, _, rfl⟩ := List.mem_map.1 hq; rfl)
  simp only [ho, Sem.run_bind, Sem.run_pure, Result.andThen_ok, hp, hu, hrun]
  refine hK _ _ ?_
  rw [hN]
  obtain ⟨cur', h1, h2, h3⟩ := setCells_row (g := G) (l.map (Value.int .u8)) 0 W cur hb (by simp; omega)
  obtain ⟨s1, s2, s3, s4⟩ := setCells_same G (l.map (Value.int .u8)) 0 W
  have e : cur' = (l.map (Value.int .u8)).toArray := by
    refine Array.toList_inj.1 ?_
    rw [h3]
    simp
    omega
  refine h (W.setCells G 0 (l.map (Value.int .u8))) (e ▸ h1) ⟨by omega, fun i _ hi _ => setCells_far _ _ i hi⟩ ⟨s1, s2, s3, by omega, fun i hi => setCells_far _ _ i (by omega)⟩

/-- The first n bytes of an array that a pointer points to, as a slice; the rest of it behind place n. -/
theorem slice_first (T N : Nat) (ht : Tryd.prog.underlying T = some (.array (Tryd.prog.arrayLen T) (Tryd.prog.elem T))) (hN : Tryd.prog.arrayLen T = N) (hs : (Tryd.prog.info? (Tryd.prog.elem T)).map (·.size) = some 1) (G n : Nat) (hn : n ≤ N) (w : World) :
    Sem.run Tryd.prog (Instr.sliceAt T (.pointer (some ⟨G, 0, none⟩)) none (some (.int .i64 (n : Int))) none) w = .ok (.slice (some ⟨G, 0, none⟩) n N) w := by
  obtain ⟨i, hi, hz⟩ := Option.map_eq_some_iff.1 hs
  rw [run_sliceAt_array_h w T ⟨G, 0, none⟩ ht .i64 (n : Int) (by omega) (by rw [hN]; omega)]
  simp [sizeOf, typeInfo, hi, hz, slicedAt, hN]
  intro h
  simp [Addr.add]
theorem slice_rest (T N : Nat) (ht : Tryd.prog.underlying T = some (.array (Tryd.prog.arrayLen T) (Tryd.prog.elem T))) (hN : Tryd.prog.arrayLen T = N) (hs : (Tryd.prog.info? (Tryd.prog.elem T)).map (·.size) = some 1) (G n : Nat) (hn : n < N) (w : World) :
    Sem.run Tryd.prog (Instr.sliceAt T (.pointer (some ⟨G, 0, none⟩)) (some (.int .i64 (n : Int))) none none) w = .ok (.slice (some ⟨G, n, none⟩) (N - n) (N - n)) w := by
  obtain ⟨i, hi, hz⟩ := Option.map_eq_some_iff.1 hs
  rw [run_sliceAt_array_l w T ⟨G, 0, none⟩ ht .i64 (n : Int) (by omega) (by rw [hN]; omega)]
  simp [sizeOf, typeInfo, hi, hz, slicedAt, hN]
  rw [if_neg (by omega)]
  simp [Addr.add]
  try (intro h; omega)

set_option maxHeartbeats 4000000 in
set_option maxRecDepth 100000 in
theorem etag (f t T : Int) (h : proto_EncodeTag.f f t = some T) (w : World) : Calls Tryd.prog 35 #[.int .u64 f, .int .u64 t] w fun e w' => e = .returned (.int .u64 T) ∧ w' = w := by
  obtain rfl := Option.some.inj h
  go_enter Tryd.func35, Tryd.ntmps35
  go_wp2
  go_ret
  exact ⟨rfl, rfl⟩

set_option maxHeartbeats 4000000 in
set_option maxRecDepth 100000 in
theorem append_calls (w : World) (B : Nat) (mv : Value) (xs ys : List Int) (f t : Int) (A : Option Addr) (c : Nat) (hB : B ≤ w.heap.size)
    (hm : (Kd.int .u8).R 5 w B (fun _ => True) mv xs) (hy : Kd.F (Kd.int .u8) w (fun k => some k ≠ mv.ownBlock) A ys.length ys)
    (j1 : Nat) (hj1 : j1 < 10) (T : Int) (hT : Go.bits .or .u64 (IntKind.u64.wrap (f * 8)) t = T) (hT0 : 0 ≤ T) (hT1 : T < 18446744073709551616) (hTv : T < 128 ^ (j1 + 1)) (hTw : j1 = 0 ∨ (128 : Int) ^ j1 ≤ T) (ht : t ≠ 2)
    (hl : xs.length + ys.length < 100000000000) :
    Calls Tryd.prog 16 #[mv, .int .u64 f, .int .u64 t, .slice A ys.length c] w fun e w' => ∃ v1, e = .returned v1 ∧ (Kd.int .u8).R 5 w' B (fun _ => True) v1 (xs ++ vbytes j1 T ++ ys) ∧ Below B w w' := by
  have HM := Aside0.mk hm
  have HY := Aside0.mk hy
  have HT := Aside0.mk (show proto_EncodeTag.f f t = some T by rw [← hT]; rfl)
  obtain ⟨n1, hn1⟩ : ∃ n1, n1 = j1 + 1 := ⟨_, rfl⟩
  have hlen1 : (vbytes j1 T).length = n1 := by rw [vbytes_len, hn1]
  have HE0 := enc j1 hj1 T hT0 hT1 hTv hTw
  rw [← hn1] at HE0
  have HE := Aside0.mk HE0
  have hn10 : n1 ≤ 10 := by omega
  clear HE0 hn1
  have ht2 : (t == 2) = false := beq_eq_false_iff_ne.mpr ht
  clear hm hy hT hTv hTw hj1
  generalize vbytes j1 T = hd at *
  have HL := Aside0.mk hlen1
  clear hlen1
  go_enter Tryd.func16, Tryd.ntmps16
  have HK := Aside0.mk (KeepBut.refl w w.heap.size none)
  have HB := Aside0.mk (Below.refl w.heap.size w)
  go_upto_region 2 with (first | ((with_reducible refine gate_dst (N := 9) rfl ?_); refine box_event ?xhg (N := 9) ?xhd (cs := ((List.replicate 20 (0 : Int)).map (Value.int .u8)).toArray) (t := 70) ?xhr ?_; (case xhd => rfl); (case xhg => rfl); (case xhr => first | (go_simp; done) | (go_simp; rfl)); intro G hG W1 hb1 hg1; have BK := Aside0.mk hb1; have n3 := Aside0.mk (HB.out.trans hg1); have hGe : w.heap.size ≤ G := (by omega); clear HB hb1 hg1 hG; have HB := n3; clear n3) | ((with_reducible refine gate_st rfl ?_); refine store_all _ _ _ rfl rfl rfl (List.replicate 20 0) BK.out rfl rfl rfl (by kernel_rfl) ?_; intro W1 hb1 hk1 hg1; have n1 := Aside0.mk hb1; have n3 := Aside0.mk (HB.out.trans (hg1.mono hGe)); clear BK HB hb1 hk1 hg1; have BK := n1; have HB := n3; clear n1 n3))
  clear HK
  go_region_with (first | (go_at_call 35; (with_reducible refine (etag f t T HT.out _).mono ?_); rintro e w1 ⟨rfl, rfl⟩) | (go_at_call 32; go_loud (have BK2 := blk_drew BK.out; have hz20 : 0 + 20 ≤ (List.replicate 20 (0 : Int)).length := (by simp); go_loud (with_reducible refine (HE.out G 70 0 20 20 (List.replicate 20 0) _ BK2 hz20 (by decide) (by decide)).mono ?_); rintro e w2 ⟨rfl, hb, hk, hg⟩; have n1 := Aside0.mk hb; have n3 := Aside0.mk (HB.out.drew.trans (hg.mono hGe)); clear BK HB hb hk hg; have BK := n1; have HB := n3; clear n1 n3)))
  clear HE HT
  go_upto_region 6 with fail
  have HC := Aside0.mk (show (Kd.int .u8).C w2 (some ⟨G, 0, none⟩) n1 hd by
    have h := blk_C (n := n1) BK.out (by simp [HL.out]) (by simp [HL.out]; omega)
    rw [List.take_zero, List.nil_append, List.take_append_of_le_length (by rw [HL.out]; exact Nat.le_refl _), ← HL.out, List.take_length, HL.out] at h
    exact h)
  have HM1 := Aside0.mk (Kd.R_below HM.out HB.out)
  have HF := Aside0.mk (Kd.F_below HY.out HB.out)
  have hs1 := HB.out.size
  have HB1 := Aside0.mk (HB.out.mono hB)
  have hsl := slice_first 70 20 (by kernel_rfl) (by kernel_rfl) (by kernel_rfl) G n1 (by omega)
  clear HM HY HB BK BK2
  go_wp2_with (first | ((with_reducible refine gate_builtin (b := .append) (xs := #[.tmp 37, .tmp 39]) rfl ?_); at_builtin; refine append_rows2 (Kd.int .u8) (w0 := w) B rfl (.tmp 37) (.tmp 39) 37 22 5 5 (.int .u8 0) 1 rfl Tryd.underlying37 Tryd.underlying22 info5 rfl (by decide) (by decide) mv xs hd (some ⟨G, 0, none⟩) n1 20 (fun _ => True) (fun _ => False) rfl rfl HM1.out HC.out (fun _ _ h => h) (fun _ h => h.elim) (fun _ _ => trivial) HB1.out (by omega) (by omega) ?_; intro v1 w3 ho hb hg hat; have HO := Aside0.mk ho; have HB2 := Aside0.mk hb; have HF2 := Aside0.mk (Kd.F_grown HF.out hg (fun k hk => hk)); have HS := Aside0.mk hg.size; clear ho hb hg hat) | ((with_reducible refine gate_builtin (b := .append) (xs := #[.tmp 41, .tmp 42]) rfl ?_); at_builtin; refine append_rows2 (Kd.int .u8) (w0 := w) B rfl (.tmp 41) (.tmp 42) 37 22 5 5 (.int .u8 0) 1 rfl Tryd.underlying37 Tryd.underlying22 info5 rfl (by decide) (by decide) v1 (xs ++ hd) ys A ys.length c (fun _ => True) (fun _ => False) rfl rfl HO.out (Kd.F_now HF2.out) (fun _ _ h => h) (fun _ h => h.elim) (fun _ _ => trivial) HB2.out (by have := HS.out; omega) (by have := HL.out; simp; omega) ?_; intro v2 w4 ho hb hg hat; have HO3 := Aside0.mk ho; have HB3 := Aside0.mk hb; clear ho hb hg hat))
  go_ret
  exact ⟨_, rfl, HO3.out, HB3.out⟩

set_option maxHeartbeats 4000000 in
set_option maxRecDepth 100000 in
theorem appendv_calls (w : World) (B : Nat) (mv : Value) (xs ys : List Int) (f : Int) (A : Option Addr) (c : Nat) (hB : B ≤ w.heap.size)
    (hm : (Kd.int .u8).R 5 w B (fun _ => True) mv xs) (hy : Kd.F (Kd.int .u8) w (fun k => some k ≠ mv.ownBlock) A ys.length ys)
    (j1 : Nat) (hj1 : j1 < 10) (T : Int) (hT : Go.bits .or .u64 (IntKind.u64.wrap (f * 8)) 2 = T) (hT0 : 0 ≤ T) (hT1 : T < 18446744073709551616) (hTv : T < 128 ^ (j1 + 1)) (hTw : j1 = 0 ∨ (128 : Int) ^ j1 ≤ T) (j2 : Nat) (hj2 : j2 < 10) (hUv : (ys.length : Int) < 128 ^ (j2 + 1)) (hUw : j2 = 0 ∨ (128 : Int) ^ j2 ≤ (ys.length : Int))
    (hl : xs.length + ys.length < 100000000000) :
    Calls Tryd.prog 16 #[mv, .int .u64 f, .int .u64 2, .slice A ys.length c] w fun e w' => ∃ v1, e = .returned v1 ∧ (Kd.int .u8).R 5 w' B (fun _ => True) v1 (xs ++ (vbytes j1 T ++ vbytes j2 ys.length) ++ ys) ∧ Below B w w' := by
  have HM := Aside0.mk hm
  have HY := Aside0.mk hy
  have HT := Aside0.mk (show proto_EncodeTag.f f 2 = some T by rw [← hT]; rfl)
  obtain ⟨n1, hn1⟩ : ∃ n1, n1 = j1 + 1 := ⟨_, rfl⟩
  have hlen1 : (vbytes j1 T).length = n1 := by rw [vbytes_len, hn1]
  have HE0 := enc j1 hj1 T hT0 hT1 hTv hTw
  rw [← hn1] at HE0
  have HE := Aside0.mk HE0
  have hn10 : n1 ≤ 10 := by omega
  clear HE0 hn1
  obtain ⟨n2, hn2⟩ : ∃ n2, n2 = j2 + 1 := ⟨_, rfl⟩
  have hlen2 : (vbytes j2 ys.length).length = n2 := by rw [vbytes_len, hn2]
  have HE0 := enc j2 hj2 (ys.length : Int) (by omega) (by omega) hUv hUw
  rw [← hn2] at HE0
  have HU := Aside0.mk HE0
  have hn20 : n2 ≤ 10 := by omega
  clear HE0 hn2
  clear hm hy hT hTv hTw hj1 hUv hUw hj2
  generalize vbytes j1 T = hd at *
  have HL := Aside0.mk hlen1
  clear hlen1
  generalize vbytes j2 ys.length = hd2 at *
  have HL2 := Aside0.mk hlen2
  clear hlen2
  go_enter Tryd.func16, Tryd.ntmps16
  have HK := Aside0.mk (KeepBut.refl w w.heap.size none)
  have HB := Aside0.mk (Below.refl w.heap.size w)
  go_upto_region 2 with (first | ((with_reducible refine gate_dst (N := 9) rfl ?_); refine box_event ?xhg (N := 9) ?xhd (cs := ((List.replicate 20 (0 : Int)).map (Value.int .u8)).toArray) (t := 70) ?xhr ?_; (case xhd => rfl); (case xhg => rfl); (case xhr => first | (go_simp; done) | (go_simp; rfl)); intro G hG W1 hb1 hg1; have BK := Aside0.mk hb1; have n3 := Aside0.mk (HB.out.trans hg1); have hGe : w.heap.size ≤ G := (by omega); clear HB hb1 hg1 hG; have HB := n3; clear n3) | ((with_reducible refine gate_st rfl ?_); refine store_all _ _ _ rfl rfl rfl (List.replicate 20 0) BK.out rfl rfl rfl (by kernel_rfl) ?_; intro W1 hb1 hk1 hg1; have n1 := Aside0.mk hb1; have n3 := Aside0.mk (HB.out.trans (hg1.mono hGe)); clear BK HB hb1 hk1 hg1; have BK := n1; have HB := n3; clear n1 n3))
  clear HK
  go_region_with (first | (go_at_call 35; (with_reducible refine (etag f 2 T HT.out _).mono ?_); rintro e w1 ⟨rfl, rfl⟩) | (go_at_call 32; go_loud (have BK2 := blk_drew BK.out; have hz20 : 0 + 20 ≤ (List.replicate 20 (0 : Int)).length := (by simp); go_loud (with_reducible refine (HE.out G 70 0 20 20 (List.replicate 20 0) _ BK2 hz20 (by decide) (by decide)).mono ?_); rintro e w2 ⟨rfl, hb, hk, hg⟩; have n1 := Aside0.mk hb; have n3 := Aside0.mk (HB.out.drew.trans (hg.mono hGe)); clear BK HB hb hk hg; have BK := n1; have HB := n3; clear n1 n3)))
  clear HE HT
  have hsr := slice_rest 70 20 (by kernel_rfl) (by kernel_rfl) (by kernel_rfl) G n1 (by omega)
  have hw1 : wrap64 ((n1 : Int) + (n2 : Int)) = ((n1 + n2 : Nat) : Int) := by unfold wrap64; omega
  go_upto_region 6 with (go_at_call 32; have hz21 : n1 + (20 - n1) ≤ (List.take 0 (List.replicate 20 (0 : Int)) ++ hd ++ List.drop (0 + n1) (List.replicate 20 0)).length := (by have := HL.out; simp; omega); have hz22 : 10 ≤ 20 - n1 := (by omega); have hz23 : 20 - n1 < 1000 := (by omega); (with_reducible refine (HU.out G 70 n1 (20 - n1) (20 - n1) _ _ BK.out hz21 hz22 hz23).mono ?_); rintro e w3 ⟨rfl, hb, hk, hg⟩; have n1_ := Aside0.mk hb; have n3_ := Aside0.mk (HB.out.trans (hg.mono hGe)); clear BK HB hb hk hg; have BK := n1_; have HB := n3_; clear n1_ n3_)
  have HC := Aside0.mk (show (Kd.int .u8).C w3 (some ⟨G, 0, none⟩) (n1 + n2) (hd ++ hd2) by
    have e1 : (List.take 0 (List.replicate 20 (0 : Int)) ++ hd ++ List.drop (0 + n1) (List.replicate 20 0)).take n1 = hd := by
      rw [List.take_zero, List.nil_append, List.take_append_of_le_length (by rw [HL.out]; exact Nat.le_refl _), ← HL.out, List.take_length]
    have h := blk_C (n := n1 + n2) BK.out (by rw [e1]; simp [HL.out, HL2.out]) (by rw [e1]; simp [HL.out, HL2.out]; omega)
    rw [e1, List.take_append_of_le_length (by simp [HL.out, HL2.out]), List.take_of_length_le (by simp [HL.out, HL2.out])] at h
    exact h)
  have HM1 := Aside0.mk (Kd.R_below HM.out HB.out)
  have HF := Aside0.mk (Kd.F_below HY.out HB.out)
  have hs1 := HB.out.size
  have HB1 := Aside0.mk (HB.out.mono hB)
  have hsl := slice_first 70 20 (by kernel_rfl) (by kernel_rfl) (by kernel_rfl) G (n1 + n2) (by omega)
  rw [Int.natCast_add] at hsl
  clear HM HY HB BK hsr hw1
  go_wp2_with (first | ((with_reducible refine gate_builtin (b := .append) (xs := #[.tmp 37, .tmp 39]) rfl ?_); at_builtin; refine append_rows2 (Kd.int .u8) (w0 := w) B rfl (.tmp 37) (.tmp 39) 37 22 5 5 (.int .u8 0) 1 rfl Tryd.underlying37 Tryd.underlying22 info5 rfl (by decide) (by decide) mv xs (hd ++ hd2) (some ⟨G, 0, none⟩) (n1 + n2) 20 (fun _ => True) (fun _ => False) rfl rfl HM1.out HC.out (fun _ _ h => h) (fun _ h => h.elim) (fun _ _ => trivial) HB1.out (by omega) (by omega) ?_; intro v1 w4 ho hb hg hat; have HO := Aside0.mk ho; have HB2 := Aside0.mk hb; have HF2 := Aside0.mk (Kd.F_grown HF.out hg (fun k hk => hk)); have HS := Aside0.mk hg.size; clear ho hb hg hat) | ((with_reducible refine gate_builtin (b := .append) (xs := #[.tmp 41, .tmp 42]) rfl ?_); at_builtin; refine append_rows2 (Kd.int .u8) (w0 := w) B rfl (.tmp 41) (.tmp 42) 37 22 5 5 (.int .u8 0) 1 rfl Tryd.underlying37 Tryd.underlying22 info5 rfl (by decide) (by decide) v1 (xs ++ (hd ++ hd2)) ys A ys.length c (fun _ => True) (fun _ => False) rfl rfl HO.out (Kd.F_now HF2.out) (fun _ _ h => h) (fun _ h => h.elim) (fun _ _ => trivial) HB2.out (by have := HS.out; omega) (by have := HL.out; have := HL2.out; simp; omega) ?_; intro v2 w5 ho hb hg hat; have HO3 := Aside0.mk ho; have HB3 := Aside0.mk hb; clear ho hb hg hat))
  go_ret
  exact ⟨_, rfl, HO3.out, HB3.out⟩
end Go.Proofs.YtokediiehlnjkaaDoor.Pb
