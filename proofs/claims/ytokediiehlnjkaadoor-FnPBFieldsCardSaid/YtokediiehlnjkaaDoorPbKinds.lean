/- The writers of one kind of field each: varints, numbers of a fixed size, texts; for every number, value and message. -/
import Derived.Test.YtokediiehlnjkaaDoorPbApp
namespace Go.Proofs.YtokediiehlnjkaaDoor.Pb
open Go.RowKit Go.Proofs.YtokediiehlnjkaaDoorW.PrintWords Go.Proofs.YtokediiehlnjkaaDoorW.PrintLast Go.Proofs.YtokediiehlnjkaaDoorW.PrintMore Go.Proofs.YtokediiehlnjkaaDoor.PFnPBAppends
set_option linter.unusedVariables false
set_option linter.unusedSimpArgs false

/-- A block of bytes read from its first one on, whatever becomes of other blocks. -/
theorem blk_F {W : World} {G T n : Nat} {l : List Int} {ok : Nat → Prop} (hb : W.heap[G]? = some (.cells (l.map (Value.int .u8)).toArray T (0, 0))) (hn : n ≤ l.length) (hm : l.length < 1000) (hk : ok G) : Kd.F (Kd.int .u8) W ok (some ⟨G, 0, none⟩) n (l.take n) := by
  intro W' h
  exact blk_C ((h G hk (blk_lt hb)).trans hb) hn hm

set_option maxHeartbeats 4000000 in
set_option maxRecDepth 100000 in
theorem varint_calls (w : World) (B : Nat) (mv : Value) (xs : List Int) (f v : Int) (hB : B ≤ w.heap.size) (hm : (Kd.int .u8).R 5 w B (fun _ => True) mv xs)
    (j1 : Nat) (hj1 : j1 < 10) (T : Int) (hT : Go.bits .or .u64 (IntKind.u64.wrap (f * 8)) 0 = T) (hT0 : 0 ≤ T) (hT1 : T < 18446744073709551616) (hTv : T < 128 ^ (j1 + 1)) (hTw : j1 = 0 ∨ (128 : Int) ^ j1 ≤ T)
    (j0 : Nat) (hj0 : j0 < 10) (hv0 : 0 ≤ v) (hv1 : v < 18446744073709551616) (hvv : v < 128 ^ (j0 + 1)) (hvw : j0 = 0 ∨ (128 : Int) ^ j0 ≤ v) (hl : xs.length < 10000000000) :
    Calls Tryd.prog 12 #[mv, .int .u64 f, .int .u64 v] w fun e w' => ∃ v1, e = .returned v1 ∧ (Kd.int .u8).R 5 w' B (fun _ => True) v1 (xs ++ vbytes j1 T ++ vbytes j0 v) ∧ Below B w w' := by
  have HM := Aside0.mk hm
  have HA := Aside0.mk (fun W mv ys A c h0 h1 h2 h3 => append_calls W B mv xs ys f 0 A c h0 h1 h2 j1 hj1 T hT hT0 hT1 hTv hTw (by decide) h3)
  obtain ⟨n0, hn0⟩ : ∃ n0, n0 = j0 + 1 := ⟨_, rfl⟩
  have hlen0 : (vbytes j0 v).length = n0 := by rw [vbytes_len, hn0]
  have HE0 := enc j0 hj0 v hv0 hv1 hvv hvw
  rw [← hn0] at HE0
  have HE := Aside0.mk HE0
  have hn00 : n0 ≤ 10 := by omega
  clear HE0 hn0 hm hj1 hT hT0 hT1 hTv hTw hj0 hvv hvw
  generalize vbytes j0 v = hd at *
  have HL := Aside0.mk hlen0
  clear hlen0
  have HB := Aside0.mk (Below.refl w.heap.size w)
  go_enter Tryd.func12, Tryd.ntmps12
  go_upto_region 3 with (first | ((with_reducible refine gate_dst (N := 7) rfl ?_); refine box_event ?xhg (N := 7) ?xhd (cs := ((List.replicate 10 (0 : Int)).map (Value.int .u8)).toArray) (t := 59) ?xhr ?_; (case xhd => rfl); (case xhg => rfl); (case xhr => first | (go_simp; done) | (go_simp; rfl)); intro G hG W1 hb1 hg1; have BK := Aside0.mk hb1; have n3 := Aside0.mk (HB.out.trans hg1); have hGe : w.heap.size ≤ G := (by omega); clear HB hb1 hg1 hG; have HB := n3; clear n3) | ((with_reducible refine gate_st rfl ?_); refine store_all _ _ _ rfl rfl rfl (List.replicate 10 0) BK.out rfl rfl rfl (by kernel_rfl) ?_; intro W1 hb1 hk1 hg1; have n1 := Aside0.mk hb1; have n3 := Aside0.mk (HB.out.trans (hg1.mono hGe)); clear BK HB hb1 hk1 hg1; have BK := n1; have HB := n3; clear n1 n3) | (go_at_call 32; have hz20 : 0 + 10 ≤ (List.replicate 10 (0 : Int)).length := (by simp); (with_reducible refine (HE.out G 59 0 10 10 (List.replicate 10 0) _ BK.out hz20 (by decide) (by decide)).mono ?_); rintro e w2 ⟨rfl, hb, hk, hg⟩; have n1 := Aside0.mk hb; have n3 := Aside0.mk (HB.out.trans (hg.mono hGe)); clear BK HB hb hk hg; have BK := n1; have HB := n3; clear n1 n3))
  have HF := Aside0.mk (show Kd.F (Kd.int .u8) w2 (fun k => some k ≠ mv.ownBlock) (some ⟨G, 0, none⟩) hd.length hd by
    have h := blk_F (n := n0) (ok := fun k => some k ≠ mv.ownBlock) BK.out (by simp [HL.out]) (by simp [HL.out]; omega) (fun he => by have := Kd.R_lt HM.out G he.symm; omega)
    rw [List.take_zero, List.nil_append, List.take_append_of_le_length (by rw [HL.out]; exact Nat.le_refl _), ← HL.out, List.take_length] at h
    exact h)
  have HM1 := Aside0.mk (Kd.R_below HM.out HB.out)
  have hs1 := HB.out.size
  have hB1 : B ≤ w2.heap.size := by omega
  have hl1 : xs.length + hd.length < 100000000000 := by have := HL.out; omega
  have hsl := slice_first 59 10 (by kernel_rfl) (by kernel_rfl) (by kernel_rfl) G n0 hn00
  have hHD : hd.length = n0 := HL.out
  clear HE BK
  have HHD := Aside0.mk hHD
  rw [hHD] at hl1 HF
  have HA2 := Aside0.mk (HA.out w2 mv hd (some ⟨G, 0, none⟩) 10 hB1 HM1.out (by rw [hHD]; exact HF.out) (by rw [hHD]; exact hl1))
  rw [hHD] at HA2
  clear hHD HF HA
  go_wp2_with (go_at_call 16; (with_reducible refine HA2.out.mono ?_); rintro e w3 ⟨v1, rfl, ho, hb⟩; have HO := Aside0.mk ho; have HB3 := Aside0.mk ((HB.out.mono hB).trans hb); clear ho hb)
  go_ret
  exact ⟨_, rfl, HO.out, HB3.out⟩

/-- The k lowest bytes of a number, the lowest one first. -/
def lowbytes : Nat → Int → List Int
  | 0, _ => []
  | k + 1, v => v % 256 :: lowbytes k (v / 256)
theorem lowbytes_len : ∀ (k : Nat) (v : Int), (lowbytes k v).length = k
  | 0, _ => rfl
  | k + 1, v => by simp [lowbytes, lowbytes_len k]
theorem blk_cell_at {W : World} {G T : Nat} {l : List Int} (hb : W.heap[G]? = some (.cells (l.map (Value.int .u8)).toArray T (0, 0))) (i : Nat) (hi : i < l.length) : W.cell? ⟨G, i, none⟩ = some (.int .u8 (l.getD i 0)) := by
  unfold World.cell?
  rw [hb]
  simp [List.getD, hi]

set_option maxHeartbeats 4000000 in
set_option maxRecDepth 100000 in
theorem put64 (v : Int) (h0 : 0 ≤ v) (h1 : v < 18446744073709551616) (G T c : Nat) (l : List Int) (hl : l.length = 8) (w : World) (hb : w.heap[G]? = some (.cells (l.map (Value.int .u8)).toArray T (0, 0))) :
    Calls Tryd.prog 33 #[.agg #[], .slice (some ⟨G, 0, none⟩) 8 c, .int .u64 v] w fun e w' => e = .returned (.tuple #[]) ∧ w'.heap[G]? = some (.cells ((lowbytes 8 v).map (Value.int .u8)).toArray T (0, 0)) ∧ Below G w w' := by
  have hlt := blk_lt hb
  have BK := Aside0.mk hb
  have HG := Aside0.mk (Below.refl G w)
  have HL := Aside0.mk hl
  clear hb hl
  go_enter Tryd.func33, Tryd.ntmps33
  go_wp2_with (first | ((with_reducible refine gate_dst (N := 3) rfl ?_); refine box_event ?xhg (N := 3) ?xhd (cs := #[]) (t := 66) ?xhr ?_; (case xhd => rfl); (case xhg => rfl); (case xhr => first | (go_simp; done) | (go_simp; rfl)); intro G2 hG2 W1 hb1 hg1; have n1 := Aside0.mk (blk_below BK.out hg1); have n3 := Aside0.mk (HG.out.trans (hg1.mono (Nat.le_of_lt hlt))); clear BK HG hb1 hg1 hG2; have BK := n1; have HG := n3; clear n1 n3; have hc := blk_cell_at BK.out 7 (by rw [HL.out]; decide)) | ((with_reducible refine gate_st rfl ?_); refine store_blk _ _ _ rfl rfl rfl BK.out rfl (by (try simp only [List.length_set]); rw [HL.out]; decide) rfl (by kernel_rfl) ?_; intro W1 hb1 hk1 hg1; have n1 := Aside0.mk hb1; have n3 := Aside0.mk (HG.out.trans hg1); clear BK HG hb1 hk1 hg1; have BK := n1; have HG := n3; clear n1 n3))
  go_returns
  refine ⟨rfl, ?_, HG.out⟩
  refine BK.out.trans ?_
  have q2 : v / 256 / 256 = v / 65536 := by omega
  have q3 : v / 65536 / 256 = v / 16777216 := by omega
  have q4 : v / 16777216 / 256 = v / 4294967296 := by omega
  have q5 : v / 4294967296 / 256 = v / 1099511627776 := by omega
  have q6 : v / 1099511627776 / 256 = v / 281474976710656 := by omega
  have q7 : v / 281474976710656 / 256 = v / 72057594037927936 := by omega
  have hm : v / 72057594037927936 % 256 = v / 72057594037927936 := by omega
  have hx := HL.out
  match l, hx with
  | [x0, x1, x2, x3, x4, x5, x6, x7], _ => simp only [List.set, lowbytes, q2, q3, q4, q5, q6, q7, hm]

set_option maxHeartbeats 4000000 in
set_option maxRecDepth 100000 in
theorem put32 (v : Int) (h0 : 0 ≤ v) (h1 : v < 4294967296) (G T c : Nat) (l : List Int) (hl : l.length = 4) (w : World) (hb : w.heap[G]? = some (.cells (l.map (Value.int .u8)).toArray T (0, 0))) :
    Calls Tryd.prog 34 #[.agg #[], .slice (some ⟨G, 0, none⟩) 4 c, .int .u32 v] w fun e w' => e = .returned (.tuple #[]) ∧ w'.heap[G]? = some (.cells ((lowbytes 4 v).map (Value.int .u8)).toArray T (0, 0)) ∧ Below G w w' := by
  have hlt := blk_lt hb
  have BK := Aside0.mk hb
  have HG := Aside0.mk (Below.refl G w)
  have HL := Aside0.mk hl
  clear hb hl
  go_enter Tryd.func34, Tryd.ntmps34
  go_wp2_with (first | ((with_reducible refine gate_dst (N := 3) rfl ?_); refine box_event ?xhg (N := 3) ?xhd (cs := #[]) (t := 66) ?xhr ?_; (case xhd => rfl); (case xhg => rfl); (case xhr => first | (go_simp; done) | (go_simp; rfl)); intro G2 hG2 W1 hb1 hg1; have n1 := Aside0.mk (blk_below BK.out hg1); have n3 := Aside0.mk (HG.out.trans (hg1.mono (Nat.le_of_lt hlt))); clear BK HG hb1 hg1 hG2; have BK := n1; have HG := n3; clear n1 n3; have hc := blk_cell_at BK.out 3 (by rw [HL.out]; decide)) | ((with_reducible refine gate_st rfl ?_); refine store_blk _ _ _ rfl rfl rfl BK.out rfl (by (try simp only [List.length_set]); rw [HL.out]; decide) rfl (by kernel_rfl) ?_; intro W1 hb1 hk1 hg1; have n1 := Aside0.mk hb1; have n3 := Aside0.mk (HG.out.trans hg1); clear BK HG hb1 hk1 hg1; have BK := n1; have HG := n3; clear n1 n3))
  go_returns
  refine ⟨rfl, ?_, HG.out⟩
  refine BK.out.trans ?_
  have q2 : v / 256 / 256 = v / 65536 := by omega
  have q3 : v / 65536 / 256 = v / 16777216 := by omega
  have hm : v / 16777216 % 256 = v / 16777216 := by omega
  have hx := HL.out
  match l, hx with
  | [x0, x1, x2, x3], _ => simp only [List.set, lowbytes, q2, q3, hm]

set_option maxHeartbeats 4000000 in
set_option maxRecDepth 100000 in
theorem fixed64_calls (w : World) (B : Nat) (mv : Value) (xs : List Int) (f v : Int) (hB : B ≤ w.heap.size) (hm : (Kd.int .u8).R 5 w B (fun _ => True) mv xs)
    (j1 : Nat) (hj1 : j1 < 10) (T : Int) (hT : Go.bits .or .u64 (IntKind.u64.wrap (f * 8)) 1 = T) (hT0 : 0 ≤ T) (hT1 : T < 18446744073709551616) (hTv : T < 128 ^ (j1 + 1)) (hTw : j1 = 0 ∨ (128 : Int) ^ j1 ≤ T)
    (hv0 : 0 ≤ v) (hv1 : v < 18446744073709551616) (hl : xs.length < 10000000000) :
    Calls Tryd.prog 13 #[mv, .int .u64 f, .int .u64 v] w fun e w' => ∃ v1, e = .returned v1 ∧ (Kd.int .u8).R 5 w' B (fun _ => True) v1 (xs ++ vbytes j1 T ++ lowbytes 8 v) ∧ Below B w w' := by
  have HM := Aside0.mk hm
  have HA := Aside0.mk (fun W mv ys A c h0 h1 h2 h3 => append_calls W B mv xs ys f 1 A c h0 h1 h2 j1 hj1 T hT hT0 hT1 hTv hTw (by decide) h3)
  have HE := Aside0.mk (put64 v hv0 hv1)
  have hlen0 : (lowbytes 8 v).length = 8 := lowbytes_len _ _
  clear hm hj1 hT hT0 hT1 hTv hTw
  generalize lowbytes 8 v = hd at *
  have HL := Aside0.mk hlen0
  clear hlen0
  have HB := Aside0.mk (Below.refl w.heap.size w)
  go_enter Tryd.func13, Tryd.ntmps13
  go_upto_region 2 with (first | ((with_reducible refine gate_dst (N := 7) rfl ?_); refine box_event ?xhg (N := 7) ?xhd (cs := ((List.replicate 8 (0 : Int)).map (Value.int .u8)).toArray) (t := 64) ?xhr ?_; (case xhd => rfl); (case xhg => rfl); (case xhr => first | (go_simp; done) | (go_simp; rfl)); intro G hG W1 hb1 hg1; have BK := Aside0.mk hb1; have n3 := Aside0.mk (HB.out.trans hg1); have hGe : w.heap.size ≤ G := (by omega); clear HB hb1 hg1 hG; have HB := n3; clear n3) | ((with_reducible refine gate_st rfl ?_); refine store_all _ _ _ rfl rfl rfl (List.replicate 8 0) BK.out rfl rfl rfl (by kernel_rfl) ?_; intro W1 hb1 hk1 hg1; have n1 := Aside0.mk hb1; have n3 := Aside0.mk (HB.out.trans (hg1.mono hGe)); clear BK HB hb1 hk1 hg1; have BK := n1; have HB := n3; clear n1 n3))
  go_region_with (go_at_call 33; have BK2 := blk_drew BK.out; have hz := (by simp : (List.replicate 8 (0 : Int)).length = 8); (with_reducible refine (HE.out G 64 8 (List.replicate 8 0) hz _ BK2).mono ?_); rintro e w2 ⟨rfl, hb, hg⟩; have n1 := Aside0.mk hb; have n3 := Aside0.mk (HB.out.drew.trans (hg.mono hGe)); clear BK HB hb hg BK2; have BK := n1; have HB := n3; clear n1 n3)
  have hHD : hd.length = 8 := HL.out
  have HF := Aside0.mk (show Kd.F (Kd.int .u8) w2 (fun k => some k ≠ mv.ownBlock) (some ⟨G, 0, none⟩) 8 hd by
    have h := blk_F (n := 8) (ok := fun k => some k ≠ mv.ownBlock) BK.out (by omega) (by omega) (fun he => by have := Kd.R_lt HM.out G he.symm; omega)
    rw [List.take_of_length_le (by omega)] at h
    exact h)
  have HM1 := Aside0.mk (Kd.R_below HM.out HB.out)
  have hs1 := HB.out.size
  have hB1 : B ≤ w2.heap.size := by omega
  clear HE BK
  have HA2 := Aside0.mk (HA.out w2 mv hd (some ⟨G, 0, none⟩) 8 hB1 HM1.out (by rw [hHD]; exact HF.out) (by omega))
  rw [hHD] at HA2
  have HHD := Aside0.mk hHD
  clear hHD HF HA
  go_wp2_with (go_at_call 16; (with_reducible refine HA2.out.mono ?_); rintro e w3 ⟨v1, rfl, ho, hb⟩; have HO := Aside0.mk ho; have HB3 := Aside0.mk ((HB.out.mono hB).trans hb); clear ho hb)
  go_ret
  exact ⟨_, rfl, HO.out, HB3.out⟩

set_option maxHeartbeats 4000000 in
set_option maxRecDepth 100000 in
theorem fixed32_calls (w : World) (B : Nat) (mv : Value) (xs : List Int) (f v : Int) (hB : B ≤ w.heap.size) (hm : (Kd.int .u8).R 5 w B (fun _ => True) mv xs)
    (j1 : Nat) (hj1 : j1 < 10) (T : Int) (hT : Go.bits .or .u64 (IntKind.u64.wrap (f * 8)) 5 = T) (hT0 : 0 ≤ T) (hT1 : T < 18446744073709551616) (hTv : T < 128 ^ (j1 + 1)) (hTw : j1 = 0 ∨ (128 : Int) ^ j1 ≤ T)
    (hv0 : 0 ≤ v) (hv1 : v < 4294967296) (hl : xs.length < 10000000000) :
    Calls Tryd.prog 15 #[mv, .int .u64 f, .int .u32 v] w fun e w' => ∃ v1, e = .returned v1 ∧ (Kd.int .u8).R 5 w' B (fun _ => True) v1 (xs ++ vbytes j1 T ++ lowbytes 4 v) ∧ Below B w w' := by
  have HM := Aside0.mk hm
  have HA := Aside0.mk (fun W mv ys A c h0 h1 h2 h3 => append_calls W B mv xs ys f 5 A c h0 h1 h2 j1 hj1 T hT hT0 hT1 hTv hTw (by decide) h3)
  have HE := Aside0.mk (put32 v hv0 hv1)
  have hlen0 : (lowbytes 4 v).length = 4 := lowbytes_len _ _
  clear hm hj1 hT hT0 hT1 hTv hTw
  generalize lowbytes 4 v = hd at *
  have HL := Aside0.mk hlen0
  clear hlen0
  have HB := Aside0.mk (Below.refl w.heap.size w)
  go_enter Tryd.func15, Tryd.ntmps15
  go_upto_region 2 with (first | ((with_reducible refine gate_dst (N := 7) rfl ?_); refine box_event ?xhg (N := 7) ?xhd (cs := ((List.replicate 4 (0 : Int)).map (Value.int .u8)).toArray) (t := 68) ?xhr ?_; (case xhd => rfl); (case xhg => rfl); (case xhr => first | (go_simp; done) | (go_simp; rfl)); intro G hG W1 hb1 hg1; have BK := Aside0.mk hb1; have n3 := Aside0.mk (HB.out.trans hg1); have hGe : w.heap.size ≤ G := (by omega); clear HB hb1 hg1 hG; have HB := n3; clear n3) | ((with_reducible refine gate_st rfl ?_); refine store_all _ _ _ rfl rfl rfl (List.replicate 4 0) BK.out rfl rfl rfl (by kernel_rfl) ?_; intro W1 hb1 hk1 hg1; have n1 := Aside0.mk hb1; have n3 := Aside0.mk (HB.out.trans (hg1.mono hGe)); clear BK HB hb1 hk1 hg1; have BK := n1; have HB := n3; clear n1 n3))
  go_region_with (go_at_call 34; have BK2 := blk_drew BK.out; have hz := (by simp : (List.replicate 4 (0 : Int)).length = 4); (with_reducible refine (HE.out G 68 4 (List.replicate 4 0) hz _ BK2).mono ?_); rintro e w2 ⟨rfl, hb, hg⟩; have n1 := Aside0.mk hb; have n3 := Aside0.mk (HB.out.drew.trans (hg.mono hGe)); clear BK HB hb hg BK2; have BK := n1; have HB := n3; clear n1 n3)
  have hHD : hd.length = 4 := HL.out
  have HF := Aside0.mk (show Kd.F (Kd.int .u8) w2 (fun k => some k ≠ mv.ownBlock) (some ⟨G, 0, none⟩) 4 hd by
    have h := blk_F (n := 4) (ok := fun k => some k ≠ mv.ownBlock) BK.out (by omega) (by omega) (fun he => by have := Kd.R_lt HM.out G he.symm; omega)
    rw [List.take_of_length_le (by omega)] at h
    exact h)
  have HM1 := Aside0.mk (Kd.R_below HM.out HB.out)
  have hs1 := HB.out.size
  have hB1 : B ≤ w2.heap.size := by omega
  clear HE BK
  have HA2 := Aside0.mk (HA.out w2 mv hd (some ⟨G, 0, none⟩) 4 hB1 HM1.out (by rw [hHD]; exact HF.out) (by omega))
  rw [hHD] at HA2
  have HHD := Aside0.mk hHD
  clear hHD HF HA
  go_wp2_with (go_at_call 16; (with_reducible refine HA2.out.mono ?_); rintro e w3 ⟨v1, rfl, ho, hb⟩; have HO := Aside0.mk ho; have HB3 := Aside0.mk ((HB.out.mono hB).trans hb); clear ho hb)
  go_ret
  exact ⟨_, rfl, HO.out, HB3.out⟩

set_option maxHeartbeats 4000000 in
set_option maxRecDepth 100000 in
theorem varlen_calls (w : World) (B : Nat) (mv : Value) (xs ys : List Int) (f : Int) (A : Option Addr) (c : Nat) (hB : B ≤ w.heap.size) (hm : (Kd.int .u8).R 5 w B (fun _ => True) mv xs) (hy : Kd.F (Kd.int .u8) w (fun k => some k ≠ mv.ownBlock) A ys.length ys)
    (j1 : Nat) (hj1 : j1 < 10) (T : Int) (hT : Go.bits .or .u64 (IntKind.u64.wrap (f * 8)) 2 = T) (hT0 : 0 ≤ T) (hT1 : T < 18446744073709551616) (hTv : T < 128 ^ (j1 + 1)) (hTw : j1 = 0 ∨ (128 : Int) ^ j1 ≤ T)
    (j2 : Nat) (hj2 : j2 < 10) (hUv : (ys.length : Int) < 128 ^ (j2 + 1)) (hUw : j2 = 0 ∨ (128 : Int) ^ j2 ≤ (ys.length : Int)) (hl : xs.length + ys.length < 100000000000) :
    Calls Tryd.prog 14 #[mv, .int .u64 f, .slice A ys.length c] w fun e w' => ∃ v1, e = .returned v1 ∧ (Kd.int .u8).R 5 w' B (fun _ => True) v1 (xs ++ (vbytes j1 T ++ vbytes j2 ys.length) ++ ys) ∧ Below B w w' := by
  have HA := Aside0.mk (appendv_calls w B mv xs ys f A c hB hm hy j1 hj1 T hT hT0 hT1 hTv hTw j2 hj2 hUv hUw hl)
  clear hm hy hT hTv hTw hUv hUw
  go_enter Tryd.func14, Tryd.ntmps14
  go_wp2_with (go_at_call 16; (with_reducible refine HA.out.mono ?_); rintro e w3 ⟨v1, rfl, ho, hb⟩; have HO := Aside0.mk ho; have HB3 := Aside0.mk hb; clear ho hb)
  go_ret
  exact ⟨_, rfl, HO.out, HB3.out⟩

set_option maxHeartbeats 4000000 in
set_option maxRecDepth 100000 in
theorem cloned_calls (w : World) (B : Nat) (ys : List Int) (A : Option Addr) (c : Nat) (hB : B ≤ w.heap.size) (hy : (Kd.int .u8).C w A ys.length ys) (hl : ys.length < 100000000000) :
    Calls Tryd.prog 11 #[.slice A ys.length c] w fun e w' => ∃ v1, e = .returned v1 ∧ (Kd.int .u8).R 5 w' w.heap.size (fun _ => True) v1 ys ∧ Below w.heap.size w w' := by
  have HY := Aside0.mk hy
  clear hy
  go_enter Tryd.func11, Tryd.ntmps11
  go_wp2_with (((with_reducible refine gate_builtin (b := .append) (xs := #[.const (.slice none 0 0), .tmp 3]) rfl ?_); at_builtin; refine append_rows2 (Kd.int .u8) (w0 := w) w.heap.size rfl (.const (.slice none 0 0)) (.tmp 3) 22 22 5 5 (.int .u8 0) 1 rfl Tryd.underlying22 Tryd.underlying22 info5 rfl (by decide) (by decide) (.slice none 0 0) [] ys A ys.length c (fun _ => True) (fun _ => False) rfl rfl (Kd.R_nil _ _ _ _ _) HY.out (fun _ _ h => h) (fun _ h => h.elim) (fun _ _ => trivial) (Below.refl _ _) (Nat.le_refl _) (by simp; omega) ?_; intro v1 w3 ho hb hg hat; have HO := Aside0.mk ho; have HB2 := Aside0.mk hb; clear ho hb hg hat))
  go_ret
  exact ⟨_, rfl, HO.out, HB2.out⟩
end Go.Proofs.YtokediiehlnjkaaDoor.Pb
