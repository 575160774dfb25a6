/- The text's whole eights as numbers. -/
import Derived.Test.YtlagcfdojbjmmaaDoorEscWalk
import Derived.Handy
namespace Go.Proofs.YtlagcfdojbjmmaaDoor.Esc
open Go.RowKit Go.Proofs.YtlagcfdojbjmmaaDoor.PFnJSEscapes Go.Proofs.YtlagcfdojbjmmaaDoorW.PrintWords Go.Proofs.YtlagcfdojbjmmaaDoorW.PrintLast Go.Proofs.YtlagcfdojbjmmaaDoorW.PrintMore
set_option linter.unusedVariables false
set_option linter.unusedSimpArgs false
theorem info30 : (Tryd.prog.info? 30).map (fun i => (i.zero, i.size, i.bytes)) = some (some (.int .u64 0), 1, 8) := by kernel_rfl
/-- The bytes of eight places from place o on. -/
def eight (L : List Nat) (o : Nat) : List Nat := [L.getD o 0, L.getD (o + 1) 0, L.getD (o + 2) 0, L.getD (o + 3) 0, L.getD (o + 4) 0, L.getD (o + 5) 0, L.getD (o + 6) 0, L.getD (o + 7) 0]
/-- The first k eights of a text, as numbers. -/
def cks (L : List Nat) (k : Nat) : List Int := (List.range k).map fun i => ((w8 (eight L (8 * i)) : Nat) : Int)
theorem cks_succ (L : List Nat) (k : Nat) : cks L (k + 1) = cks L k ++ [((w8 (eight L (8 * k)) : Nat) : Int)] := by simp [cks, List.range_succ]
theorem cks_len (L : List Nat) (k : Nat) : (cks L k).length = k := by simp [cks]
/-- A text of bytes. -/
def txt (L : List Nat) : ByteArray := strOfNums (L.map Int.ofNat)
theorem txt_size (L : List Nat) : (txt L).size = L.length := by unfold txt; rw [strOfNums_size]; simp
theorem txt_at (L : List Nat) (hb : ∀ b ∈ L, b < 256) (j : Nat) (hj : j < L.length) : ((txt L).data.toList.getD j 0).toNat = L.getD j 0 := by
  unfold txt
  rw [strOfNums_data]
  simp only [List.getD_eq_getElem?_getD]
  rw [List.getElem?_map, List.getElem?_map, List.getElem?_eq_getElem hj]
  have := hb _ (List.getElem_mem hj)
  simp
  omega

theorem cut8 (G o n c : Nat) (hn : 8 ≤ n) (hc : n ≤ c) : ∃ A, (8 ≤ n - 8 → A = some ⟨G, o + 8, none⟩) ∧ ∀ w : World, Sem.run Tryd.prog (Instr.sliceAt 25 (.slice (some ⟨G, o, none⟩) n c) (some (.int .i64 8)) none none) w = .ok (.slice A (n - 8) (c - 8)) w := by
  have ht : Tryd.prog.underlying 25 = some (.slice (Tryd.prog.elem 25)) := by kernel_rfl
  have hs : (Tryd.prog.info? (Tryd.prog.elem 25)).map (·.size) = some 1 := by kernel_rfl
  obtain ⟨i, hi, hz⟩ := Option.map_eq_some_iff.1 hs
  refine ⟨if c = 8 then some ⟨G, o, none⟩ else some ⟨G, o + 8, none⟩, fun h => if_neg (by omega), fun w => ?_⟩
  rw [run_sliceAt_slice _ _ _ _ _ _ ht, run_slice_l w 25 (some ⟨G, o, none⟩) n c ht .i64 8 (by decide) (by omega)]
  simp [sizeOf, typeInfo, hi, hz, sliced, Addr.add]

set_option maxHeartbeats 4000000 in
set_option maxRecDepth 100000 in
theorem chunks (L : List Nat) (hb : ∀ b ∈ L, b < 128) (hl : L.length ≤ 40) (w : World) :
    Calls Tryd.prog 17 #[.string (txt L)] w fun e w' => ∃ v, e = .returned v ∧ (Kd.int .u64).R 30 w' w.heap.size (fun _ => True) v (cks L (L.length / 8)) ∧ Below w.heap.size w w' := by
  have hsz := txt_size L
  have kb := print_bytes (P := Tryd.prog) 9 25 5 Tryd.underlying9 Tryd.underlying25 Tryd.underlying5 (txt L) w
  rw [hsz] at kb
  have hcell : ∀ j, j < L.length → (Lib.bytesWorld w 5 (txt L)).cell? ⟨w.heap.size, j, none⟩ = some (.int .u8 ((L.getD j 0 : Nat) : Int)) := fun j hj => by
    rw [Lib.bytesWorld_cell w 5 (txt L) j (by omega), txt_at L (fun b h => by have := hb b h; omega) j hj]
  have HB0 := Aside0.mk (bytes_below (Below.refl w.heap.size w) (Nat.le_refl _) 5 (txt L))
  have hcap : L.length ≤ grownCap w L.length 0 5 := grownCap_ge _ _ _ _
  obtain ⟨W, hW⟩ : ∃ W, W = Lib.bytesWorld w 5 (txt L) := ⟨_, rfl⟩
  obtain ⟨C, hC⟩ : ∃ C, C = grownCap w L.length 0 5 := ⟨_, rfl⟩
  obtain ⟨G, hG⟩ : ∃ G, G = w.heap.size := ⟨_, rfl⟩
  have hsW : w.heap.size ≤ W.heap.size := by rw [hW]; exact HB0.out.size
  rw [← hW, ← hG, ← hC] at kb
  rw [← hW, ← hG] at hcell
  rw [← hW] at HB0
  rw [← hC] at hcap
  clear hW hC hG hsz
  have HCELL := Aside0.mk hcell
  have HLB := Aside0.mk hb
  obtain ⟨M, hM⟩ : ∃ M, M = L.length / 8 := ⟨_, rfl⟩
  have HM := Aside0.mk hM
  rw [← hM]
  clear hcell hb hM
  go_enter Tryd.func17, Tryd.ntmps17
  go_wp2
  go_loopg [3, 4] M (fun kq v3 v4 w' => ∃ (k : Nat) (A : Option Addr) (n c : Nat), v4 = .slice A n c ∧ Aside0 (k + kq = M) ∧ Aside0 (n + 8 * k = L.length) ∧ Aside0 (n ≤ c) ∧ Aside0 (8 ≤ n → A = some ⟨G, 8 * k, none⟩) ∧ Aside0 ((Kd.int .u64).R 30 w' W.heap.size (fun _ => True) v3 (cks L k)) ∧ Aside0 (Below W.heap.size W w'))
  case atStart => exact ⟨0, _, _, _, rfl, ⟨by omega⟩, ⟨by omega⟩, ⟨hcap⟩, ⟨fun _ => rfl⟩, ⟨Kd.R_nil _ _ _ _ _⟩, ⟨Below.refl _ _⟩⟩
  case round =>
    obtain ⟨k, A, n, c, rfl, HK, HN, HCP, HA, HO, HB⟩ := hrel
    by_cases h8 : 8 ≤ n
    · obtain rfl := HA.out h8
      have hL := HN.out
      have d8 : decide ((8 : Int) ≤ (n : Int)) = true := by simp; omega
      obtain ⟨A2, hA2, hsl⟩ := cut8 G (8 * k) n c h8 HCP.out
      have hcl : ∀ i, i < 8 → wr.cell? ⟨G, 8 * k + i, none⟩ = some (.int .u8 ((L.getD (8 * k + i) 0 : Nat) : Int)) := fun i hi => pw_cell_below HB.out (HCELL.out _ (by omega))
      have hby : ∀ i, L.getD i 0 < 256 := fun i => getD_lt (by decide) (fun b h => by have := HLB.out b h; omega) i
      have HU := Aside0.mk (uint64 G (8 * k) n c _ _ _ _ _ _ _ _ wr h8 (hby _) (hby _) (hby _) (hby _) (hby _) (hby _) (hby _) (hby _) (hcl 0 (by decide)) (hcl 1 (by decide)) (hcl 2 (by decide)) (hcl 3 (by decide)) (hcl 4 (by decide)) (hcl 5 (by decide)) (hcl 6 (by decide)) (hcl 7 (by decide)))
      obtain ⟨X, hX⟩ : ∃ X : Int, X = ((w8 (eight L (8 * k)) : Nat) : Int) := ⟨_, rfl⟩
      have HU2 : Aside0 (Calls Tryd.prog 21 #[.agg #[], .slice (some ⟨G, 8 * k, none⟩) n c] wr fun e w' => e = .returned (.int .u64 X) ∧ Below wr.heap.size wr w') := by rw [hX]; exact HU
      have HX := Aside0.mk hX
      have HA2 := Aside0.mk hA2
      have HLen := Aside0.mk (cks_len L k)
      have HL8 := Aside0.mk h8
      clear hX hcl hby HU hA2 hL h8
      go_wp2_with (first | (go_at_call 21; (with_reducible refine HU2.out.mono ?_); rintro e w1 ⟨rfl, hb⟩; have HO1 := Aside0.mk (Kd.R_below HO.out hb); have HB1 := Aside0.mk (HB.out.trans (hb.mono HB.out.size)); clear hb) | ((with_reducible refine gate_builtin (b := .append) (xs := #[.tmp 12, .tmp 16]) rfl ?_); at_builtin; refine Kd.R_append (Kd.int .u64) (w0 := W) W.heap.size rfl (.tmp 12) (.tmp 16) 28 30 (.int .u64 0) 8 rfl Tryd.underlying28 info30 rfl (by decide) (by decide) u3 (cks L k) X [.int .u64 X] (fun _ => True) (fun _ => False) rfl rfl rfl (fun _ hk => hk.elim) (fun _ _ => trivial) HO1.out HB1.out HB1.out.size (by rw [HLen.out]; have := HK.out; have := HM.out; omega) ?_; intro v5 w2 ho hb hg hat; have HO2 := Aside0.mk ho; have HB2 := Aside0.mk hb; clear ho hb hg hat))
      go_roundg (gk - 1)
      case measure => have := HK.out; have := HM.out; have := HN.out; have := HL8.out; omega
      case rel => exact ⟨k + 1, A2, n - 8, c - 8, rfl, ⟨by have := HK.out; have := HM.out; have := HN.out; have := HL8.out; omega⟩, ⟨by have := HN.out; have := HL8.out; omega⟩, ⟨by have := HCP.out; omega⟩, ⟨fun h => by rw [HA2.out h, show 8 * (k + 1) = 8 * k + 8 by omega]⟩, ⟨by rw [cks_succ, ← HX.out]; exact HO2.out⟩, HB2⟩
    · have d8 : decide ((8 : Int) ≤ (n : Int)) = false := by simp; omega
      have hk : k = M := by have := HK.out; have := HM.out; have := HN.out; omega
      subst hk
      go_wp2
      go_ret
      exact ⟨_, rfl, Kd.R_lower HO.out hsW, HB0.out.trans (HB.out.mono hsW)⟩
end Go.Proofs.YtlagcfdojbjmmaaDoor.Esc
