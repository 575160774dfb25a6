/- The walk of the law on the first sign of a text that must be escaped. -/
import Derived.Test.YtlagcfdojbjmmaaDoorEscFind
namespace Go.Proofs.YtlagcfdojbjmmaaDoor.Esc
open Go.RowKit Go.Proofs.YtlagcfdojbjmmaaDoor.PFnJSEscapes Go.Proofs.YtlagcfdojbjmmaaDoorW.PrintWords Go.Proofs.YtlagcfdojbjmmaaDoorW.PrintLast Go.Proofs.YtlagcfdojbjmmaaDoorW.PrintMore
set_option linter.unusedVariables false
set_option linter.unusedSimpArgs false
/-- The signs of a code. -/
def sig (ms : List Int) : List Nat := ms.map fun x => (x % 127).toNat
theorem sig_len (ms : List Int) : (sig ms).length = ms.length := by simp [sig]
theorem sig_lt (ms : List Int) : ∀ b ∈ sig ms, b < 127 := by
  intro b h
  obtain ⟨x, _, rfl⟩ := List.mem_map.1 h
  omega
theorem sig_get (ms : List Int) (k : Nat) (hk : k < ms.length) : (sig ms).getD k 0 = (ms.getD k 0 % 127).toNat := by
  simp [sig, List.getD, hk]
theorem fst_step (h : Bool) (L : List Nat) : ∀ (d i : Nat), fst h L (d + 1) i = if 0 ≤ fst h L d i then fst h L d i else if must h (L.getD (i + d) 0) then ((i + d : Nat) : Int) else -1
  | 0, i => by
    show (if must h (L.getD i 0) then (i : Int) else fst h L 0 (i + 1)) = if (0 : Int) ≤ -1 then -1 else if must h (L.getD (i + 0) 0) then ((i + 0 : Nat) : Int) else -1
    rw [if_neg (show ¬ ((0 : Int) ≤ -1) by decide)]
    rfl
  | d + 1, i => by
    rw [fst]
    by_cases hm : must h (L.getD i 0) = true
    · rw [if_pos hm, fst, if_pos hm, if_pos (by omega)]
    · rw [if_neg hm, fst_step h L d (i + 1)]
      rw [show fst h L (d + 1) i = fst h L d (i + 1) from by rw [fst, if_neg hm], show i + 1 + d = i + (d + 1) by omega]
theorem fst_range (h : Bool) (L : List Nat) (d : Nat) : fst h L d 0 = -1 ∨ (0 ≤ fst h L d 0 ∧ fst h L d 0 < d) := by
  rcases fst_first h L d 0 with ⟨j, h1, h2, _, _, h5⟩ | ⟨_, h5⟩
  · exact .inr (by rw [h5]; omega)
  · exact .inl h5
theorem txt_append (a b : List Nat) : txt a ++ txt b = txt (a ++ b) := by
  unfold txt
  apply ByteArray.ext
  simp [strOfNums, ByteArray.data_append]
theorem txt_quote : (⟨#[97, 98, 34]⟩ : ByteArray) = txt [97, 98, 34] := rfl
theorem conv1 (W : World) (b : Nat) : Sem.run Tryd.prog (convert 25 9 (.slice (some ⟨W.heap.size, 0, none⟩) 1 1)) (W.alloc (.cells #[.int .u8 (b : Int)] 5)) = .ok (.string (txt [b])) (W.alloc (.cells #[.int .u8 (b : Int)] 5)) := by
  refine string_of_reads (xs := [(b : Int)]) Tryd.underlying25 Tryd.underlying5 Tryd.underlying9 ⟨rfl, by decide, fun _ => ⟨_, rfl, fun j hj => ?_⟩⟩
  obtain rfl : j = 0 := by omega
  rw [add_plain]
  exact (blk_cell (blk_new W _) 0).trans rfl
theorem fst_next (h : Bool) (L : List Nat) (k : Nat) (b : Nat) (hb : L.getD k 0 = b) (wt : Int) (hw : wt = fst h L k 0) : (wt < 0 ∧ must h b = true → fst h L (k + 1) 0 = (k : Int)) ∧ (¬ (wt < 0 ∧ must h b = true) → fst h L (k + 1) 0 = wt) := by
  have hs := fst_step h L k 0
  rw [Nat.zero_add, hb, ← hw] at hs
  have hr := fst_range h L k
  rw [← hw] at hr
  constructor
  · rintro ⟨h1, h2⟩
    rw [hs, if_neg (by omega), if_pos h2]
  · intro hn
    by_cases h1 : wt < 0
    · have h2 : ¬ must h b = true := fun h2 => hn ⟨h1, h2⟩
      rw [hs, if_neg (by omega), if_neg h2]
      omega
    · rw [hs, if_pos (by omega)]
theorem found_quote : ∀ h : Bool, Found h [97, 98, 34] = 2 := by decide

set_option maxHeartbeats 8000000 in
set_option maxRecDepth 100000 in
theorem law0 (ms : List Int) (hr : ∀ x ∈ ms, 0 ≤ x ∧ x ≤ 255) (hl : ms.length ≤ 40) (A : Option Addr) (c : Nat) (w : World) (hms : (Kd.int .u8).C w A ms.length ms) (ht : Tab w) :
    Calls Tryd.prog 4 #[.slice A ms.length c, .bool false] w fun e w' => e = .returned (.bool true) ∧ Below w.heap.size w w' := by
  have hrd := Kd.reads_of_C (enc := Value.int .u8) (d := (0 : Int)) (h1 := fun _ => rfl) hms
  have HRD := Aside0.mk hrd.2.2
  have HRG := Aside0.mk (show ∀ k, 0 ≤ ms.getD k 0 ∧ ms.getD k 0 ≤ 255 by
    intro k
    rw [List.getD_eq_getElem?_getD]
    rcases Nat.lt_or_ge k ms.length with h1 | h1
    · rw [List.getElem?_eq_getElem h1]
      exact hr _ (List.getElem_mem h1)
    · rw [List.getElem?_eq_none h1]
      exact ⟨by decide, by decide⟩)
  have HT := Aside0.mk ht
  have d0 : decide ((2147483647 : Int) < (ms.length : Int)) = false := by simp; omega
  have d40 : decide ((40 : Int) < (ms.length : Int)) = false := by simp; omega
  obtain ⟨n, hn⟩ : ∃ n, n = ms.length := ⟨_, rfl⟩
  have HN := Aside0.mk hn
  rw [← hn] at HRD d0 d40 hl ⊢
  clear hrd hms hr ht hn
  go_enter Tryd.func4, Tryd.ntmps4
  go_wp2_with fail
  go_loopg [5, 6, 19] n (fun kq v5 v6 v19 w' => ∃ k : Nat, v19 = .int .i64 (k : Int) ∧ v5 = .string (txt ((sig ms).take k)) ∧ v6 = .int .i64 (fst false (sig ms) k 0) ∧ Aside0 (k + kq = n) ∧ Aside0 (Below w.heap.size w w'))
  case atStart => exact ⟨0, rfl, rfl, rfl, ⟨by omega⟩, ⟨Below.refl _ _⟩⟩
  case round =>
    obtain ⟨k, rfl, rfl, rfl, HK, HB⟩ := hrel
    by_cases hk : k < n
    · skip
      obtain ⟨ad, rfl, hcl⟩ := HRD.out (by omega)
      have dk : decide (k < n) = true := by simp; omega
      obtain ⟨x, hx⟩ : ∃ x, x = ms.getD k 0 := ⟨_, rfl⟩
      have hcell : wr.cell? (ad.add k) = some (.int .u8 x) := by rw [hx]; exact pw_cell_below HB.out (hcl k hk)
      have hxr := HRG.out k
      rw [← hx] at hxr
      obtain ⟨b, hb⟩ : ∃ b : Nat, b = (x % 127).toNat := ⟨_, rfl⟩
      have hmod : Int.tmod x 127 = (b : Int) := by rw [Int.tmod_eq_emod_of_nonneg hxr.1]; omega
      have hgb : (sig ms).getD k 0 = b := by rw [sig_get ms k (by have := HN.out; omega), ← hx, hb]
      have hb127 : b < 127 := by omega
      obtain ⟨wt, hwt⟩ : ∃ wt, wt = fst false (sig ms) k 0 := ⟨_, rfl⟩
      have HNX := Aside0.mk (fst_next false (sig ms) k b hgb wt hwt)
      rw [← hwt]
      have hcat : txt ((sig ms).take k) ++ txt [b] = txt ((sig ms).take (k + 1)) := by
        rw [txt_append, List.take_succ_eq_append_getElem (by rw [sig_len]; have := HN.out; omega)]
        congr 3
        rw [← hgb, List.getD_eq_getElem?_getD, List.getElem?_eq_getElem (by rw [sig_len]; have := HN.out; omega)]
        rfl
      have hsum : ¬ (9223372036854775807 < (txt ((sig ms).take k)).size + (txt [b]).size) := by rw [txt_size, txt_size, List.length_take]; simp; omega
      obtain ⟨S, hS⟩ : ∃ S, S = txt ((sig ms).take k) := ⟨_, rfl⟩
      obtain ⟨S2, hS2⟩ : ∃ S2, S2 = txt ((sig ms).take (k + 1)) := ⟨_, rfl⟩
      obtain ⟨B, hB⟩ : ∃ B, B = txt [b] := ⟨_, rfl⟩
      have hcv := fun W => conv1 W b
      rw [← hB] at hcat hsum hcv
      rw [← hS] at hcat hsum ⊢
      rw [← hS2] at hcat
      have HS2 := Aside0.mk hS2
      have HKN := Aside0.mk hk
      have HMU := Aside0.mk hb127
      clear hS hS2 hB hb hgb hwt hx hcl hxr
      have hneg' : wt < 0 ∨ 0 ≤ wt := by omega
      by_cases t1 : b < 32
      · have e1 : decide ((b : Int) < 32) = true := by simp; omega
        have hm := Aside0.mk (show must false b = true by simp [must, t1])
        clear t1 hb127
        rcases hneg' with hneg | hneg
        · have dwt : decide (wt < 0) = true := by simp; omega
          have HV := Aside0.mk (HNX.out.1 ⟨hneg, hm.out⟩)
          clear hneg HNX HMU
          go_wp2_with fail
          go_roundg (gk - 1)
          case measure => have := HK.out; have := HKN.out; omega
          case rel => exact ⟨k + 1, congrArg (Value.int .i64) (by have := HKN.out; first | omega | (unfold wrap64; omega)), congrArg Value.string HS2.out, congrArg (Value.int .i64) HV.out.symm, ⟨by have := HK.out; have := HKN.out; omega⟩, ⟨by repeat (first | (with_reducible first | exact HB.out | apply below_alloc | apply pw_below_drewN | apply below_drew) | exact HB.out)⟩⟩
        · have dwt : decide (wt < 0) = false := by simp; omega
          have HV := Aside0.mk (HNX.out.2 (fun hh => by have := hh.1; omega))
          clear hneg HNX HMU
          go_wp2_with fail
          go_roundg (gk - 1)
          case measure => have := HK.out; have := HKN.out; omega
          case rel => exact ⟨k + 1, congrArg (Value.int .i64) (by have := HKN.out; first | omega | (unfold wrap64; omega)), congrArg Value.string HS2.out, congrArg (Value.int .i64) HV.out.symm, ⟨by have := HK.out; have := HKN.out; omega⟩, ⟨by repeat (first | (with_reducible first | exact HB.out | apply below_alloc | apply pw_below_drewN | apply below_drew) | exact HB.out)⟩⟩
      have e1 : decide ((b : Int) < 32) = false := by simp; omega
      by_cases t34 : b = 34
      · have hm := Aside0.mk (show must false b = true by rw [t34]; decide)
        have e34t : ((b : Int) == 34) = true := beq_iff_eq.2 (by omega)
        clear hb127 t34
        rcases hneg' with hneg | hneg
        · have dwt : decide (wt < 0) = true := by simp; omega
          have HV := Aside0.mk (HNX.out.1 ⟨hneg, hm.out⟩)
          clear hneg HNX HMU
          go_wp2_with fail
          go_roundg (gk - 1)
          case measure => have := HK.out; have := HKN.out; omega
          case rel => exact ⟨k + 1, congrArg (Value.int .i64) (by have := HKN.out; first | omega | (unfold wrap64; omega)), congrArg Value.string HS2.out, congrArg (Value.int .i64) HV.out.symm, ⟨by have := HK.out; have := HKN.out; omega⟩, ⟨by repeat (first | (with_reducible first | exact HB.out | apply below_alloc | apply pw_below_drewN | apply below_drew) | exact HB.out)⟩⟩
        · have dwt : decide (wt < 0) = false := by simp; omega
          have HV := Aside0.mk (HNX.out.2 (fun hh => by have := hh.1; omega))
          clear hneg HNX HMU
          go_wp2_with fail
          go_roundg (gk - 1)
          case measure => have := HK.out; have := HKN.out; omega
          case rel => exact ⟨k + 1, congrArg (Value.int .i64) (by have := HKN.out; first | omega | (unfold wrap64; omega)), congrArg Value.string HS2.out, congrArg (Value.int .i64) HV.out.symm, ⟨by have := HK.out; have := HKN.out; omega⟩, ⟨by repeat (first | (with_reducible first | exact HB.out | apply below_alloc | apply pw_below_drewN | apply below_drew) | exact HB.out)⟩⟩
      have e34 : ((b : Int) == 34) = false := beq_eq_false_iff_ne.2 (by omega)
      by_cases t92 : b = 92
      · have hm := Aside0.mk (show must false b = true by rw [t92]; decide)
        have e92t : ((b : Int) == 92) = true := beq_iff_eq.2 (by omega)
        clear hb127 t92
        rcases hneg' with hneg | hneg
        · have dwt : decide (wt < 0) = true := by simp; omega
          have HV := Aside0.mk (HNX.out.1 ⟨hneg, hm.out⟩)
          clear hneg HNX HMU
          go_wp2_with fail
          go_roundg (gk - 1)
          case measure => have := HK.out; have := HKN.out; omega
          case rel => exact ⟨k + 1, congrArg (Value.int .i64) (by have := HKN.out; first | omega | (unfold wrap64; omega)), congrArg Value.string HS2.out, congrArg (Value.int .i64) HV.out.symm, ⟨by have := HK.out; have := HKN.out; omega⟩, ⟨by repeat (first | (with_reducible first | exact HB.out | apply below_alloc | apply pw_below_drewN | apply below_drew) | exact HB.out)⟩⟩
        · have dwt : decide (wt < 0) = false := by simp; omega
          have HV := Aside0.mk (HNX.out.2 (fun hh => by have := hh.1; omega))
          clear hneg HNX HMU
          go_wp2_with fail
          go_roundg (gk - 1)
          case measure => have := HK.out; have := HKN.out; omega
          case rel => exact ⟨k + 1, congrArg (Value.int .i64) (by have := HKN.out; first | omega | (unfold wrap64; omega)), congrArg Value.string HS2.out, congrArg (Value.int .i64) HV.out.symm, ⟨by have := HK.out; have := HKN.out; omega⟩, ⟨by repeat (first | (with_reducible first | exact HB.out | apply below_alloc | apply pw_below_drewN | apply below_drew) | exact HB.out)⟩⟩
      have e92 : ((b : Int) == 92) = false := beq_eq_false_iff_ne.2 (by omega)
      have hm := Aside0.mk (show must false b = false by simp [must]; omega)
      clear t1 t34 t92 hb127
      rcases hneg' with hneg | hneg
      · have dwt : decide (wt < 0) = true := by simp; omega
        have HV := Aside0.mk (HNX.out.2 (fun hh => by have := hh.2; rw [hm.out] at this; cases this))
        clear hneg HNX HMU
        go_wp2_with fail
        go_roundg (gk - 1)
        case measure => have := HK.out; have := HKN.out; omega
        case rel => exact ⟨k + 1, congrArg (Value.int .i64) (by have := HKN.out; first | omega | (unfold wrap64; omega)), congrArg Value.string HS2.out, congrArg (Value.int .i64) HV.out.symm, ⟨by have := HK.out; have := HKN.out; omega⟩, ⟨by repeat (first | (with_reducible first | exact HB.out | apply below_alloc | apply pw_below_drewN | apply below_drew) | exact HB.out)⟩⟩
      · have dwt : decide (wt < 0) = false := by simp; omega
        have HV := Aside0.mk (HNX.out.2 (fun hh => by have := hh.2; rw [hm.out] at this; cases this))
        clear hneg HNX HMU
        go_wp2_with fail
        go_roundg (gk - 1)
        case measure => have := HK.out; have := HKN.out; omega
        case rel => exact ⟨k + 1, congrArg (Value.int .i64) (by have := HKN.out; first | omega | (unfold wrap64; omega)), congrArg Value.string HS2.out, congrArg (Value.int .i64) HV.out.symm, ⟨by have := HK.out; have := HKN.out; omega⟩, ⟨by repeat (first | (with_reducible first | exact HB.out | apply below_alloc | apply pw_below_drewN | apply below_drew) | exact HB.out)⟩⟩
    · have hkn : k = n := by have := HK.out; omega
      subst hkn
      have dk : decide (k < k) = false := by simp
      have hsl : (sig ms).length = k := by rw [sig_len]; exact HN.out.symm
      have htk : (sig ms).take k = sig ms := List.take_of_length_le (by omega)
      rw [htk]
      have hwf : fst false (sig ms) k 0 = Found false (sig ms) := by unfold Found; rw [hsl]
      rw [hwf]
      have hfr := fst_range false (sig ms) k
      rw [hwf] at hfr
      obtain ⟨wt, hwt⟩ : ∃ wt, wt = Found false (sig ms) := ⟨_, rfl⟩
      rw [← hwt] at hfr ⊢
      have hsz : (txt (sig ms)).size = k := by rw [txt_size]; exact hsl
      have HD0 := Aside0.mk (fun (W : World) (hT : Tab W) (hw : wt < 8 ∨ ((8 * (k / 8) : Nat) : Int) ≤ wt) => door false (sig ms) (sig_lt ms) (by omega) (by rw [← hwt, hsl]; exact hw) W hT)
      rw [← hwt] at HD0
      have HDQ := Aside0.mk (fun (W : World) (hT : Tab W) => door false [97, 98, 34] (by decide) (by decide) (.inl (by rw [found_quote]; decide)) W hT)
      rw [found_quote] at HDQ
      obtain ⟨S, hS⟩ : ∃ S, S = txt (sig ms) := ⟨_, rfl⟩
      rw [← hS] at HD0 hsz ⊢
      have HTB := Aside0.mk (HT.out.below HB.out)
      have HFR := Aside0.mk hfr
      clear hwf htk hsl hk hwt hS hfr HK HT
      rw [← txt_quote] at HDQ
      have hwr := HB.out.size
      by_cases c8 : 8 ≤ wt
      · have d8 : decide (8 ≤ wt) = true := by simp; omega
        by_cases cq : wt < (k : Int) / 8 * 8
        · have dq : decide (wt < (k : Int) / 8 * 8) = true := by simp; omega
          clear HD0 c8 cq
          go_wp2_with (go_at_call 6; (with_reducible refine (HDQ.out _ HTB.out).mono ?_); rintro e w5 ⟨rfl, hb⟩; have HBC := Aside0.mk (HB.out.trans (hb.mono hwr)); clear hb)
          go_ret
          exact ⟨rfl, HBC.out⟩
        · have dq : decide (wt < (k : Int) / 8 * 8) = false := by simp; omega
          have HD1 := Aside0.mk (HD0.out wr HTB.out (.inr (by omega)))
          clear HD0 c8 cq
          go_wp2_with (first | (go_at_call 6; (with_reducible refine HD1.out.mono ?_); rintro e w5 ⟨rfl, hb⟩; have HTC := Aside0.mk (HTB.out.below hb); have HBC := Aside0.mk (HB.out.trans (hb.mono hwr)); have hwr2 := HBC.out.size; clear hb HD1 HTB) | (go_at_call 6; (with_reducible refine (HDQ.out _ HTC.out).mono ?_); rintro e w6 ⟨rfl, hb⟩; have HBD := Aside0.mk (HBC.out.trans (hb.mono hwr2)); clear hb))
          go_ret
          exact ⟨by first | rfl | simp, HBD.out⟩
      · have d8 : decide (8 ≤ wt) = false := by simp; omega
        have HD1 := Aside0.mk (HD0.out wr HTB.out (.inl (by omega)))
        clear HD0 c8
        go_wp2_with (first | (go_at_call 6; (with_reducible refine HD1.out.mono ?_); rintro e w5 ⟨rfl, hb⟩; have HTC := Aside0.mk (HTB.out.below hb); have HBC := Aside0.mk (HB.out.trans (hb.mono hwr)); have hwr2 := HBC.out.size; clear hb HD1 HTB) | (go_at_call 6; (with_reducible refine (HDQ.out _ HTC.out).mono ?_); rintro e w6 ⟨rfl, hb⟩; have HBD := Aside0.mk (HBC.out.trans (hb.mono hwr2)); clear hb))
        go_ret
        exact ⟨by first | rfl | simp, HBD.out⟩

set_option maxHeartbeats 8000000 in
set_option maxRecDepth 100000 in
theorem law1 (ms : List Int) (hr : ∀ x ∈ ms, 0 ≤ x ∧ x ≤ 255) (hl : ms.length ≤ 40) (A : Option Addr) (c : Nat) (w : World) (hms : (Kd.int .u8).C w A ms.length ms) (ht : Tab w) :
    Calls Tryd.prog 4 #[.slice A ms.length c, .bool true] w fun e w' => e = .returned (.bool true) ∧ Below w.heap.size w w' := by
  have hrd := Kd.reads_of_C (enc := Value.int .u8) (d := (0 : Int)) (h1 := fun _ => rfl) hms
  have HRD := Aside0.mk hrd.2.2
  have HRG := Aside0.mk (show ∀ k, 0 ≤ ms.getD k 0 ∧ ms.getD k 0 ≤ 255 by
    intro k
    rw [List.getD_eq_getElem?_getD]
    rcases Nat.lt_or_ge k ms.length with h1 | h1
    · rw [List.getElem?_eq_getElem h1]
      exact hr _ (List.getElem_mem h1)
    · rw [List.getElem?_eq_none h1]
      exact ⟨by decide, by decide⟩)
  have HT := Aside0.mk ht
  have d0 : decide ((2147483647 : Int) < (ms.length : Int)) = false := by simp; omega
  have d40 : decide ((40 : Int) < (ms.length : Int)) = false := by simp; omega
  obtain ⟨n, hn⟩ : ∃ n, n = ms.length := ⟨_, rfl⟩
  have HN := Aside0.mk hn
  rw [← hn] at HRD d0 d40 hl ⊢
  clear hrd hms hr ht hn
  go_enter Tryd.func4, Tryd.ntmps4
  go_wp2_with fail
  go_loopg [5, 6, 19] n (fun kq v5 v6 v19 w' => ∃ k : Nat, v19 = .int .i64 (k : Int) ∧ v5 = .string (txt ((sig ms).take k)) ∧ v6 = .int .i64 (fst true (sig ms) k 0) ∧ Aside0 (k + kq = n) ∧ Aside0 (Below w.heap.size w w'))
  case atStart => exact ⟨0, rfl, rfl, rfl, ⟨by omega⟩, ⟨Below.refl _ _⟩⟩
  case round =>
    obtain ⟨k, rfl, rfl, rfl, HK, HB⟩ := hrel
    by_cases hk : k < n
    · skip
      obtain ⟨ad, rfl, hcl⟩ := HRD.out (by omega)
      have dk : decide (k < n) = true := by simp; omega
      obtain ⟨x, hx⟩ : ∃ x, x = ms.getD k 0 := ⟨_, rfl⟩
      have hcell : wr.cell? (ad.add k) = some (.int .u8 x) := by rw [hx]; exact pw_cell_below HB.out (hcl k hk)
      have hxr := HRG.out k
      rw [← hx] at hxr
      obtain ⟨b, hb⟩ : ∃ b : Nat, b = (x % 127).toNat := ⟨_, rfl⟩
      have hmod : Int.tmod x 127 = (b : Int) := by rw [Int.tmod_eq_emod_of_nonneg hxr.1]; omega
      have hgb : (sig ms).getD k 0 = b := by rw [sig_get ms k (by have := HN.out; omega), ← hx, hb]
      have hb127 : b < 127 := by omega
      obtain ⟨wt, hwt⟩ : ∃ wt, wt = fst true (sig ms) k 0 := ⟨_, rfl⟩
      have HNX := Aside0.mk (fst_next true (sig ms) k b hgb wt hwt)
      rw [← hwt]
      have hcat : txt ((sig ms).take k) ++ txt [b] = txt ((sig ms).take (k + 1)) := by
        rw [txt_append, List.take_succ_eq_append_getElem (by rw [sig_len]; have := HN.out; omega)]
        congr 3
        rw [← hgb, List.getD_eq_getElem?_getD, List.getElem?_eq_getElem (by rw [sig_len]; have := HN.out; omega)]
        rfl
      have hsum : ¬ (9223372036854775807 < (txt ((sig ms).take k)).size + (txt [b]).size) := by rw [txt_size, txt_size, List.length_take]; simp; omega
      obtain ⟨S, hS⟩ : ∃ S, S = txt ((sig ms).take k) := ⟨_, rfl⟩
      obtain ⟨S2, hS2⟩ : ∃ S2, S2 = txt ((sig ms).take (k + 1)) := ⟨_, rfl⟩
      obtain ⟨B, hB⟩ : ∃ B, B = txt [b] := ⟨_, rfl⟩
      have hcv := fun W => conv1 W b
      rw [← hB] at hcat hsum hcv
      rw [← hS] at hcat hsum ⊢
      rw [← hS2] at hcat
      have HS2 := Aside0.mk hS2
      have HKN := Aside0.mk hk
      have HMU := Aside0.mk hb127
      clear hS hS2 hB hb hgb hwt hx hcl hxr
      have hneg' : wt < 0 ∨ 0 ≤ wt := by omega
      by_cases t1 : b < 32
      · have e1 : decide ((b : Int) < 32) = true := by simp; omega
        have hm := Aside0.mk (show must true b = true by simp [must, t1])
        clear t1 hb127
        rcases hneg' with hneg | hneg
        · have dwt : decide (wt < 0) = true := by simp; omega
          have HV := Aside0.mk (HNX.out.1 ⟨hneg, hm.out⟩)
          clear hneg HNX HMU
          go_wp2_with fail
          go_roundg (gk - 1)
          case measure => have := HK.out; have := HKN.out; omega
          case rel => exact ⟨k + 1, congrArg (Value.int .i64) (by have := HKN.out; first | omega | (unfold wrap64; omega)), congrArg Value.string HS2.out, congrArg (Value.int .i64) HV.out.symm, ⟨by have := HK.out; have := HKN.out; omega⟩, ⟨by repeat (first | (with_reducible first | exact HB.out | apply below_alloc | apply pw_below_drewN | apply below_drew) | exact HB.out)⟩⟩
        · have dwt : decide (wt < 0) = false := by simp; omega
          have HV := Aside0.mk (HNX.out.2 (fun hh => by have := hh.1; omega))
          clear hneg HNX HMU
          go_wp2_with fail
          go_roundg (gk - 1)
          case measure => have := HK.out; have := HKN.out; omega
          case rel => exact ⟨k + 1, congrArg (Value.int .i64) (by have := HKN.out; first | omega | (unfold wrap64; omega)), congrArg Value.string HS2.out, congrArg (Value.int .i64) HV.out.symm, ⟨by have := HK.out; have := HKN.out; omega⟩, ⟨by repeat (first | (with_reducible first | exact HB.out | apply below_alloc | apply pw_below_drewN | apply below_drew) | exact HB.out)⟩⟩
      have e1 : decide ((b : Int) < 32) = false := by simp; omega
      by_cases t34 : b = 34
      · have hm := Aside0.mk (show must true b = true by rw [t34]; decide)
        have e34t : ((b : Int) == 34) = true := beq_iff_eq.2 (by omega)
        clear hb127 t34
        rcases hneg' with hneg | hneg
        · have dwt : decide (wt < 0) = true := by simp; omega
          have HV := Aside0.mk (HNX.out.1 ⟨hneg, hm.out⟩)
          clear hneg HNX HMU
          go_wp2_with fail
          go_roundg (gk - 1)
          case measure => have := HK.out; have := HKN.out; omega
          case rel => exact ⟨k + 1, congrArg (Value.int .i64) (by have := HKN.out; first | omega | (unfold wrap64; omega)), congrArg Value.string HS2.out, congrArg (Value.int .i64) HV.out.symm, ⟨by have := HK.out; have := HKN.out; omega⟩, ⟨by repeat (first | (with_reducible first | exact HB.out | apply below_alloc | apply pw_below_drewN | apply below_drew) | exact HB.out)⟩⟩
        · have dwt : decide (wt < 0) = false := by simp; omega
          have HV := Aside0.mk (HNX.out.2 (fun hh => by have := hh.1; omega))
          clear hneg HNX HMU
          go_wp2_with fail
          go_roundg (gk - 1)
          case measure => have := HK.out; have := HKN.out; omega
          case rel => exact ⟨k + 1, congrArg (Value.int .i64) (by have := HKN.out; first | omega | (unfold wrap64; omega)), congrArg Value.string HS2.out, congrArg (Value.int .i64) HV.out.symm, ⟨by have := HK.out; have := HKN.out; omega⟩, ⟨by repeat (first | (with_reducible first | exact HB.out | apply below_alloc | apply pw_below_drewN | apply below_drew) | exact HB.out)⟩⟩
      have e34 : ((b : Int) == 34) = false := beq_eq_false_iff_ne.2 (by omega)
      by_cases t92 : b = 92
      · have hm := Aside0.mk (show must true b = true by rw [t92]; decide)
        have e92t : ((b : Int) == 92) = true := beq_iff_eq.2 (by omega)
        clear hb127 t92
        rcases hneg' with hneg | hneg
        · have dwt : decide (wt < 0) = true := by simp; omega
          have HV := Aside0.mk (HNX.out.1 ⟨hneg, hm.out⟩)
          clear hneg HNX HMU
          go_wp2_with fail
          go_roundg (gk - 1)
          case measure => have := HK.out; have := HKN.out; omega
          case rel => exact ⟨k + 1, congrArg (Value.int .i64) (by have := HKN.out; first | omega | (unfold wrap64; omega)), congrArg Value.string HS2.out, congrArg (Value.int .i64) HV.out.symm, ⟨by have := HK.out; have := HKN.out; omega⟩, ⟨by repeat (first | (with_reducible first | exact HB.out | apply below_alloc | apply pw_below_drewN | apply below_drew) | exact HB.out)⟩⟩
        · have dwt : decide (wt < 0) = false := by simp; omega
          have HV := Aside0.mk (HNX.out.2 (fun hh => by have := hh.1; omega))
          clear hneg HNX HMU
          go_wp2_with fail
          go_roundg (gk - 1)
          case measure => have := HK.out; have := HKN.out; omega
          case rel => exact ⟨k + 1, congrArg (Value.int .i64) (by have := HKN.out; first | omega | (unfold wrap64; omega)), congrArg Value.string HS2.out, congrArg (Value.int .i64) HV.out.symm, ⟨by have := HK.out; have := HKN.out; omega⟩, ⟨by repeat (first | (with_reducible first | exact HB.out | apply below_alloc | apply pw_below_drewN | apply below_drew) | exact HB.out)⟩⟩
      have e92 : ((b : Int) == 92) = false := beq_eq_false_iff_ne.2 (by omega)
      by_cases t60 : b = 60
      · have hm := Aside0.mk (show must true b = true by rw [t60]; decide)
        have e60t : ((b : Int) == 60) = true := beq_iff_eq.2 (by omega)
        clear hb127 t60
        rcases hneg' with hneg | hneg
        · have dwt : decide (wt < 0) = true := by simp; omega
          have HV := Aside0.mk (HNX.out.1 ⟨hneg, hm.out⟩)
          clear hneg HNX HMU
          go_wp2_with fail
          go_roundg (gk - 1)
          case measure => have := HK.out; have := HKN.out; omega
          case rel => exact ⟨k + 1, congrArg (Value.int .i64) (by have := HKN.out; first | omega | (unfold wrap64; omega)), congrArg Value.string HS2.out, congrArg (Value.int .i64) HV.out.symm, ⟨by have := HK.out; have := HKN.out; omega⟩, ⟨by repeat (first | (with_reducible first | exact HB.out | apply below_alloc | apply pw_below_drewN | apply below_drew) | exact HB.out)⟩⟩
        · have dwt : decide (wt < 0) = false := by simp; omega
          have HV := Aside0.mk (HNX.out.2 (fun hh => by have := hh.1; omega))
          clear hneg HNX HMU
          go_wp2_with fail
          go_roundg (gk - 1)
          case measure => have := HK.out; have := HKN.out; omega
          case rel => exact ⟨k + 1, congrArg (Value.int .i64) (by have := HKN.out; first | omega | (unfold wrap64; omega)), congrArg Value.string HS2.out, congrArg (Value.int .i64) HV.out.symm, ⟨by have := HK.out; have := HKN.out; omega⟩, ⟨by repeat (first | (with_reducible first | exact HB.out | apply below_alloc | apply pw_below_drewN | apply below_drew) | exact HB.out)⟩⟩
      have e60 : ((b : Int) == 60) = false := beq_eq_false_iff_ne.2 (by omega)
      by_cases t62 : b = 62
      · have hm := Aside0.mk (show must true b = true by rw [t62]; decide)
        have e62t : ((b : Int) == 62) = true := beq_iff_eq.2 (by omega)
        clear hb127 t62
        rcases hneg' with hneg | hneg
        · have dwt : decide (wt < 0) = true := by simp; omega
          have HV := Aside0.mk (HNX.out.1 ⟨hneg, hm.out⟩)
          clear hneg HNX HMU
          go_wp2_with fail
          go_roundg (gk - 1)
          case measure => have := HK.out; have := HKN.out; omega
          case rel => exact ⟨k + 1, congrArg (Value.int .i64) (by have := HKN.out; first | omega | (unfold wrap64; omega)), congrArg Value.string HS2.out, congrArg (Value.int .i64) HV.out.symm, ⟨by have := HK.out; have := HKN.out; omega⟩, ⟨by repeat (first | (with_reducible first | exact HB.out | apply below_alloc | apply pw_below_drewN | apply below_drew) | exact HB.out)⟩⟩
        · have dwt : decide (wt < 0) = false := by simp; omega
          have HV := Aside0.mk (HNX.out.2 (fun hh => by have := hh.1; omega))
          clear hneg HNX HMU
          go_wp2_with fail
          go_roundg (gk - 1)
          case measure => have := HK.out; have := HKN.out; omega
          case rel => exact ⟨k + 1, congrArg (Value.int .i64) (by have := HKN.out; first | omega | (unfold wrap64; omega)), congrArg Value.string HS2.out, congrArg (Value.int .i64) HV.out.symm, ⟨by have := HK.out; have := HKN.out; omega⟩, ⟨by repeat (first | (with_reducible first | exact HB.out | apply below_alloc | apply pw_below_drewN | apply below_drew) | exact HB.out)⟩⟩
      have e62 : ((b : Int) == 62) = false := beq_eq_false_iff_ne.2 (by omega)
      by_cases t38 : b = 38
      · have hm := Aside0.mk (show must true b = true by rw [t38]; decide)
        have e38t : ((b : Int) == 38) = true := beq_iff_eq.2 (by omega)
        clear hb127 t38
        rcases hneg' with hneg | hneg
        · have dwt : decide (wt < 0) = true := by simp; omega
          have HV := Aside0.mk (HNX.out.1 ⟨hneg, hm.out⟩)
          clear hneg HNX HMU
          go_wp2_with fail
          go_roundg (gk - 1)
          case measure => have := HK.out; have := HKN.out; omega
          case rel => exact ⟨k + 1, congrArg (Value.int .i64) (by have := HKN.out; first | omega | (unfold wrap64; omega)), congrArg Value.string HS2.out, congrArg (Value.int .i64) HV.out.symm, ⟨by have := HK.out; have := HKN.out; omega⟩, ⟨by repeat (first | (with_reducible first | exact HB.out | apply below_alloc | apply pw_below_drewN | apply below_drew) | exact HB.out)⟩⟩
        · have dwt : decide (wt < 0) = false := by simp; omega
          have HV := Aside0.mk (HNX.out.2 (fun hh => by have := hh.1; omega))
          clear hneg HNX HMU
          go_wp2_with fail
          go_roundg (gk - 1)
          case measure => have := HK.out; have := HKN.out; omega
          case rel => exact ⟨k + 1, congrArg (Value.int .i64) (by have := HKN.out; first | omega | (unfold wrap64; omega)), congrArg Value.string HS2.out, congrArg (Value.int .i64) HV.out.symm, ⟨by have := HK.out; have := HKN.out; omega⟩, ⟨by repeat (first | (with_reducible first | exact HB.out | apply below_alloc | apply pw_below_drewN | apply below_drew) | exact HB.out)⟩⟩
      have e38 : ((b : Int) == 38) = false := beq_eq_false_iff_ne.2 (by omega)
      have hm := Aside0.mk (show must true b = false by simp [must]; omega)
      clear t1 t34 t92 t60 t62 t38 hb127
      rcases hneg' with hneg | hneg
      · have dwt : decide (wt < 0) = true := by simp; omega
        have HV := Aside0.mk (HNX.out.2 (fun hh => by have := hh.2; rw [hm.out] at this; cases this))
        clear hneg HNX HMU
        go_wp2_with fail
        go_roundg (gk - 1)
        case measure => have := HK.out; have := HKN.out; omega
        case rel => exact ⟨k + 1, congrArg (Value.int .i64) (by have := HKN.out; first | omega | (unfold wrap64; omega)), congrArg Value.string HS2.out, congrArg (Value.int .i64) HV.out.symm, ⟨by have := HK.out; have := HKN.out; omega⟩, ⟨by repeat (first | (with_reducible first | exact HB.out | apply below_alloc | apply pw_below_drewN | apply below_drew) | exact HB.out)⟩⟩
      · have dwt : decide (wt < 0) = false := by simp; omega
        have HV := Aside0.mk (HNX.out.2 (fun hh => by have := hh.2; rw [hm.out] at this; cases this))
        clear hneg HNX HMU
        go_wp2_with fail
        go_roundg (gk - 1)
        case measure => have := HK.out; have := HKN.out; omega
        case rel => exact ⟨k + 1, congrArg (Value.int .i64) (by have := HKN.out; first | omega | (unfold wrap64; omega)), congrArg Value.string HS2.out, congrArg (Value.int .i64) HV.out.symm, ⟨by have := HK.out; have := HKN.out; omega⟩, ⟨by repeat (first | (with_reducible first | exact HB.out | apply below_alloc | apply pw_below_drewN | apply below_drew) | exact HB.out)⟩⟩
    · have hkn : k = n := by have := HK.out; omega
      subst hkn
      have dk : decide (k < k) = false := by simp
      have hsl : (sig ms).length = k := by rw [sig_len]; exact HN.out.symm
      have htk : (sig ms).take k = sig ms := List.take_of_length_le (by omega)
      rw [htk]
      have hwf : fst true (sig ms) k 0 = Found true (sig ms) := by unfold Found; rw [hsl]
      rw [hwf]
      have hfr := fst_range true (sig ms) k
      rw [hwf] at hfr
      obtain ⟨wt, hwt⟩ : ∃ wt, wt = Found true (sig ms) := ⟨_, rfl⟩
      rw [← hwt] at hfr ⊢
      have hsz : (txt (sig ms)).size = k := by rw [txt_size]; exact hsl
      have HD0 := Aside0.mk (fun (W : World) (hT : Tab W) (hw : wt < 8 ∨ ((8 * (k / 8) : Nat) : Int) ≤ wt) => door true (sig ms) (sig_lt ms) (by omega) (by rw [← hwt, hsl]; exact hw) W hT)
      rw [← hwt] at HD0
      have HDQ := Aside0.mk (fun (W : World) (hT : Tab W) => door true [97, 98, 34] (by decide) (by decide) (.inl (by rw [found_quote]; decide)) W hT)
      rw [found_quote] at HDQ
      obtain ⟨S, hS⟩ : ∃ S, S = txt (sig ms) := ⟨_, rfl⟩
      rw [← hS] at HD0 hsz ⊢
      have HTB := Aside0.mk (HT.out.below HB.out)
      have HFR := Aside0.mk hfr
      clear hwf htk hsl hk hwt hS hfr HK HT
      rw [← txt_quote] at HDQ
      have hwr := HB.out.size
      by_cases c8 : 8 ≤ wt
      · have d8 : decide (8 ≤ wt) = true := by simp; omega
        by_cases cq : wt < (k : Int) / 8 * 8
        · have dq : decide (wt < (k : Int) / 8 * 8) = true := by simp; omega
          clear HD0 c8 cq
          go_wp2_with (go_at_call 6; (with_reducible refine (HDQ.out _ HTB.out).mono ?_); rintro e w5 ⟨rfl, hb⟩; have HBC := Aside0.mk (HB.out.trans (hb.mono hwr)); clear hb)
          go_ret
          exact ⟨rfl, HBC.out⟩
        · have dq : decide (wt < (k : Int) / 8 * 8) = false := by simp; omega
          have HD1 := Aside0.mk (HD0.out wr HTB.out (.inr (by omega)))
          clear HD0 c8 cq
          go_wp2_with (first | (go_at_call 6; (with_reducible refine HD1.out.mono ?_); rintro e w5 ⟨rfl, hb⟩; have HTC := Aside0.mk (HTB.out.below hb); have HBC := Aside0.mk (HB.out.trans (hb.mono hwr)); have hwr2 := HBC.out.size; clear hb HD1 HTB) | (go_at_call 6; (with_reducible refine (HDQ.out _ HTC.out).mono ?_); rintro e w6 ⟨rfl, hb⟩; have HBD := Aside0.mk (HBC.out.trans (hb.mono hwr2)); clear hb))
          go_ret
          exact ⟨by first | rfl | simp, HBD.out⟩
      · have d8 : decide (8 ≤ wt) = false := by simp; omega
        have HD1 := Aside0.mk (HD0.out wr HTB.out (.inl (by omega)))
        clear HD0 c8
        go_wp2_with (first | (go_at_call 6; (with_reducible refine HD1.out.mono ?_); rintro e w5 ⟨rfl, hb⟩; have HTC := Aside0.mk (HTB.out.below hb); have HBC := Aside0.mk (HB.out.trans (hb.mono hwr)); have hwr2 := HBC.out.size; clear hb HD1 HTB) | (go_at_call 6; (with_reducible refine (HDQ.out _ HTC.out).mono ?_); rintro e w6 ⟨rfl, hb⟩; have HBD := Aside0.mk (HBC.out.trans (hb.mono hwr2)); clear hb))
        go_ret
        exact ⟨by first | rfl | simp, HBD.out⟩
end Go.Proofs.YtlagcfdojbjmmaaDoor.Esc
