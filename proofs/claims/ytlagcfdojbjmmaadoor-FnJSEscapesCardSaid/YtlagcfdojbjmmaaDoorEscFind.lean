/- The search for the first byte that must be escaped. -/
import Derived.Test.YtlagcfdojbjmmaaDoorEscChunks
namespace Go.Proofs.YtlagcfdojbjmmaaDoor.Esc
open Go.RowKit Go.Proofs.YtlagcfdojbjmmaaDoor.PFnJSEscapes Go.Proofs.YtlagcfdojbjmmaaDoorW.PrintWords Go.Proofs.YtlagcfdojbjmmaaDoorW.PrintLast Go.Proofs.YtlagcfdojbjmmaaDoorW.PrintMore
set_option linter.unusedVariables false
set_option linter.unusedSimpArgs false
/-- The first byte from place i on, among d, that must be escaped, or -1. -/
def fst (h : Bool) (L : List Nat) : Nat → Nat → Int
  | 0, _ => -1
  | d + 1, i => if must h (L.getD i 0) then (i : Int) else fst h L d (i + 1)
theorem eight_len (L : List Nat) (o : Nat) : (eight L o).length = 8 := rfl
theorem eight_get (L : List Nat) (o k : Nat) (hk : k < 8) : (eight L o).getD k 0 = L.getD (o + k) 0 := by
  have hc : k = 0 ∨ k = 1 ∨ k = 2 ∨ k = 3 ∨ k = 4 ∨ k = 5 ∨ k = 6 ∨ k = 7 := by omega
  rcases hc with rfl | rfl | rfl | rfl | rfl | rfl | rfl | rfl <;> rfl
theorem eight_lt (L : List Nat) (o : Nat) (hb : ∀ b ∈ L, b < 127) : ∀ b ∈ eight L o, b < 127 := by
  intro b h
  have g := fun i => getD_lt (l := L) (m := 127) (by decide) hb i
  simp only [eight, List.mem_cons, List.not_mem_nil, or_false] at h
  rcases h with rfl | rfl | rfl | rfl | rfl | rfl | rfl | rfl <;> exact g _
/-- The words of one number's test. -/
structure Words (h : Bool) (X Y0 Y34 Y92 Y60 Y62 Y38 Z : Int) : Prop where
  y0 : json_below.f X 32 = some Y0
  y34 : json_contains.f X 34 = some Y34
  y92 : json_contains.f X 92 = some Y92
  y60 : json_contains.f X 60 = some Y60
  y62 : json_contains.f X 62 = some Y62
  y38 : json_contains.f X 38 = some Y38
  z0 : h = false → Go.bits .and .u64 (Go.bits .or .u64 (Go.bits .or .u64 (Go.bits .or .u64 X Y0) Y34) Y92) 9259542123273814144 = Z
  z1 : h = true → Go.bits .and .u64 (Go.bits .or .u64 (Go.bits .or .u64 (Go.bits .or .u64 (Go.bits .or .u64 X Y0) Y34) Y92) (Go.bits .or .u64 (Go.bits .or .u64 Y60 Y62) Y38)) 9259542123273814144 = Z
theorem below_is (X : Int) : json_below.f X 32 = some (belowW X) := by
  unfold json_below.f json_expand.f belowW
  rw [Option.bind_some]
theorem contains_is (X c : Int) : json_contains.f X c = some (containsW X c) := by
  unfold json_contains.f json_expand.f containsW
  rw [Option.bind_some]
theorem words (h : Bool) (X : Int) : ∃ Y0 Y34 Y92 Y60 Y62 Y38, Words h X Y0 Y34 Y92 Y60 Y62 Y38 (chk h X) := by
  refine ⟨belowW X, containsW X 34, containsW X 92, containsW X 60, containsW X 62, containsW X 38, below_is X, contains_is X 34, contains_is X 92, contains_is X 60, contains_is X 62, contains_is X 38, fun e => ?_, fun e => ?_⟩
  · subst e
    unfold chk mask0
    rw [if_neg (by decide)]
  · subst e
    unfold chk mask1 mask0
    rw [if_pos rfl]
theorem cks_get (L : List Nat) (M k : Nat) (hk : k < M) : (cks L M).getD k 0 = ((w8 (eight L (8 * k)) : Nat) : Int) := by
  rw [List.getD_eq_getElem?_getD]
  simp [cks, hk]

theorem chunks2 (L : List Nat) (hb : ∀ b ∈ L, b < 128) (hl : L.length ≤ 40) (M : Nat) (hM : M = L.length / 8) (w : World) :
    Calls Tryd.prog 17 #[.string (txt L)] w fun e w' => ∃ A c, e = .returned (.slice A M c) ∧ (0 < M → ∃ ad, A = some ad ∧ ∀ j, j < M → w'.cell? (ad.add j) = some (.int .u64 ((w8 (eight L (8 * j)) : Nat) : Int))) ∧ Below w.heap.size w w' := by
  refine (chunks L hb hl w).mono ?_
  rintro e w1 ⟨v, rfl, ho, hb⟩
  obtain ⟨A, c, rfl, hc, hC⟩ := Kd.R_reads ho
  rw [cks_len, ← hM] at *
  refine ⟨A, c, rfl, fun h0 => ?_, hb⟩
  obtain ⟨ad, e, hr⟩ := (Kd.reads_of_C (enc := Value.int .u64) (d := (0 : Int)) (h1 := fun _ => rfl) hC).2.2 h0
  exact ⟨ad, e, fun j hj => by rw [hr j hj, cks_get L M j hj]⟩

set_option maxHeartbeats 4000000 in
set_option maxRecDepth 100000 in
theorem escA0 (L : List Nat) (hb : ∀ b ∈ L, b < 127) (hl : L.length ≤ 40) (h8 : 8 ≤ L.length) (i : Nat) (hi : i < 8) (hp : ∀ k, k < i → must false (L.getD k 0) = false) (hm : must false (L.getD i 0) = true) (w : World) (ht : Tab w) :
    Calls Tryd.prog 16 #[.string (txt L), .bool false] w fun e w' => e = .returned (.int .i64 (i : Int)) ∧ Below w.heap.size w w' := by
  have hM : 0 < L.length / 8 := by omega
  obtain ⟨M, hMe⟩ : ∃ M, M = L.length / 8 := ⟨_, rfl⟩
  have HC := Aside0.mk (chunks2 L (fun b h => by have := hb b h; omega) hl M hMe w)
  obtain ⟨X, hX⟩ : ∃ X : Int, X = ((w8 (eight L 0) : Nat) : Int) := ⟨_, rfl⟩
  have hf := chk_first false (eight_len L 0) (eight_lt L 0 hb) i hi (fun k hk => by rw [eight_get L 0 k (by omega), Nat.zero_add]; exact hp k hk) (by rw [eight_get L 0 i hi, Nat.zero_add]; exact hm)
  rw [← hX] at hf
  obtain ⟨Y0, Y34, Y92, Y60, Y62, Y38, hw⟩ := words false X
  obtain ⟨Z, hZ⟩ : ∃ Z, Z = chk false X := ⟨_, rfl⟩
  rw [← hZ] at hf hw
  have HW := Aside0.mk hw
  have hz := hw.z0 rfl
  have hzb : (Z == 0) = false := beq_eq_false_iff_ne.2 (by omega)
  have hzn : (Z != 0) = true := by simp [bne, hzb]
  have HTZ := Aside0.mk (fun W hT => tz i hi Z hf.1 hf.2.1 hf.2.2 W hT)
  have HQ := Aside0.mk (show wrap64 (Int.tdiv (8 * (i : Int) + 7) 8) = (i : Int) by rw [Int.tdiv_eq_ediv_of_nonneg (by omega)]; unfold wrap64; omega)
  have HT := Aside0.mk ht
  rw [← hMe] at hM
  have HX := Aside0.mk hX
  have dM : decide (0 < M) = true := by simp; omega
  have HM := Aside0.mk hM
  clear hX hf hw hZ hp hm hb h8 hMe ht hM hi
  have hi' := Aside0.mk hl
  clear hl
  go_enter Tryd.func16, Tryd.ntmps16
  go_wp2_with (go_at_call 17; (with_reducible refine HC.out.mono ?_); rintro e w1 ⟨A, c, rfl, hr, hb⟩; obtain ⟨ad, rfl, hr2⟩ := hr HM.out; have HR := Aside0.mk hr2; have HB := Aside0.mk hb; clear hr hr2 hb)
  go_loopg [15] 1 (fun kq v15 w' => v15 = .int .i64 0 ∧ w' = w1)
  case atStart => exact ⟨rfl, rfl⟩
  case round =>
    obtain ⟨rfl, rfl⟩ := hrel
    have hMp := HM.out
    have hx0 : wr.cell? ad = some (.int .u64 X) := by
      have h := HR.out 0 HM.out
      rw [show ad.add 0 = ad from by unfold Addr.add; split <;> simp_all] at h
      rw [HX.out]
      exact h
    go_wp2_with (first | (go_at_call 20; (with_reducible refine (HTZ.out _ (HT.out.below (below_then HB.out HB.out.size (pw_below_drewN (Below.refl _ _) _)))).mono ?_); rintro e w2 ⟨rfl, hb2⟩; have HB2 := Aside0.mk ((pw_below_drewN HB.out _).trans (hb2.mono HB.out.size)); clear hb2) | (go_at_call 18; (with_reducible refine (json_below.calls X 32 Y0 _ HW.out.y0).mono ?_); rintro e w2 ⟨rfl, ⟨nd, rfl⟩⟩) | (go_at_call 19; (with_reducible first | refine (json_contains.calls X 34 Y34 _ HW.out.y34).mono ?_ | refine (json_contains.calls X 92 Y92 _ HW.out.y92).mono ?_ | refine (json_contains.calls X 60 Y60 _ HW.out.y60).mono ?_ | refine (json_contains.calls X 62 Y62 _ HW.out.y62).mono ?_ | refine (json_contains.calls X 38 Y38 _ HW.out.y38).mono ?_); rintro e w2 ⟨rfl, ⟨nd, rfl⟩⟩))
    go_ret
    exact ⟨congrArg Ending.returned (congrArg (Value.int .i64) HQ.out), HB2.out⟩

set_option maxHeartbeats 4000000 in
set_option maxRecDepth 100000 in
theorem escA1 (L : List Nat) (hb : ∀ b ∈ L, b < 127) (hl : L.length ≤ 40) (h8 : 8 ≤ L.length) (i : Nat) (hi : i < 8) (hp : ∀ k, k < i → must true (L.getD k 0) = false) (hm : must true (L.getD i 0) = true) (w : World) (ht : Tab w) :
    Calls Tryd.prog 16 #[.string (txt L), .bool true] w fun e w' => e = .returned (.int .i64 (i : Int)) ∧ Below w.heap.size w w' := by
  have hM : 0 < L.length / 8 := by omega
  obtain ⟨M, hMe⟩ : ∃ M, M = L.length / 8 := ⟨_, rfl⟩
  have HC := Aside0.mk (chunks2 L (fun b h => by have := hb b h; omega) hl M hMe w)
  obtain ⟨X, hX⟩ : ∃ X : Int, X = ((w8 (eight L 0) : Nat) : Int) := ⟨_, rfl⟩
  have hf := chk_first true (eight_len L 0) (eight_lt L 0 hb) i hi (fun k hk => by rw [eight_get L 0 k (by omega), Nat.zero_add]; exact hp k hk) (by rw [eight_get L 0 i hi, Nat.zero_add]; exact hm)
  rw [← hX] at hf
  obtain ⟨Y0, Y34, Y92, Y60, Y62, Y38, hw⟩ := words true X
  obtain ⟨Z, hZ⟩ : ∃ Z, Z = chk true X := ⟨_, rfl⟩
  rw [← hZ] at hf hw
  have HW := Aside0.mk hw
  have hz := hw.z1 rfl
  have hzb : (Z == 0) = false := beq_eq_false_iff_ne.2 (by omega)
  have hzn : (Z != 0) = true := by simp [bne, hzb]
  have HTZ := Aside0.mk (fun W hT => tz i hi Z hf.1 hf.2.1 hf.2.2 W hT)
  have HQ := Aside0.mk (show wrap64 (Int.tdiv (8 * (i : Int) + 7) 8) = (i : Int) by rw [Int.tdiv_eq_ediv_of_nonneg (by omega)]; unfold wrap64; omega)
  have HT := Aside0.mk ht
  rw [← hMe] at hM
  have HX := Aside0.mk hX
  have dM : decide (0 < M) = true := by simp; omega
  have HM := Aside0.mk hM
  clear hX hf hw hZ hp hm hb h8 hMe ht hM hi
  have hi' := Aside0.mk hl
  clear hl
  go_enter Tryd.func16, Tryd.ntmps16
  go_wp2_with (go_at_call 17; (with_reducible refine HC.out.mono ?_); rintro e w1 ⟨A, c, rfl, hr, hb⟩; obtain ⟨ad, rfl, hr2⟩ := hr HM.out; have HR := Aside0.mk hr2; have HB := Aside0.mk hb; clear hr hr2 hb)
  go_loopg [15] 1 (fun kq v15 w' => v15 = .int .i64 0 ∧ w' = w1)
  case atStart => exact ⟨rfl, rfl⟩
  case round =>
    obtain ⟨rfl, rfl⟩ := hrel
    have hMp := HM.out
    have hx0 : wr.cell? ad = some (.int .u64 X) := by
      have h := HR.out 0 HM.out
      rw [show ad.add 0 = ad from by unfold Addr.add; split <;> simp_all] at h
      rw [HX.out]
      exact h
    go_wp2_with (first | (go_at_call 20; (with_reducible refine (HTZ.out _ (HT.out.below (below_then HB.out HB.out.size (pw_below_drewN (Below.refl _ _) _)))).mono ?_); rintro e w2 ⟨rfl, hb2⟩; have HB2 := Aside0.mk ((pw_below_drewN HB.out _).trans (hb2.mono HB.out.size)); clear hb2) | (go_at_call 18; (with_reducible refine (json_below.calls X 32 Y0 _ HW.out.y0).mono ?_); rintro e w2 ⟨rfl, ⟨nd, rfl⟩⟩) | (go_at_call 19; (with_reducible first | refine (json_contains.calls X 34 Y34 _ HW.out.y34).mono ?_ | refine (json_contains.calls X 92 Y92 _ HW.out.y92).mono ?_ | refine (json_contains.calls X 60 Y60 _ HW.out.y60).mono ?_ | refine (json_contains.calls X 62 Y62 _ HW.out.y62).mono ?_ | refine (json_contains.calls X 38 Y38 _ HW.out.y38).mono ?_); rintro e w2 ⟨rfl, ⟨nd, rfl⟩⟩))
    go_ret
    exact ⟨congrArg Ending.returned (congrArg (Value.int .i64) HQ.out), HB2.out⟩

theorem index_txt (L : List Nat) (hb : ∀ b ∈ L, b < 256) (p : Nat) (hp : p < L.length) (w : World) : Sem.run Tryd.prog (Instr.index 9 (.string (txt L)) (.int .i64 (p : Int))) w = .ok (.int .u8 ((L.getD p 0 : Nat) : Int)) w := by
  have hsz := txt_size L
  have ha := txt_at L hb p hp
  rw [run_index_string w 9 (txt L) .i64 (p : Int) Tryd.underlying9]
  rw [dif_pos (by constructor <;> omega)]
  have e : ((txt L)[((p : Int)).toNat]'(by omega)).toNat = L.getD p 0 := by
    rw [← ha]
    have h2 : p < (txt L).data.toList.length := by
      have : (txt L).data.toList.length = (txt L).size := rfl
      omega
    rw [List.getD_eq_getElem?_getD, List.getElem?_eq_getElem h2]
    rfl
  rw [e]

set_option maxHeartbeats 4000000 in
set_option maxRecDepth 100000 in
theorem escB0 (L : List Nat) (hb : ∀ b ∈ L, b < 127) (hl : L.length ≤ 40) (hp : ∀ k, k < 8 * (L.length / 8) → must false (L.getD k 0) = false) (w : World) :
    Calls Tryd.prog 16 #[.string (txt L), .bool false] w fun e w' => e = .returned (.int .i64 (fst false L (L.length - 8 * (L.length / 8)) (8 * (L.length / 8)))) ∧ Below w.heap.size w w' := by
  obtain ⟨M, hMe⟩ : ∃ M, M = L.length / 8 := ⟨_, rfl⟩
  have HC := Aside0.mk (chunks2 L (fun b h => by have := hb b h; omega) hl M hMe w)
  have HIX := Aside0.mk (index_txt L (fun b h => by have := hb b h; omega))
  have hM5 : M ≤ 5 := by omega
  have hM8 : 8 * M ≤ L.length := by omega
  rw [← hMe] at hp ⊢
  have HP := Aside0.mk hp
  have HL := Aside0.mk hb
  have hsz := txt_size L
  obtain ⟨N, hN⟩ : ∃ N, N = L.length := ⟨_, rfl⟩
  rw [← hN] at hM8 hsz hl HIX ⊢
  clear hp hMe hb hN
  obtain ⟨r, hr⟩ : ∃ r, r = fst false L (N - 8 * M) (8 * M) := ⟨_, rfl⟩
  rw [← hr]
  have HR := Aside0.mk hr
  have hmul : wrap64 ((M : Int) * 8) = ((8 * M : Nat) : Int) := by unfold wrap64; omega
  clear hr
  go_enter Tryd.func16, Tryd.ntmps16
  go_wp2_with (go_at_call 17; (with_reducible refine HC.out.mono ?_); rintro e w1 ⟨A, c, rfl, hr, hb⟩; have HRD := Aside0.mk hr; have HB := Aside0.mk hb; clear hr hb)
  go_loopg [15] M (fun kq v15 w' => ∃ k : Nat, v15 = .int .i64 (k : Int) ∧ Aside0 (k + kq = M) ∧ Aside0 (Below w1.heap.size w1 w'))
  case atStart => exact ⟨0, rfl, ⟨by omega⟩, ⟨Below.refl _ _⟩⟩
  case round =>
    obtain ⟨k, rfl, HK, HB2⟩ := hrel
    by_cases hk : k < M
    · obtain ⟨ad, rfl, hrd⟩ := HRD.out (by omega)
      have d1 : decide (k < M) = true := by simp; omega
      obtain ⟨X, hX⟩ : ∃ X : Int, X = ((w8 (eight L (8 * k)) : Nat) : Int) := ⟨_, rfl⟩
      have hx0 : wr.cell? (ad.add k) = some (.int .u64 X) := by rw [hX]; exact pw_cell_below HB2.out (hrd k hk)
      have hpl := chk_plain false (eight_len L (8 * k)) (eight_lt L (8 * k) HL.out) (fun j hj => by rw [eight_get L (8 * k) j hj]; exact HP.out (8 * k + j) (by omega))
      rw [← hX] at hpl
      obtain ⟨Y0, Y34, Y92, Y60, Y62, Y38, hw⟩ := words false X
      rw [hpl] at hw
      have HW := Aside0.mk hw
      have hz := hw.z0 rfl
      have HKM := Aside0.mk hk
      clear hX hpl hw hrd
      go_wp2_with (first | (go_at_call 18; (with_reducible refine (json_below.calls X 32 Y0 _ HW.out.y0).mono ?_); rintro e w2 ⟨rfl, ⟨nd, rfl⟩⟩) | (go_at_call 19; (with_reducible first | refine (json_contains.calls X 34 Y34 _ HW.out.y34).mono ?_ | refine (json_contains.calls X 92 Y92 _ HW.out.y92).mono ?_ | refine (json_contains.calls X 60 Y60 _ HW.out.y60).mono ?_ | refine (json_contains.calls X 62 Y62 _ HW.out.y62).mono ?_ | refine (json_contains.calls X 38 Y38 _ HW.out.y38).mono ?_); rintro e w2 ⟨rfl, ⟨nd, rfl⟩⟩))
      go_roundg (gk - 1)
      case measure => have := HK.out; omega
      case rel => exact ⟨k + 1, by simp, ⟨by have := HK.out; omega⟩, ⟨by repeat (first | (with_reducible first | exact HB2.out | apply pw_below_drewN | apply below_drew) | exact HB2.out)⟩⟩
    · have hkM : k = M := by have := HK.out; omega
      subst hkM
      have d1 : decide (k < k) = false := by simp
      have HB3 := Aside0.mk (HB.out.trans (HB2.out.mono HB.out.size))
      clear HB2 HB hk HK HRD HC HP
      go_upto_region 12 with fail
      go_loopg [9] (N - 8 * k) (fun kq v9 w' => ∃ p : Nat, v9 = .int .i64 (p : Int) ∧ Aside0 (p + kq = N) ∧ Aside0 (r = fst false L kq p) ∧ Aside0 (Below w.heap.size w w'))
      case atStart => exact ⟨8 * k, congrArg (Value.int .i64) (by omega), ⟨by omega⟩, HR, HB3⟩
      case round =>
        obtain ⟨p, rfl, HK, HF, HB⟩ := hrel
        clear HB3 HR
        by_cases hp : p < N
        · have dp : decide (p < N) = true := by simp; omega
          have hix := HIX.out p hp
          obtain ⟨d, hd⟩ : ∃ d, gk = d + 1 := ⟨gk - 1, by have := HK.out; omega⟩
          have hf := HF.out
          rw [hd, fst] at hf
          have hbl : L.getD p 0 < 127 := getD_lt (by decide) HL.out p
          generalize L.getD p 0 = b at *
          have d127 : decide ((127 : Int) < (b : Int)) = false := by simp; omega
          have HD := Aside0.mk hd
          have HPN := Aside0.mk hp
          clear hd hp HF HIX
          by_cases t1 : b < 32
          · have HFF := Aside0.mk (show r = (p : Int) by rw [hf, if_pos (by simp [must, t1])])
            have e1 : decide ((b : Int) < 32) = true := by simp; omega
            clear hf t1 hbl d127
            go_wp2_with fail
            go_ret
            exact ⟨by rw [HFF.out]; rfl, by repeat (first | (with_reducible first | exact HB.out | apply pw_below_drewN | apply below_drew) | exact HB.out)⟩
          have e1 : decide ((b : Int) < 32) = false := by simp; omega
          by_cases t34 : b = 34
          · subst t34
            have HFF := Aside0.mk (show r = (p : Int) by rw [hf, if_pos (by decide)])
            clear hf hbl
            go_wp2_with fail
            go_ret
            exact ⟨by rw [HFF.out]; rfl, by repeat (first | (with_reducible first | exact HB.out | apply pw_below_drewN | apply below_drew) | exact HB.out)⟩
          have e34 : ((b : Int) == 34) = false := beq_eq_false_iff_ne.2 (by omega)
          by_cases t92 : b = 92
          · subst t92
            have HFF := Aside0.mk (show r = (p : Int) by rw [hf, if_pos (by decide)])
            clear hf hbl
            go_wp2_with fail
            go_ret
            exact ⟨by rw [HFF.out]; rfl, by repeat (first | (with_reducible first | exact HB.out | apply pw_below_drewN | apply below_drew) | exact HB.out)⟩
          have e92 : ((b : Int) == 92) = false := beq_eq_false_iff_ne.2 (by omega)
          have HFF := Aside0.mk (show r = fst false L d (p + 1) by rw [hf, if_neg (by simp [must]; omega)])
          clear hf hbl t1 t34 t92
          go_wp2_with fail
          go_roundg d
          case measure => have := HD.out; omega
          case rel => exact ⟨p + 1, congrArg (Value.int .i64) (by have := HPN.out; unfold wrap64; omega), ⟨by have := HD.out; have := HK.out; omega⟩, HFF, ⟨by repeat (first | (with_reducible first | exact HB.out | apply pw_below_drewN | apply below_drew) | exact HB.out)⟩⟩
        · have dp : decide (p < N) = false := by simp; omega
          have hg0 : gk = 0 := by have := HK.out; omega
          subst hg0
          have HFF := Aside0.mk (show r = -1 from HF.out)
          clear HF hp HIX
          go_wp2_with fail
          go_ret
          exact ⟨by rw [HFF.out]; rfl, by repeat (first | (with_reducible first | exact HB.out | apply pw_below_drewN | apply below_drew) | exact HB.out)⟩

set_option maxHeartbeats 4000000 in
set_option maxRecDepth 100000 in
theorem escB1 (L : List Nat) (hb : ∀ b ∈ L, b < 127) (hl : L.length ≤ 40) (hp : ∀ k, k < 8 * (L.length / 8) → must true (L.getD k 0) = false) (w : World) :
    Calls Tryd.prog 16 #[.string (txt L), .bool true] w fun e w' => e = .returned (.int .i64 (fst true L (L.length - 8 * (L.length / 8)) (8 * (L.length / 8)))) ∧ Below w.heap.size w w' := by
  obtain ⟨M, hMe⟩ : ∃ M, M = L.length / 8 := ⟨_, rfl⟩
  have HC := Aside0.mk (chunks2 L (fun b h => by have := hb b h; omega) hl M hMe w)
  have HIX := Aside0.mk (index_txt L (fun b h => by have := hb b h; omega))
  have hM5 : M ≤ 5 := by omega
  have hM8 : 8 * M ≤ L.length := by omega
  rw [← hMe] at hp ⊢
  have HP := Aside0.mk hp
  have HL := Aside0.mk hb
  have hsz := txt_size L
  obtain ⟨N, hN⟩ : ∃ N, N = L.length := ⟨_, rfl⟩
  rw [← hN] at hM8 hsz hl HIX ⊢
  clear hp hMe hb hN
  obtain ⟨r, hr⟩ : ∃ r, r = fst true L (N - 8 * M) (8 * M) := ⟨_, rfl⟩
  rw [← hr]
  have HR := Aside0.mk hr
  have hmul : wrap64 ((M : Int) * 8) = ((8 * M : Nat) : Int) := by unfold wrap64; omega
  clear hr
  go_enter Tryd.func16, Tryd.ntmps16
  go_wp2_with (go_at_call 17; (with_reducible refine HC.out.mono ?_); rintro e w1 ⟨A, c, rfl, hr, hb⟩; have HRD := Aside0.mk hr; have HB := Aside0.mk hb; clear hr hb)
  go_loopg [15] M (fun kq v15 w' => ∃ k : Nat, v15 = .int .i64 (k : Int) ∧ Aside0 (k + kq = M) ∧ Aside0 (Below w1.heap.size w1 w'))
  case atStart => exact ⟨0, rfl, ⟨by omega⟩, ⟨Below.refl _ _⟩⟩
  case round =>
    obtain ⟨k, rfl, HK, HB2⟩ := hrel
    by_cases hk : k < M
    · obtain ⟨ad, rfl, hrd⟩ := HRD.out (by omega)
      have d1 : decide (k < M) = true := by simp; omega
      obtain ⟨X, hX⟩ : ∃ X : Int, X = ((w8 (eight L (8 * k)) : Nat) : Int) := ⟨_, rfl⟩
      have hx0 : wr.cell? (ad.add k) = some (.int .u64 X) := by rw [hX]; exact pw_cell_below HB2.out (hrd k hk)
      have hpl := chk_plain true (eight_len L (8 * k)) (eight_lt L (8 * k) HL.out) (fun j hj => by rw [eight_get L (8 * k) j hj]; exact HP.out (8 * k + j) (by omega))
      rw [← hX] at hpl
      obtain ⟨Y0, Y34, Y92, Y60, Y62, Y38, hw⟩ := words true X
      rw [hpl] at hw
      have HW := Aside0.mk hw
      have hz := hw.z1 rfl
      have HKM := Aside0.mk hk
      clear hX hpl hw hrd
      go_wp2_with (first | (go_at_call 18; (with_reducible refine (json_below.calls X 32 Y0 _ HW.out.y0).mono ?_); rintro e w2 ⟨rfl, ⟨nd, rfl⟩⟩) | (go_at_call 19; (with_reducible first | refine (json_contains.calls X 34 Y34 _ HW.out.y34).mono ?_ | refine (json_contains.calls X 92 Y92 _ HW.out.y92).mono ?_ | refine (json_contains.calls X 60 Y60 _ HW.out.y60).mono ?_ | refine (json_contains.calls X 62 Y62 _ HW.out.y62).mono ?_ | refine (json_contains.calls X 38 Y38 _ HW.out.y38).mono ?_); rintro e w2 ⟨rfl, ⟨nd, rfl⟩⟩))
      go_roundg (gk - 1)
      case measure => have := HK.out; omega
      case rel => exact ⟨k + 1, by simp, ⟨by have := HK.out; omega⟩, ⟨by repeat (first | (with_reducible first | exact HB2.out | apply pw_below_drewN | apply below_drew) | exact HB2.out)⟩⟩
    · have hkM : k = M := by have := HK.out; omega
      subst hkM
      have d1 : decide (k < k) = false := by simp
      have HB3 := Aside0.mk (HB.out.trans (HB2.out.mono HB.out.size))
      clear HB2 HB hk HK HRD HC HP
      go_upto_region 12 with fail
      go_loopg [9] (N - 8 * k) (fun kq v9 w' => ∃ p : Nat, v9 = .int .i64 (p : Int) ∧ Aside0 (p + kq = N) ∧ Aside0 (r = fst true L kq p) ∧ Aside0 (Below w.heap.size w w'))
      case atStart => exact ⟨8 * k, congrArg (Value.int .i64) (by omega), ⟨by omega⟩, HR, HB3⟩
      case round =>
        obtain ⟨p, rfl, HK, HF, HB⟩ := hrel
        clear HB3 HR
        by_cases hp : p < N
        · have dp : decide (p < N) = true := by simp; omega
          have hix := HIX.out p hp
          obtain ⟨d, hd⟩ : ∃ d, gk = d + 1 := ⟨gk - 1, by have := HK.out; omega⟩
          have hf := HF.out
          rw [hd, fst] at hf
          have hbl : L.getD p 0 < 127 := getD_lt (by decide) HL.out p
          generalize L.getD p 0 = b at *
          have d127 : decide ((127 : Int) < (b : Int)) = false := by simp; omega
          have HD := Aside0.mk hd
          have HPN := Aside0.mk hp
          clear hd hp HF HIX
          by_cases t1 : b < 32
          · have HFF := Aside0.mk (show r = (p : Int) by rw [hf, if_pos (by simp [must, t1])])
            have e1 : decide ((b : Int) < 32) = true := by simp; omega
            clear hf t1 hbl d127
            go_wp2_with fail
            go_ret
            exact ⟨by rw [HFF.out]; rfl, by repeat (first | (with_reducible first | exact HB.out | apply pw_below_drewN | apply below_drew) | exact HB.out)⟩
          have e1 : decide ((b : Int) < 32) = false := by simp; omega
          by_cases t34 : b = 34
          · subst t34
            have HFF := Aside0.mk (show r = (p : Int) by rw [hf, if_pos (by decide)])
            clear hf hbl
            go_wp2_with fail
            go_ret
            exact ⟨by rw [HFF.out]; rfl, by repeat (first | (with_reducible first | exact HB.out | apply pw_below_drewN | apply below_drew) | exact HB.out)⟩
          have e34 : ((b : Int) == 34) = false := beq_eq_false_iff_ne.2 (by omega)
          by_cases t92 : b = 92
          · subst t92
            have HFF := Aside0.mk (show r = (p : Int) by rw [hf, if_pos (by decide)])
            clear hf hbl
            go_wp2_with fail
            go_ret
            exact ⟨by rw [HFF.out]; rfl, by repeat (first | (with_reducible first | exact HB.out | apply pw_below_drewN | apply below_drew) | exact HB.out)⟩
          have e92 : ((b : Int) == 92) = false := beq_eq_false_iff_ne.2 (by omega)
          by_cases t60 : b = 60
          · subst t60
            have HFF := Aside0.mk (show r = (p : Int) by rw [hf, if_pos (by decide)])
            clear hf hbl
            go_wp2_with fail
            go_ret
            exact ⟨by rw [HFF.out]; rfl, by repeat (first | (with_reducible first | exact HB.out | apply pw_below_drewN | apply below_drew) | exact HB.out)⟩
          have e60 : ((b : Int) == 60) = false := beq_eq_false_iff_ne.2 (by omega)
          by_cases t62 : b = 62
          · subst t62
            have HFF := Aside0.mk (show r = (p : Int) by rw [hf, if_pos (by decide)])
            clear hf hbl
            go_wp2_with fail
            go_ret
            exact ⟨by rw [HFF.out]; rfl, by repeat (first | (with_reducible first | exact HB.out | apply pw_below_drewN | apply below_drew) | exact HB.out)⟩
          have e62 : ((b : Int) == 62) = false := beq_eq_false_iff_ne.2 (by omega)
          by_cases t38 : b = 38
          · subst t38
            have HFF := Aside0.mk (show r = (p : Int) by rw [hf, if_pos (by decide)])
            clear hf hbl
            go_wp2_with fail
            go_ret
            exact ⟨by rw [HFF.out]; rfl, by repeat (first | (with_reducible first | exact HB.out | apply pw_below_drewN | apply below_drew) | exact HB.out)⟩
          have e38 : ((b : Int) == 38) = false := beq_eq_false_iff_ne.2 (by omega)
          have HFF := Aside0.mk (show r = fst true L d (p + 1) by rw [hf, if_neg (by simp [must]; omega)])
          clear hf hbl t1 t34 t92 t60 t62 t38
          go_wp2_with fail
          go_roundg d
          case measure => have := HD.out; omega
          case rel => exact ⟨p + 1, congrArg (Value.int .i64) (by have := HPN.out; unfold wrap64; omega), ⟨by have := HD.out; have := HK.out; omega⟩, HFF, ⟨by repeat (first | (with_reducible first | exact HB.out | apply pw_below_drewN | apply below_drew) | exact HB.out)⟩⟩
        · have dp : decide (p < N) = false := by simp; omega
          have hg0 : gk = 0 := by have := HK.out; omega
          subst hg0
          have HFF := Aside0.mk (show r = -1 from HF.out)
          clear HF hp HIX
          go_wp2_with fail
          go_ret
          exact ⟨by rw [HFF.out]; rfl, by repeat (first | (with_reducible first | exact HB.out | apply pw_below_drewN | apply below_drew) | exact HB.out)⟩

/-- What the search tells, where the first byte is among the first eight or behind the whole eights. -/
def Found (h : Bool) (L : List Nat) : Int := fst h L L.length 0
theorem fst_plain (h : Bool) (L : List Nat) : ∀ (d e i : Nat), (∀ k, i ≤ k → k < i + d → must h (L.getD k 0) = false) → fst h L (d + e) i = fst h L e (i + d)
  | 0, e, i, _ => by rw [Nat.zero_add, Nat.add_zero]
  | d + 1, e, i, hp => by
    rw [show d + 1 + e = (d + e) + 1 by omega, fst, hp i (Nat.le_refl _) (by omega), if_neg (by decide), fst_plain h L d e (i + 1) (fun k h1 h2 => hp k (by omega) (by omega))]
    congr 1
    omega
theorem fst_first (h : Bool) (L : List Nat) : ∀ (d i : Nat), (∃ j, i ≤ j ∧ j < i + d ∧ (∀ k, i ≤ k → k < j → must h (L.getD k 0) = false) ∧ must h (L.getD j 0) = true ∧ fst h L d i = (j : Int)) ∨ ((∀ k, i ≤ k → k < i + d → must h (L.getD k 0) = false) ∧ fst h L d i = -1)
  | 0, i => .inr ⟨fun k h1 h2 => by omega, rfl⟩
  | d + 1, i => by
    by_cases hm : must h (L.getD i 0) = true
    · exact .inl ⟨i, Nat.le_refl _, by omega, fun k h1 h2 => by omega, hm, by rw [fst, if_pos hm]⟩
    · have hm' : must h (L.getD i 0) = false := by simpa using hm
      rcases fst_first h L d (i + 1) with ⟨j, h1, h2, h3, h4, h5⟩ | ⟨h3, h5⟩
      · refine .inl ⟨j, by omega, by omega, fun k k1 k2 => ?_, h4, by rw [fst, if_neg hm]; exact h5⟩
        rcases Nat.lt_or_ge i k with hk | hk
        · exact h3 k (by omega) k2
        · rw [show k = i by omega]; exact hm'
      · refine .inr ⟨fun k k1 k2 => ?_, by rw [fst, if_neg hm]; exact h5⟩
        rcases Nat.lt_or_ge i k with hk | hk
        · exact h3 k (by omega) (by omega)
        · rw [show k = i by omega]; exact hm'
/-- The library's search: right, unless the first byte that must be escaped is in a later whole eight. -/
theorem search (h : Bool) (L : List Nat) (hb : ∀ b ∈ L, b < 127) (hl : L.length ≤ 40) (hw : Found h L < 8 ∨ ((8 * (L.length / 8) : Nat) : Int) ≤ Found h L) (w : World) (ht : Tab w) :
    Calls Tryd.prog 16 #[.string (txt L), .bool h] w fun e w' => e = .returned (.int .i64 (Found h L)) ∧ Below w.heap.size w w' := by
  have B : (∀ k, k < 8 * (L.length / 8) → must h (L.getD k 0) = false) → Calls Tryd.prog 16 #[.string (txt L), .bool h] w fun e w' => e = .returned (.int .i64 (Found h L)) ∧ Below w.heap.size w w' := by
    intro hp
    have e : Found h L = fst h L (L.length - 8 * (L.length / 8)) (8 * (L.length / 8)) := by
      have := fst_plain h L (8 * (L.length / 8)) (L.length - 8 * (L.length / 8)) 0 (fun k _ h2 => hp k (by omega))
      rw [Nat.zero_add] at this
      rw [← this]
      unfold Found
      congr 1
      omega
    rw [e]
    cases h with
    | false => exact escB0 L hb hl hp w
    | true => exact escB1 L hb hl hp w
  rcases fst_first h L L.length 0 with ⟨j, h1, h2, h3, h4, h5⟩ | ⟨h3, h5⟩
  · have e : Found h L = (j : Int) := h5
    rcases Nat.lt_or_ge j (8 * (L.length / 8)) with hj | hj
    · have hj8 : j < 8 := by rw [e] at hw; omega
      rw [e]
      cases h with
      | false => exact escA0 L hb hl (by omega) j hj8 (fun k hk => h3 k (Nat.zero_le _) hk) h4 w ht
      | true => exact escA1 L hb hl (by omega) j hj8 (fun k hk => h3 k (Nat.zero_le _) hk) h4 w ht
    · exact B (fun k hk => h3 k (Nat.zero_le _) (by omega))
  · exact B (fun k hk => h3 k (Nat.zero_le _) (by omega))
set_option maxHeartbeats 4000000 in
set_option maxRecDepth 100000 in
theorem door (h : Bool) (L : List Nat) (hb : ∀ b ∈ L, b < 127) (hl : L.length ≤ 40) (hw : Found h L < 8 ∨ ((8 * (L.length / 8) : Nat) : Int) ≤ Found h L) (w : World) (ht : Tab w) :
    Calls Tryd.prog 6 #[.string (txt L), .bool h] w fun e w' => e = .returned (.int .i64 (Found h L)) ∧ Below w.heap.size w w' := by
  have HS := Aside0.mk (search h L hb hl hw w ht)
  clear hb hl hw ht
  go_enter Tryd.func6, Tryd.ntmps6
  go_wp2_with (first | (go_at_call 16; (with_reducible refine HS.out.mono ?_); rintro e w1 ⟨rfl, hb⟩; have HB := Aside0.mk hb; clear hb) | go_in)
  go_ret
  exact ⟨rfl, HB.out⟩
end Go.Proofs.YtlagcfdojbjmmaaDoor.Esc
