/- The maker's numbers. -/
import Derived.Test.YtekmminmgjoabaaDoorYKb
import Derived.Deep.RegionWith
namespace Go.Proofs.YtekmminmgjoabaaDoor.Js
open Go.RowKit Go.Proofs.YtekmminmgjoabaaDoorW.PrintWords Go.Proofs.YtekmminmgjoabaaDoorW.PrintLast Go.Proofs.YtekmminmgjoabaaDoorW.PrintMore
set_option linter.unusedVariables false
set_option linter.unusedSimpArgs false
def bs (l : List UInt8) : ByteArray := ⟨l.toArray⟩
theorem pick2 (q : Int) (h0 : 0 ≤ q) (h1 : q < 2) (x y : Value) : (#[x, y] : Array Value)[q.toNat]? = some (if q = 0 then x else y) := by
  have : q = 0 ∨ q = 1 := by omega
  rcases this with rfl | rfl <;> rfl
theorem pick3 (q : Int) (h0 : 0 ≤ q) (h1 : q < 3) (x y z : Value) : (#[x, y, z] : Array Value)[q.toNat]? = some (if q = 0 then x else if q = 1 then y else z) := by
  have : q = 0 ∨ q = 1 ∨ q = 2 := by omega
  rcases this with rfl | rfl | rfl <;> rfl
theorem pick4 (q : Int) (h0 : 0 ≤ q) (h1 : q < 4) (x y z u : Value) : (#[x, y, z, u] : Array Value)[q.toNat]? = some (if q = 0 then x else if q = 1 then y else if q = 2 then z else u) := by
  have : q = 0 ∨ q = 1 ∨ q = 2 ∨ q = 3 := by omega
  rcases this with rfl | rfl | rfl | rfl <;> rfl
theorem pick5 (q : Int) (h0 : 0 ≤ q) (h1 : q < 5) (x y z u v : Value) : (#[x, y, z, u, v] : Array Value)[q.toNat]? = some (if q = 0 then x else if q = 1 then y else if q = 2 then z else if q = 3 then u else v) := by
  have : q = 0 ∨ q = 1 ∨ q = 2 ∨ q = 3 ∨ q = 4 := by omega
  rcases this with rfl | rfl | rfl | rfl | rfl <;> rfl
theorem lit0 (a : Int) : (#[Value.string ⟨#[]⟩, .string ⟨#[45]⟩] : Array Value)[(a % 2).toNat]? = some (.string (strOfNums (num0 a))) := by
  rw [pick2 _ (by omega) (by omega)]; unfold num0; split <;> rfl
theorem lit1 (k : Int) : (#[Value.string ⟨#[48]⟩, .string ⟨#[49]⟩, .string ⟨#[50, 53]⟩, .string ⟨#[57, 48, 55]⟩, .string ⟨#[49, 50, 51, 52, 53, 54, 55, 56, 57, 48]⟩] : Array Value)[(k % 5).toNat]? = some (.string (strOfNums (num1 k))) := by
  rw [pick5 _ (by omega) (by omega)]; unfold num1; split; · rfl
  split; · rfl
  split; · rfl
  split <;> rfl
theorem lit2 (k : Int) : (#[Value.string ⟨#[48]⟩, .string ⟨#[53]⟩, .string ⟨#[49, 50, 53]⟩, .string ⟨#[48, 48, 49]⟩] : Array Value)[(k / 15 % 4).toNat]? = some (.string (strOfNums (frac k))) := by
  rw [pick4 _ (by omega) (by omega)]; unfold frac; split; · rfl
  split; · rfl
  split <;> rfl
theorem lit3 (k : Int) : (#[Value.string ⟨#[101]⟩, .string ⟨#[69]⟩] : Array Value)[(k / 60 % 2).toNat]? = some (.string (strOfNums [if k / 60 % 2 = 0 then 101 else 69])) := by
  rw [pick2 _ (by omega) (by omega)]; split <;> rfl
theorem lit4 (k : Int) : (#[Value.string ⟨#[]⟩, .string ⟨#[43]⟩, .string ⟨#[45]⟩] : Array Value)[(k / 20 % 3).toNat]? = some (.string (strOfNums (sign k))) := by
  rw [pick3 _ (by omega) (by omega)]; unfold sign; split; · rfl
  split <;> rfl
theorem lit5 (k : Int) : (#[Value.string ⟨#[48]⟩, .string ⟨#[49]⟩, .string ⟨#[49, 50]⟩] : Array Value)[(k / 120 % 3).toNat]? = some (.string (strOfNums (expo k))) := by
  rw [pick3 _ (by omega) (by omega)]; unfold expo; split; · rfl
  split <;> rfl
theorem num0_len (a : Int) : (num0 a).length ≤ 1 := by unfold num0; split <;> simp
theorem num1_len (k : Int) : (num1 k).length ≤ 10 := by
  unfold num1; split; · simp
  split; · simp
  split; · simp
  split <;> simp
theorem frac_len (k : Int) : (frac k).length ≤ 3 := by
  unfold frac; split; · simp
  split; · simp
  split <;> simp
theorem sign_len (k : Int) : (sign k).length ≤ 1 := by
  unfold sign; split; · simp
  split <;> simp
theorem expo_len (k : Int) : (expo k).length ≤ 2 := by
  unfold expo; split; · simp
  split <;> simp
theorem cat_f (a b c : List Int) : Value.string (strOfNums a ++ strOfNums b ++ (⟨#[46]⟩ ++ strOfNums c)) = .string (strOfNums (a ++ b ++ 46 :: c)) := by
  rw [strOf_append, strOf_append, show (46 :: c : List Int) = [46] ++ c from rfl, strOf_append]; rfl
theorem lit3L (k x : Int) (hx : x = if k / 60 % 2 = 0 then 101 else 69) : ∀ h : (k / 60 % 2).toNat < ([Value.string ⟨#[101]⟩, .string ⟨#[69]⟩] : List Value).length, ([Value.string ⟨#[101]⟩, .string ⟨#[69]⟩] : List Value)[(k / 60 % 2).toNat]'h = .string (strOfNums [x]) := fun h => by
  have := lit3 k
  rw [← hx] at this
  rw [← Array.getElem?_toList, List.getElem?_eq_getElem h] at this
  exact Option.some.inj this
theorem lit4L (k : Int) : ∀ h : (k / 20 % 3).toNat < ([Value.string ⟨#[]⟩, .string ⟨#[43]⟩, .string ⟨#[45]⟩] : List Value).length, ([Value.string ⟨#[]⟩, .string ⟨#[43]⟩, .string ⟨#[45]⟩] : List Value)[(k / 20 % 3).toNat]'h = .string (strOfNums (sign k)) := fun h => by
  have := lit4 k
  rw [← Array.getElem?_toList, List.getElem?_eq_getElem h] at this
  exact Option.some.inj this
theorem lit5L (k : Int) : ∀ h : (k / 120 % 3).toNat < ([Value.string ⟨#[48]⟩, .string ⟨#[49]⟩, .string ⟨#[49, 50]⟩] : List Value).length, ([Value.string ⟨#[48]⟩, .string ⟨#[49]⟩, .string ⟨#[49, 50]⟩] : List Value)[(k / 120 % 3).toNat]'h = .string (strOfNums (expo k)) := fun h => by
  have := lit5 k
  rw [← Array.getElem?_toList, List.getElem?_eq_getElem h] at this
  exact Option.some.inj this
theorem num2_len (k : Int) : (num2 k).length ≤ 4 := by
  have := frac_len k
  unfold num2; split
  · simp; omega
  · simp
theorem cat_e (s : List Int) (x : Int) (a b : List Int) : Value.string (strOfNums s ++ (strOfNums [x] ++ strOfNums a ++ strOfNums b)) = .string (strOfNums (s ++ x :: (a ++ b))) := by
  rw [strOf_append, show (x :: (a ++ b) : List Int) = [x] ++ a ++ b from rfl, strOf_append, strOf_append]
theorem quo_of {k : Int} (b0 : 0 ≤ k) (b1 : k ≤ 255) (d : Int) (hd : 0 < d) : IntKind.i64.wrap (k.tdiv d) = k / d := by
  rw [Int.tdiv_eq_ediv_of_nonneg b0, IntKind.wrap_i64]
  have h1 : 0 ≤ k / d := Int.ediv_nonneg b0 (Int.le_of_lt hd)
  have h2 : k / d ≤ k := Int.ediv_le_self d b0
  omega
def NumPost (w : World) (B m : Nat) (code : List Int) (left : Int) (e : Ending) (w' : World) : Prop := e = .returned (.string (strOfNums (numF code).1)) ∧ MadeAt w' B m (numF code).2 left ∧ Mv w w' m
set_option maxHeartbeats 4000000 in
set_option maxRecDepth 100000 in
theorem number_calls (w : World) (B m : Nat) (code : List Int) (left : Int) (hB : B ≤ m) (hm : MadeAt w B m code left) :
    Calls Tryd.prog 47 #[.pointer (some ⟨m, 0, none⟩)] w (NumPost w B m code left) := by
  obtain ⟨a0, a1, a2⟩ := byteF_in hm.bytes
  obtain ⟨b0, b1, b2⟩ := byteF_in a2
  have HF := Aside0.mk (show numF code = (numT (byteF code).1 (byteF (byteF code).2).1, (byteF (byteF code).2).2) from rfl)
  have hlt := hm.lt
  have H1 := Aside0.mk (fun w1 h => byte_calls w1 B m code left hB h)
  have H2 := Aside0.mk (fun w1 h => byte_calls w1 B m (byteF code).2 left hB h)
  have HM := Aside0.mk (hm.below hB (below_alloc (Below.refl w.heap.size w) (.cells #[.string ⟨#[]⟩, .string ⟨#[45]⟩] 9)))
  have HV := Aside0.mk ((Mv.refl w m).alloc (Nat.le_of_lt hlt) (.cells #[.string ⟨#[]⟩, .string ⟨#[45]⟩] 9))
  have HL := Aside0.mk (blk_new w (.cells #[.string ⟨#[]⟩, .string ⟨#[45]⟩] 9))
  have HB := Aside0.mk hB
  obtain ⟨a, ha⟩ : ∃ a, a = (byteF code).1 := ⟨_, rfl⟩
  obtain ⟨k, hk⟩ : ∃ k, k = (byteF (byteF code).2).1 := ⟨_, rfl⟩
  obtain ⟨c1, hc1⟩ : ∃ c, c = (byteF code).2 := ⟨_, rfl⟩
  obtain ⟨c2, hc2⟩ : ∃ c, c = (byteF (byteF code).2).2 := ⟨_, rfl⟩
  rw [← hk, ← hc2] at H2
  rw [← hc1] at H2
  rw [← ha, ← hc1] at H1
  rw [← ha, ← hk, ← hc2] at HF
  rw [← ha] at a0 a1
  rw [← hk] at b0 b1
  clear ha hk hc1 hc2 a2 b2 hm hB
  go_enter Tryd.func47, Tryd.ntmps47
  go_upto_region 3 with (first
    | (go_at_call 46; (with_reducible refine (H1.out _ HM.out).mono ?_); rintro e w1 ⟨rfl, hm1, hv1⟩; have hl := hv1.blk HL.out (by omega); have l0 : w1.cell? ⟨w.heap.size, (a % 2).toNat, none⟩ = some (.string (strOfNums (num0 a))) := (blk_cell hl _).trans (lit0 a); have HM1 := Aside0.mk hm1; have HV1 := Aside0.mk (HV.out.trans hv1); clear hm1 hv1 hl)
    | (go_at_call 46; (with_reducible refine (H2.out _ HM1.out).mono ?_); rintro e w2 ⟨rfl, hm2, hv2⟩; have HM2 := Aside0.mk hm2; have HV2 := Aside0.mk (HV1.out.trans hv2); clear hm2 hv2))
  have l1 : (w2.alloc (.cells #[.string ⟨#[48]⟩, .string ⟨#[49]⟩, .string ⟨#[50, 53]⟩, .string ⟨#[57, 48, 55]⟩, .string ⟨#[49, 50, 51, 52, 53, 54, 55, 56, 57, 48]⟩] 9)).cell? ⟨w2.heap.size, (k % 5).toNat, none⟩ = some (.string (strOfNums (num1 k))) := (blk_cell (blk_new w2 _) _).trans (lit1 k)
  have n0 := num0_len a
  have n1 := num1_len k
  have n2 := frac_len k
  have z1 : ¬ (9223372036854775807 < (strOfNums (num0 a)).size + (strOfNums (num1 k)).size) := by rw [strOf_size, strOf_size]; omega
  have z2 : ¬ (9223372036854775807 < 1 + (strOfNums (frac k)).size) := by rw [strOf_size]; omega
  have z3 : ¬ (9223372036854775807 < (strOfNums (num0 a)).size + (strOfNums (num1 k)).size + (1 + (strOfNums (frac k)).size)) := by rw [strOf_size, strOf_size, strOf_size]; omega
  have hlt2 := HM2.out.lt
  have HM3 := Aside0.mk (HM2.out.below HB.out (below_alloc (Below.refl w2.heap.size w2) (.cells #[.string ⟨#[48]⟩, .string ⟨#[49]⟩, .string ⟨#[50, 53]⟩, .string ⟨#[57, 48, 55]⟩, .string ⟨#[49, 50, 51, 52, 53, 54, 55, 56, 57, 48]⟩] 9)))
  have HV3 := Aside0.mk (HV2.out.alloc (Nat.le_of_lt hlt2) (.cells #[.string ⟨#[48]⟩, .string ⟨#[49]⟩, .string ⟨#[50, 53]⟩, .string ⟨#[57, 48, 55]⟩, .string ⟨#[49, 50, 51, 52, 53, 54, 55, 56, 57, 48]⟩] 9))
  obtain ⟨W3, hW3⟩ : ∃ W3, W3 = w2.alloc (.cells #[.string ⟨#[48]⟩, .string ⟨#[49]⟩, .string ⟨#[50, 53]⟩, .string ⟨#[57, 48, 55]⟩, .string ⟨#[49, 50, 51, 52, 53, 54, 55, 56, 57, 48]⟩] 9) := ⟨_, rfl⟩
  have HW3 := Aside0.mk hW3
  clear hW3
  go_upto_region 4 with (fail)
  rw [← HW3.out] at HM3 HV3 ⊢
  have l2 : (W3.alloc (.cells #[.string ⟨#[48]⟩, .string ⟨#[53]⟩, .string ⟨#[49, 50, 53]⟩, .string ⟨#[48, 48, 49]⟩] 9)).cell? ⟨W3.heap.size, (k / 15 % 4).toNat, none⟩ = some (.string (strOfNums (frac k))) := (blk_cell (blk_new W3 _) _).trans (lit2 k)
  have h5 : 0 ≤ k / 5 % 3 := by omega
  have hc : (k / 5 % 3 == 0) = true ∨ (k / 5 % 3 == 0) = false := by cases (k / 5 % 3 == 0) <;> simp
  go_upto_if 23 with (fail)
  go_cut [3] (fun v3 wx => v3 = .string (strOfNums (num0 a ++ num1 k ++ num2 k)) ∧ Aside0 (MadeAt wx B m c2 left) ∧ Aside0 (Mv w wx m))
  case first =>
    rcases hc with hc | hc
    · have hn : num2 k = 46 :: frac k := by unfold num2; rw [if_pos (by simpa using hc)]
      have HN := Aside0.mk hn
      clear hn
      go_wp2_with fail
      go_meet
      rw [HN.out]
      exact ⟨cat_f _ _ _, ⟨HM3.out.below HB.out (below_alloc (Below.refl _ _) _)⟩, ⟨HV3.out.alloc (Nat.le_of_lt HM3.out.lt) _⟩⟩
    · have hn : num2 k = [] := by unfold num2; rw [if_neg (by simpa using hc)]
      have HN := Aside0.mk hn
      clear hn
      go_wp2_with fail
      go_meet
      rw [HN.out]
      exact ⟨by rw [List.append_nil, strOf_append], HM3, HV3⟩
  case rest =>
    obtain ⟨rfl, HMc, HVc⟩ := hcut
    have hd : (k / 5 % 4 == 0) = true ∨ (k / 5 % 4 == 0) = false := by cases (k / 5 % 4 == 0) <;> simp
    rcases hd with hd | hd
    · have hn : num3 k = (if k / 60 % 2 = 0 then 101 else 69) :: (sign k ++ expo k) := by unfold num3; rw [if_pos (by simpa using hd)]
      have HN := Aside0.mk hn
      clear hn
      go_upto_region 7 with (fail)
      clear HM HV HL H1 H2 HM2 HM3 HV2 HV3 HW3 l1 l2 z1 z2 z3 hlt hlt2 hc n0 n1 n2 HM1 HV1 hd l0
      obtain ⟨x, hx⟩ : ∃ x : Int, x = if k / 60 % 2 = 0 then 101 else 69 := ⟨_, rfl⟩
      rw [← hx] at HN
      have e3 := lit3L k x hx
      have e4 := lit4L k
      have e5 := lit5L k
      clear hx
      have l3 : (num0 a ++ num1 k ++ num2 k).length ≤ 15 := by
        have := num0_len a; have := num1_len k; have := num2_len k
        simp only [List.length_append]; omega
      obtain ⟨s3, hs3⟩ : ∃ s, s = num0 a ++ num1 k ++ num2 k := ⟨_, rfl⟩
      rw [← hs3] at l3 ⊢
      have HS3 := Aside0.mk hs3
      clear hs3
      have ls := sign_len k
      have lx := expo_len k
      go_cut [3] (fun v3 w' => v3 = .string (strOfNums (s3 ++ x :: (sign k ++ expo k))) ∧ Aside0 (MadeAt w' B m c2 left) ∧ Aside0 (Mv wc w' m))
      case first =>
        have q1 : IntKind.i64.wrap (k.tdiv 60) = k / 60 := quo_of b0 b1 60 (by decide)
        have q2 : IntKind.i64.wrap (k.tdiv 20) = k / 20 := quo_of b0 b1 20 (by decide)
        have q3 : IntKind.i64.wrap (k.tdiv 120) = k / 120 := quo_of b0 b1 120 (by decide)
        have r1 : (k / 60).tmod 2 = k / 60 % 2 := Int.tmod_eq_emod_of_nonneg (by omega)
        have r2 : (k / 20).tmod 3 = k / 20 % 3 := Int.tmod_eq_emod_of_nonneg (by omega)
        have r3 : (k / 120).tmod 3 = k / 120 % 3 := Int.tmod_eq_emod_of_nonneg (by omega)
        have h6 : 0 ≤ k / 60 % 2 := by omega
        have h7 : k / 60 % 2 < 2 := by omega
        have h8 : 0 ≤ k / 20 % 3 := by omega
        have h9 : k / 20 % 3 < 3 := by omega
        have h10 : 0 ≤ k / 120 % 3 := by omega
        have h11 : k / 120 % 3 < 3 := by omega
        have zA : ¬ (9223372036854775807 < (strOfNums [x]).size + (strOfNums (sign k)).size) := by rw [strOf_size, strOf_size]; simp; omega
        have zB : ¬ (9223372036854775807 < (strOfNums [x]).size + (strOfNums (sign k)).size + (strOfNums (expo k)).size) := by rw [strOf_size, strOf_size, strOf_size]; simp; omega
        have zC : ¬ (9223372036854775807 < (strOfNums s3).size + ((strOfNums [x]).size + (strOfNums (sign k)).size + (strOfNums (expo k)).size)) := by rw [strOf_size, strOf_size, strOf_size, strOf_size]; simp; omega
        clear l3 ls lx
        go_region_with (fail)
        all_goals
          go_wp2_with fail
          go_meet
          exact ⟨cat_e _ _ _ _, ⟨HMc.out.below HB.out (by repeat (first | (with_reducible first | exact Below.refl _ _ | apply below_alloc | apply below_drew | apply pw_below_drewN) | exact Below.refl _ _))⟩, ⟨Mv.of_below (by repeat (first | (with_reducible first | exact Below.refl _ _ | apply below_alloc | apply below_drew | apply pw_below_drewN) | exact Below.refl _ _)) (Nat.le_of_lt HMc.out.lt)⟩⟩
      case rest =>
        obtain ⟨rfl, HMd, HVd⟩ := hcut
        clear e3 e4 e5 l3 ls lx
        go_wp2_with fail
        go_ret
        refine ⟨?_, by rw [HF.out]; exact HMd.out, HVc.out.trans HVd.out⟩
        rw [HF.out]
        show _ = Ending.returned (Value.string (strOfNums (num0 a ++ num1 k ++ num2 k ++ num3 k)))
        rw [HN.out, ← HS3.out]
        rfl
    · have hn : num3 k = [] := by unfold num3; rw [if_neg (by simpa using hd)]
      have HN := Aside0.mk hn
      clear hn
      go_wp2_with fail
      go_ret
      refine ⟨?_, by rw [HF.out]; exact HMc.out, HVc.out⟩
      rw [HF.out]
      show _ = Ending.returned (Value.string (strOfNums (num0 a ++ num1 k ++ num2 k ++ num3 k)))
      rw [HN.out, List.append_nil]
      rfl
end Go.Proofs.YtekmminmgjoabaaDoor.Js

