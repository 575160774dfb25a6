/- The law on plain texts and on bytes that are no UTF-8. -/
import Derived.Test.YtekmminmgjoabaaDoorZSw
import Derived.Deep.LoopGhost
namespace Go.Proofs.YtekmminmgjoabaaDoor.Js
open Go.RowKit Go.Proofs.YtekmminmgjoabaaDoorW.PrintWords Go.Proofs.YtekmminmgjoabaaDoorW.PrintLast Go.Proofs.YtekmminmgjoabaaDoorW.PrintMore Go.Proofs.YtekmminmgjoabaaDoor.PFnJSTokens
set_option linter.unusedVariables false
set_option linter.unusedSimpArgs false
def tblL : List Int := [97, 98, 99, 100, 101, 102, 103, 104, 105, 106, 107, 108, 109, 110, 111, 112, 113, 114, 115, 116, 117, 118, 119, 120, 121, 122, 65, 66, 67, 68, 69, 70, 71, 72, 73, 74, 75, 76, 77, 78, 79, 80, 81, 82, 83, 84, 85, 86, 87, 88, 89, 90, 32, 48, 49, 50, 51, 52, 53, 54, 55, 56, 57]
theorem tbl_ok : ∀ j, j < 63 → 32 ≤ tblL.getD j 0 ∧ tblL.getD j 0 ≤ 122 ∧ tblL.getD j 0 ≠ 34 ∧ tblL.getD j 0 ≠ 92 := by decide
theorem str_drop (zs : List Int) (e : Nat) (he : e ≤ zs.length) : (strOfNums zs).extract e zs.length = strOfNums (zs.drop e) := by
  rw [ByteArray.ext_iff, ByteArray.data_extract]
  simp [strOfNums, List.map_drop]
  rw [List.take_of_length_le (by simp)]
theorem str_take1 (zs : List Int) (e : Nat) : (strOfNums zs).extract 0 e = strOfNums (zs.take e) := by
  rw [ByteArray.ext_iff, ByteArray.data_extract]
  simp [strOfNums, List.map_take]
theorem tbl_from (j : Nat) (hj : j < 63) (W : World) : (Instr.slice 9 (.string ⟨#[97, 98, 99, 100, 101, 102, 103, 104, 105, 106, 107, 108, 109, 110, 111, 112, 113, 114, 115, 116, 117, 118, 119, 120, 121, 122, 65, 66, 67, 68, 69, 70, 71, 72, 73, 74, 75, 76, 77, 78, 79, 80, 81, 82, 83, 84, 85, 86, 87, 88, 89, 90, 32, 48, 49, 50, 51, 52, 53, 54, 55, 56, 57]⟩) (some (.int .u8 (j : Int))) none none).run Tryd.prog W = .ok (.string (strOfNums (tblL.drop j))) W := by
  have e : (⟨#[97, 98, 99, 100, 101, 102, 103, 104, 105, 106, 107, 108, 109, 110, 111, 112, 113, 114, 115, 116, 117, 118, 119, 120, 121, 122, 65, 66, 67, 68, 69, 70, 71, 72, 73, 74, 75, 76, 77, 78, 79, 80, 81, 82, 83, 84, 85, 86, 87, 88, 89, 90, 32, 48, 49, 50, 51, 52, 53, 54, 55, 56, 57]⟩ : ByteArray) = strOfNums tblL := by rfl
  have hs : (strOfNums tblL).size = 63 := by rw [str_size]; rfl
  rw [e, run_slice_string_l W 9 (strOfNums tblL) Tryd.underlying9 .u8 (j : Int) (by omega) (by rw [hs]; omega)]
  rw [hs, show (63 : Nat) = tblL.length from rfl, Int.toNat_natCast, str_drop tblL j (by have : tblL.length = 63 := rfl; omega)]
theorem tbl_one (j : Nat) (hj : j < 63) (W : World) : (Instr.slice 9 (.string (strOfNums (tblL.drop j))) none (some (.int .i64 1)) none).run Tryd.prog W = .ok (.string (strOfNums [tblL.getD j 0])) W := by
  have hl : tblL.length = 63 := rfl
  rw [run_slice_string_h W 9 (strOfNums (tblL.drop j)) Tryd.underlying9 .i64 1 (by omega) (by rw [str_size, List.length_drop, hl]; omega)]
  rw [show (1 : Int).toNat = 1 from rfl, str_take1, List.drop_eq_getElem_cons (by omega : j < tblL.length), List.take_succ_cons, List.take_zero, List.getD_eq_getElem?_getD, List.getElem?_eq_getElem (by omega : j < tblL.length)]
  rfl
def lets (zs : List Int) : List Int := zs.map fun c => tblL.getD (c % 63).toNat 0
def odds (zs : List Int) : List Int := zs.map fun c => 128 + c % 64
def fff : Nat → List Int
  | 0 => []
  | k + 1 => fff k ++ [239, 191, 189]
theorem fff_len (k : Nat) : (fff k).length = 3 * k := by
  induction k with
  | zero => rfl
  | succ k ih => rw [fff, List.length_append, ih]; rfl
theorem fff_cons (k : Nat) : fff (k + 1) = [239, 191, 189] ++ fff k := by
  induction k with
  | zero => rfl
  | succ k ih =>
    show fff (k + 1) ++ [239, 191, 189] = [239, 191, 189] ++ (fff k ++ [239, 191, 189])
    rw [← List.append_assoc, ← ih]
theorem lets_ok {zs : List Int} (h : Bytes zs) : ∀ c ∈ lets zs, 32 ≤ c ∧ c ≤ 122 ∧ c ≠ 34 ∧ c ≠ 92 := by
  intro c hc
  obtain ⟨x, hx, rfl⟩ := List.mem_map.1 hc
  have := h x hx
  exact tbl_ok _ (by omega)
theorem str_raws {x l : List Int} (h : ∀ c ∈ x, 32 ≤ c ∧ c ≤ 255 ∧ c ≠ 34 ∧ c ≠ 92) (hl : Str l) : Str (x ++ l) := by
  induction x with
  | nil => exact hl
  | cons c x ih =>
    obtain ⟨h1, h2, h3, h4⟩ := h c List.mem_cons_self
    exact .raw h1 h2 h3 h4 (ih fun d hd => h d (List.mem_cons_of_mem _ hd))
theorem odds_co {zs : List Int} (h : Bytes zs) : Co (odds zs) (fff zs.length) := by
  induction zs with
  | nil => exact .nil
  | cons c zs ih =>
    have := h c List.mem_cons_self
    rw [List.length_cons, fff_cons]
    exact Co.odd (c := 128 + c % 64) (by omega) (by omega) (ih fun d hd => h d (List.mem_cons_of_mem _ hd))
theorem plain_pure {zs ws : List Int} (h : Bytes zs) (h' : Bytes ws) : Str (lets zs) ∧ Unq (lets zs) (lets zs) ∧ Str (lets zs ++ 92 :: 110 :: odds ws) ∧ Unq (lets zs ++ 92 :: 110 :: odds ws) (lets zs ++ 10 :: fff ws.length) := by
  have hl := lets_ok h
  have ho : ∀ c ∈ odds ws, 32 ≤ c ∧ c ≤ 255 ∧ c ≠ 34 ∧ c ≠ 92 := by
    intro c hc
    obtain ⟨x, hx, rfl⟩ := List.mem_map.1 hc
    have := h' x hx
    omega
  have hn : 92 ∉ lets zs := fun hm => (hl 92 hm).2.2.2 rfl
  have hco : Co (lets zs) (lets zs) := Co.letters fun c hc => by have := hl c hc; omega
  refine ⟨?_, .last hn hco, ?_, ?_⟩
  · have := str_raws (l := []) (fun c hc => by have := hl c hc; omega) .nil
    rw [List.append_nil] at this
    exact this
  · refine str_raws (fun c hc => by have := hl c hc; omega) (.esc (.inr (.inr (.inr (.inl rfl)))) ?_)
    have := str_raws (l := []) ho .nil
    rw [List.append_nil] at this
    exact this
  · exact .esc hn hco (.inr (.inr (.inr (.inl rfl)))) (.last (fun hm => (ho 92 hm).2.2.2 rfl) (odds_co h'))
theorem lets_take (zs : List Int) (k : Nat) (hk : k < zs.length) : strOfNums ((lets zs).take k) ++ strOfNums [tblL.getD ((zs.getD k 0) % 63).toNat 0] = strOfNums ((lets zs).take (k + 1)) := by
  rw [← strOf_append]
  congr 1
  rw [List.take_add_one, lets, List.getElem?_map, List.getElem?_eq_getElem hk, List.getD_eq_getElem?_getD, List.getD_eq_getElem?_getD, List.getElem?_eq_getElem hk]
  rfl
theorem odds_take (zs : List Int) (k : Nat) (hk : k < zs.length) : strOfNums ((odds zs).take k) ++ strOfNums [128 + (zs.getD k 0) % 64] = strOfNums ((odds zs).take (k + 1)) := by
  rw [← strOf_append]
  congr 1
  rw [List.take_add_one, odds, List.getElem?_map, List.getElem?_eq_getElem hk, List.getD_eq_getElem?_getD, List.getElem?_eq_getElem hk]
  rfl
theorem one_text (W : World) (y : Int) : (convert 22 9 (.slice (some ⟨W.heap.size, 0, none⟩) 1 1)).run Tryd.prog (W.alloc (.cells #[.int .u8 y] 5)) = .ok (.string (strOfNums [y])) (W.alloc (.cells #[.int .u8 y] 5)) :=
  ((Ow.mk' (xs := [y]) (Nat.zero_le _) (blk_new W (.cells #[.int .u8 y] 5)) (Nat.le_refl _) (by unfold maxLen; simp) rfl rfl).sl (by simp)).text Tryd.underlying22 Tryd.underlying9
set_option maxHeartbeats 8000000 in
set_option maxRecDepth 100000 in
theorem law_plain (w : World) (v1 v2 : Value) (zs ws : List Int) (h1 : Sl w w.heap.size v1 zs) (h2 : Sl w w.heap.size v2 ws) (hb1 : Bytes zs) (hb2 : Bytes ws) (ht : Tab w) :
    Calls Tryd.prog 11 #[v1, v2] w fun e w' => e = .returned (.bool true) ∧ Below w.heap.size w w' := by
  obtain ⟨A1, c1, rfl, -⟩ := h1.form
  obtain ⟨A2, c2, rfl, -⟩ := h2.form
  obtain ⟨n1, hn1⟩ : ∃ n1, n1 = zs.length := ⟨_, rfl⟩
  rw [← hn1] at h1 ⊢
  have hx1 : n1 ≤ 9223372036854775807 := by rw [hn1]; have := h1.cut.2.2.1.2.1; omega
  obtain ⟨n2, hn2⟩ : ∃ n2, n2 = ws.length := ⟨_, rfl⟩
  rw [← hn2] at h2 ⊢
  have hx2 : n2 ≤ 9223372036854775807 := by rw [hn2]; have := h2.cut.2.2.1.2.1; omega
  by_cases hs1 : 2147483647 < n1
  · clear h1 hb1 hn1 h2 hb2 hn2 ht
    go_enter Tryd.func11, Tryd.ntmps11
    go_wp2_with fail
    go_returns
    exact ⟨rfl, Below.refl _ _⟩
  by_cases hs2 : 2147483647 < n2
  · have hm1 : ¬ (2147483647 : Int) < (n1 : Int) := by omega
    clear h1 hb1 hn1 h2 hb2 hn2 ht
    go_enter Tryd.func11, Tryd.ntmps11
    go_wp2_with fail
    go_returns
    exact ⟨rfl, Below.refl _ _⟩
  have hm1 : ¬ (2147483647 : Int) < (n1 : Int) := by omega
  have hm2 : ¬ (2147483647 : Int) < (n2 : Int) := by omega
  by_cases hs3 : 30 < n1
  · clear h1 hb1 hn1 h2 hb2 hn2 ht
    go_enter Tryd.func11, Tryd.ntmps11
    go_wp2_with fail
    go_returns
    exact ⟨rfl, Below.refl _ _⟩
  have hm3 : ¬ (30 : Int) < (n1 : Int) := by omega
  by_cases hs4 : 5 < n2
  · clear h1 hb1 hn1 h2 hb2 hn2 ht
    go_enter Tryd.func11, Tryd.ntmps11
    go_wp2_with fail
    go_returns
    exact ⟨rfl, Below.refl _ _⟩
  have hm4 : ¬ (5 : Int) < (n2 : Int) := by omega
  have HT := Aside0.mk ht
  have HS1 := Aside0.mk h1
  have HS2 := Aside0.mk h2
  have HN := Aside0.mk (And.intro hn1 hn2)
  have HBY := Aside0.mk (And.intro hb1 hb2)
  have HLT := Aside0.mk (show n1 ≤ 30 ∧ n2 ≤ 5 by omega)
  have HLL := Aside0.mk (show (lets zs).length = n1 ∧ (odds ws).length = n2 by unfold lets odds; rw [List.length_map, List.length_map]; exact ⟨hn1.symm, hn2.symm⟩)
  clear h1 hb1 hn1 h2 hb2 hn2 ht hs1 hs2 hs3 hs4
  go_enter Tryd.func11, Tryd.ntmps11
  go_upto_region 7 with (fail)
  go_loopg [5, 34] n1 (fun gk v5 v34 w' => ∃ k : Nat, v34 = .int .i64 (k : Int) ∧ v5 = .string (strOfNums ((lets zs).take k)) ∧ Aside0 (k + gk = n1) ∧ w = w')
  case atStart => exact ⟨0, rfl, rfl, ⟨by omega⟩, rfl⟩
  case round =>
    obtain ⟨k, rfl, rfl, HK, rfl⟩ := hrel
    cases gk with
    | succ k1 =>
      have hk : k < n1 := by have := HK.out; omega
      obtain ⟨ad, rfl, cc, -⟩ := HS1.out.at_ k hk
      obtain ⟨x, hx⟩ : ∃ x, x = zs.getD k 0 := ⟨_, rfl⟩
      have hxb : 0 ≤ x ∧ x ≤ 255 := by rw [hx]; exact getD_bytes HBY.out.1 k
      obtain ⟨j, hj⟩ : ∃ j : Nat, j = (x % 63).toNat := ⟨_, rfl⟩
      have hj63 : j < 63 := by omega
      have hrem : x.tmod 63 = (j : Int) := by rw [hj, Int.tmod_eq_emod_of_nonneg hxb.1]; omega
      have hw8 : IntKind.u8.wrap (j : Int) = (j : Int) := by rw [IntKind.wrap_u8]; omega
      have hs1 := tbl_from j hj63
      have hs2 := tbl_one j hj63
      have HE := Aside0.mk (show strOfNums ((lets zs).take k) ++ strOfNums [tblL.getD j 0] = strOfNums ((lets zs).take (k + 1)) by
        rw [hj, hx]
        exact lets_take zs k (by rw [← HN.out.1]; exact hk))
      have q1 : ¬ (9223372036854775807 < (strOfNums ((lets zs).take k)).size + (strOfNums [tblL.getD j 0]).size) := by
        rw [str_size, str_size, List.length_take]
        simp
        omega
      obtain ⟨y, hy⟩ : ∃ y, y = tblL.getD j 0 := ⟨_, rfl⟩
      rw [← hy] at hs2 HE q1
      have dlt : decide (k < n1) = true := by simpa using hk
      have hkb : (k : Int) ≤ 30 := by have := HLT.out; omega
      rw [← hx] at cc
      clear hj hx hj63 hy
      go_wp2_with fail
      go_roundg k1
      case measure => omega
      case rel => exact ⟨k + 1, by go_num, by rw [← HE.out], ⟨by have := HK.out; omega⟩, rfl⟩
    | zero =>
      obtain rfl : k = n1 := by have := HK.out; omega
      have hfull : (lets zs).take k = lets zs := List.take_of_length_le (by rw [HLL.out.1]; exact Nat.le_refl _)
      rw [hfull]
      have dlt : decide (k < k) = false := by simp
      clear hfull HS1 hx1 hm1 hm3 hm4 hm2
      go_upto_region 12 with (fail)
      go_loopg [6, 7, 47] n2 (fun gk v6 v7 v47 w' => ∃ i : Nat, v47 = .int .i64 (i : Int) ∧ v6 = .string (strOfNums ((odds ws).take i)) ∧ v7 = .string (strOfNums (fff i)) ∧ Aside0 (i + gk = n2) ∧ Aside0 (Below w.heap.size w w'))
      case atStart => exact ⟨0, rfl, rfl, rfl, ⟨by omega⟩, ⟨Below.refl _ _⟩⟩
      case round =>
        obtain ⟨i, rfl, rfl, rfl, HI, HB⟩ := hrel
        cases gk with
        | succ i1 =>
          have hi : i < n2 := by have := HI.out; omega
          obtain ⟨ad, rfl, cc, -⟩ := (HS2.out.below HB.out).at_ i hi
          obtain ⟨x, hx⟩ : ∃ x, x = ws.getD i 0 := ⟨_, rfl⟩
          have hxb : 0 ≤ x ∧ x ≤ 255 := by rw [hx]; exact getD_bytes HBY.out.2 i
          obtain ⟨j, hj⟩ : ∃ j : Nat, j = (x % 64).toNat := ⟨_, rfl⟩
          have hj64 : j < 64 := by omega
          have hrem : x.tmod 64 = (j : Int) := by rw [hj, Int.tmod_eq_emod_of_nonneg hxb.1]; omega
          have hw8 : IntKind.u8.wrap (j : Int) = (j : Int) := by rw [IntKind.wrap_u8]; omega
          obtain ⟨y, hy⟩ : ∃ y, y = 128 + (j : Int) := ⟨_, rfl⟩
          have HE := Aside0.mk (show strOfNums ((odds ws).take i) ++ strOfNums [y] = strOfNums ((odds ws).take (i + 1)) by
            have := odds_take ws i (by rw [← HN.out.2]; exact hi)
            rw [← hx, show 128 + x % 64 = y by omega] at this
            exact this)
          have HF := Aside0.mk (show strOfNums (fff i) ++ (⟨#[239, 191, 189]⟩ : ByteArray) = strOfNums (fff (i + 1)) by rw [fff, strOf_append]; rfl)
          have q1 : ¬ (9223372036854775807 < (strOfNums ((odds ws).take i)).size + (strOfNums [y]).size) := by
            rw [str_size, str_size, List.length_take]
            simp
            have := HLT.out.2
            omega
          have q2 : ¬ (9223372036854775807 < (strOfNums (fff i)).size + 3) := by
            rw [str_size, fff_len]
            have := HLT.out.2
            omega
          have hcv := one_text wr y
          have dlt : decide (i < n2) = true := by simpa using hi
          have hib : (i : Int) ≤ 5 := by have := HLT.out; omega
          rw [← hx] at cc
          have hmod : (128 + (j : Int)) % 256 = y := by omega
          clear hj hx hj64 hy
          go_wp2_with fail
          go_roundg i1
          case measure => omega
          case rel => exact ⟨i + 1, by go_num, by rw [← HE.out], by rw [← HF.out], ⟨by have := HI.out; omega⟩, ⟨below_alloc HB.out _⟩⟩
        | zero =>
          obtain rfl : i = n2 := by have := HI.out; omega
          have hfull : (odds ws).take i = odds ws := List.take_of_length_le (by rw [HLL.out.2]; exact Nat.le_refl _)
          rw [hfull]
          have dlt : decide (i < i) = false := by simp
          obtain ⟨p1, p2, p3, p4⟩ := plain_pure HBY.out.1 HBY.out.2
          rw [← HN.out.2] at p4
          have hl1 := HLL.out.1
          have hl2 := HLL.out.2
          obtain ⟨ls, hls⟩ : ∃ ls, ls = lets zs := ⟨_, rfl⟩
          obtain ⟨od, hod⟩ : ∃ od, od = odds ws := ⟨_, rfl⟩
          obtain ⟨ff, hff⟩ : ∃ ff, ff = fff i := ⟨_, rfl⟩
          have hl3 : ff.length = 3 * i := by rw [hff]; exact fff_len i
          rw [← hls] at p1 p2 p3 p4 hl1 ⊢
          rw [← hod] at p3 p4 hl2 ⊢
          rw [← hff] at p4 ⊢
          have hlb := HLT.out
          have q1 : ¬ (9223372036854775807 < 1 + (strOfNums ls).size) := by rw [str_size]; omega
          have q2 : ¬ (9223372036854775807 < 1 + (strOfNums ls).size + 1) := by rw [str_size]; omega
          have q3 : ¬ (9223372036854775807 < 1 + (strOfNums ls).size + 2) := by rw [str_size]; omega
          have q4 : ¬ (9223372036854775807 < 1 + (strOfNums ls).size + 2 + (strOfNums od).size) := by rw [str_size, str_size]; omega
          have q5 : ¬ (9223372036854775807 < 1 + (strOfNums ls).size + 2 + (strOfNums od).size + 1) := by rw [str_size, str_size]; omega
          have q6 : ¬ (9223372036854775807 < (strOfNums ls).size + 1) := by rw [str_size]; omega
          have q7 : ¬ (9223372036854775807 < (strOfNums ls).size + 1 + (strOfNums ff).size) := by rw [str_size, str_size]; omega
          have HE1 := Aside0.mk (show (⟨#[34]⟩ : ByteArray) ++ strOfNums ls ++ (⟨#[34]⟩ : ByteArray) = strOfNums (34 :: (ls ++ [34])) by
            rw [show (34 : Int) :: (ls ++ [34]) = [34] ++ ls ++ [34] by simp, strOf_append, strOf_append]; rfl)
          have HE2 := Aside0.mk (show (⟨#[34]⟩ : ByteArray) ++ strOfNums ls ++ (⟨#[92, 110]⟩ : ByteArray) ++ strOfNums od ++ (⟨#[34]⟩ : ByteArray) = strOfNums (34 :: ((ls ++ 92 :: 110 :: od) ++ [34])) by
            rw [show (34 : Int) :: ((ls ++ 92 :: 110 :: od) ++ [34]) = [34] ++ ls ++ [92, 110] ++ od ++ [34] by simp, strOf_append, strOf_append, strOf_append, strOf_append]; rfl)
          have HE3 := Aside0.mk (show strOfNums ls ++ (⟨#[10]⟩ : ByteArray) ++ strOfNums ff = strOfNums (ls ++ 10 :: ff) by
            rw [show ls ++ (10 : Int) :: ff = ls ++ [10] ++ ff by simp, strOf_append, strOf_append]; rfl)
          have HP1 := Aside0.mk (fun (W : World) (A : Option Addr) (n c : Nat) (hW : Below w.heap.size w W) (hs : Sl W W.heap.size (.slice A n c) (34 :: (ls ++ [34]))) => jsText_calls W A n c ls ls p1 p2 hs (by omega) (HT.out.below hW))
          have HP2 := Aside0.mk (fun (W : World) (A : Option Addr) (n c : Nat) (hW : Below w.heap.size w W) (hs : Sl W W.heap.size (.slice A n c) (34 :: ((ls ++ 92 :: 110 :: od) ++ [34]))) => jsUnquote_calls W A n c (ls ++ 92 :: 110 :: od) (ls ++ 10 :: ff) p3 p4 hs (by simp; omega) (HT.out.below hW))
          have HY1 := Aside0.mk (show Bytes (34 :: (ls ++ [34])) ∧ (34 :: (ls ++ [34])).length ≤ 9223372036854775807 from ⟨(Plain.str p1).bytes, by simp; omega⟩)
          have HY2 := Aside0.mk (show Bytes (34 :: ((ls ++ 92 :: 110 :: od) ++ [34])) ∧ (34 :: ((ls ++ 92 :: 110 :: od) ++ [34])).length ≤ 9223372036854775807 from ⟨(Plain.str p3).bytes, by simp; omega⟩)
          obtain ⟨z1, hz1⟩ : ∃ z, z = 34 :: (ls ++ [34]) := ⟨_, rfl⟩
          obtain ⟨z2, hz2⟩ : ∃ z, z = 34 :: ((ls ++ 92 :: 110 :: od) ++ [34]) := ⟨_, rfl⟩
          rw [← hz1] at HE1 HP1 HY1
          rw [← hz2] at HE2 HP2 HY2
          clear hz1 hz2
          obtain ⟨cz, w3, hcv, hsl3, hb3⟩ := text_bytes wr z1 HY1.out.1 HY1.out.2
          rw [← HE1.out] at hcv
          have HB3 := Aside0.mk (HB.out.trans (hb3.mono HB.out.size))
          have HQ1 := Aside0.mk (HP1.out w3 _ _ _ HB3.out hsl3)
          clear p1 p2 p3 p4 hl1 hl2 hl3 hls hod hff hlb hfull hsl3 hb3 HS2
          go_upto_region 18 with (go_at_call 28; (with_reducible refine HQ1.out.mono ?_); rintro e w4 ⟨u1, rfl, hu1, hb⟩; obtain ⟨A4, m4, c4, rfl, hm4⟩ := hu1.formv; have HU1 := Aside0.mk hu1; have HB4 := Aside0.mk (HB3.out.trans (hb.mono HB3.out.size)); clear hb hu1 hm4)
          clear hcv
          obtain ⟨cz2, w5, hcv, hsl5, hb5⟩ := text_bytes w4 z2 HY2.out.1 HY2.out.2
          rw [← HE2.out] at hcv
          have HB5 := Aside0.mk (HB4.out.trans (hb5.mono HB4.out.size))
          have HQ2 := Aside0.mk (HP2.out w5 _ _ _ HB5.out hsl5)
          have HU5 := Aside0.mk (HU1.out.below hb5)
          have HZ5 := Aside0.mk hb5.size
          clear hsl5 hb5
          go_upto_region 19 with (go_at_call 29; (with_reducible refine HQ2.out.mono ?_); rintro e w6 ⟨u2, rfl, hu2, hb⟩; obtain ⟨A6, m6, c6, rfl, hm6⟩ := hu2.formv; have hcA := (HU5.out.below (hb.mono HZ5.out)).text (src := 22) (dst := 9) Tryd.underlying22 Tryd.underlying9; have hcB := hu2.text (src := 22) (dst := 9) Tryd.underlying22 Tryd.underlying9; have HB6 := Aside0.mk (HB5.out.trans (hb.mono HB5.out.size)); clear hb hu2 hm6)
          clear hcv
          rw [← HE3.out] at hcB
          go_wp2_with fail
          go_returns
          exact ⟨rfl, HB6.out⟩
end Go.Proofs.YtekmminmgjoabaaDoor.Js

