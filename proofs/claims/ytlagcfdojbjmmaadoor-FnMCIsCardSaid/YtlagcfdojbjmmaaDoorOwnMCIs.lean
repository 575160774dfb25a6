/- Each code is one of a kind, or of none, as the specification's ranges say; for every byte; the listed package variables hold what the program's text lays (the card's tie), and there is no other condition. -/
import Derived.Test.YtlagcfdojbjmmaaDoorTie
import Derived.Test.YtlagcfdojbjmmaaDoorCards
import Derived.Test.YtlagcfdojbjmmaaDoorOwnVars
import Derived.Test.YtlagcfdojbjmmaaDoorMcisA
import Derived.Test.YtlagcfdojbjmmaaDoorMcisB
import Derived.Test.YtlagcfdojbjmmaaDoorMcisC
import Derived.WalkKit
import Derived.ProofKit
import Derived.OpenShut
import Derived.ShutString
import Derived.LaidMore
import Derived.LaidLaws
import Derived.SevenTiedAt
namespace Go.Proofs.YtlagcfdojbjmmaaDoor.OwnMCIs
open Go.ChangeShapes Go.WideShapes Go.ChangeAt Go.RowKit

theorem mem_0 : ("given.example/pub-burnisher/pub/vmmsgpack/msgpcode.Bin8", (.lit (.int .u8 196) : DataW Unit)) ∈ Rows.fnMCIsRow.laid := by simp [Rows.fnMCIsRow, Rows.laid_given_example_pub_burnisher_pub_vmmsgpack_msgpcode_Bin8]
theorem mem_1 : ("given.example/pub-burnisher/pub/vmmsgpack/msgpcode.Bin16", (.lit (.int .u8 197) : DataW Unit)) ∈ Rows.fnMCIsRow.laid := by simp [Rows.fnMCIsRow, Rows.laid_given_example_pub_burnisher_pub_vmmsgpack_msgpcode_Bin16]
theorem mem_2 : ("given.example/pub-burnisher/pub/vmmsgpack/msgpcode.Bin32", (.lit (.int .u8 198) : DataW Unit)) ∈ Rows.fnMCIsRow.laid := by simp [Rows.fnMCIsRow, Rows.laid_given_example_pub_burnisher_pub_vmmsgpack_msgpcode_Bin32]
theorem mem_3 : ("given.example/pub-burnisher/pub/vmmsgpack/msgpcode.Ext8", (.lit (.int .u8 199) : DataW Unit)) ∈ Rows.fnMCIsRow.laid := by simp [Rows.fnMCIsRow, Rows.laid_given_example_pub_burnisher_pub_vmmsgpack_msgpcode_Ext8]
theorem mem_4 : ("given.example/pub-burnisher/pub/vmmsgpack/msgpcode.Ext16", (.lit (.int .u8 200) : DataW Unit)) ∈ Rows.fnMCIsRow.laid := by simp [Rows.fnMCIsRow, Rows.laid_given_example_pub_burnisher_pub_vmmsgpack_msgpcode_Ext16]
theorem mem_5 : ("given.example/pub-burnisher/pub/vmmsgpack/msgpcode.Ext32", (.lit (.int .u8 201) : DataW Unit)) ∈ Rows.fnMCIsRow.laid := by simp [Rows.fnMCIsRow, Rows.laid_given_example_pub_burnisher_pub_vmmsgpack_msgpcode_Ext32]
theorem mem_6 : ("given.example/pub-burnisher/pub/vmmsgpack/msgpcode.FixedArrayLow", (.lit (.int .u8 144) : DataW Unit)) ∈ Rows.fnMCIsRow.laid := by simp [Rows.fnMCIsRow, Rows.laid_given_example_pub_burnisher_pub_vmmsgpack_msgpcode_FixedArrayLow]
theorem mem_7 : ("given.example/pub-burnisher/pub/vmmsgpack/msgpcode.FixedArrayHigh", (.lit (.int .u8 159) : DataW Unit)) ∈ Rows.fnMCIsRow.laid := by simp [Rows.fnMCIsRow, Rows.laid_given_example_pub_burnisher_pub_vmmsgpack_msgpcode_FixedArrayHigh]
theorem mem_8 : ("given.example/pub-burnisher/pub/vmmsgpack/msgpcode.FixExt1", (.lit (.int .u8 212) : DataW Unit)) ∈ Rows.fnMCIsRow.laid := by simp [Rows.fnMCIsRow, Rows.laid_given_example_pub_burnisher_pub_vmmsgpack_msgpcode_FixExt1]
theorem mem_9 : ("given.example/pub-burnisher/pub/vmmsgpack/msgpcode.FixExt16", (.lit (.int .u8 216) : DataW Unit)) ∈ Rows.fnMCIsRow.laid := by simp [Rows.fnMCIsRow, Rows.laid_given_example_pub_burnisher_pub_vmmsgpack_msgpcode_FixExt16]
theorem mem_10 : ("given.example/pub-burnisher/pub/vmmsgpack/msgpcode.FixedMapLow", (.lit (.int .u8 128) : DataW Unit)) ∈ Rows.fnMCIsRow.laid := by simp [Rows.fnMCIsRow, Rows.laid_given_example_pub_burnisher_pub_vmmsgpack_msgpcode_FixedMapLow]
theorem mem_11 : ("given.example/pub-burnisher/pub/vmmsgpack/msgpcode.FixedMapHigh", (.lit (.int .u8 143) : DataW Unit)) ∈ Rows.fnMCIsRow.laid := by simp [Rows.fnMCIsRow, Rows.laid_given_example_pub_burnisher_pub_vmmsgpack_msgpcode_FixedMapHigh]
theorem mem_12 : ("given.example/pub-burnisher/pub/vmmsgpack/msgpcode.PosFixedNumHigh", (.lit (.int .u8 127) : DataW Unit)) ∈ Rows.fnMCIsRow.laid := by simp [Rows.fnMCIsRow, Rows.laid_given_example_pub_burnisher_pub_vmmsgpack_msgpcode_PosFixedNumHigh]
theorem mem_13 : ("given.example/pub-burnisher/pub/vmmsgpack/msgpcode.NegFixedNumLow", (.lit (.int .u8 224) : DataW Unit)) ∈ Rows.fnMCIsRow.laid := by simp [Rows.fnMCIsRow, Rows.laid_given_example_pub_burnisher_pub_vmmsgpack_msgpcode_NegFixedNumLow]
theorem mem_14 : ("given.example/pub-burnisher/pub/vmmsgpack/msgpcode.FixedStrLow", (.lit (.int .u8 160) : DataW Unit)) ∈ Rows.fnMCIsRow.laid := by simp [Rows.fnMCIsRow, Rows.laid_given_example_pub_burnisher_pub_vmmsgpack_msgpcode_FixedStrLow]
theorem mem_15 : ("given.example/pub-burnisher/pub/vmmsgpack/msgpcode.FixedStrHigh", (.lit (.int .u8 191) : DataW Unit)) ∈ Rows.fnMCIsRow.laid := by simp [Rows.fnMCIsRow, Rows.laid_given_example_pub_burnisher_pub_vmmsgpack_msgpcode_FixedStrHigh]
theorem mem_16 : ("given.example/pub-burnisher/pub/vmmsgpack/msgpcode.Str8", (.lit (.int .u8 217) : DataW Unit)) ∈ Rows.fnMCIsRow.laid := by simp [Rows.fnMCIsRow, Rows.laid_given_example_pub_burnisher_pub_vmmsgpack_msgpcode_Str8]
theorem mem_17 : ("given.example/pub-burnisher/pub/vmmsgpack/msgpcode.Str16", (.lit (.int .u8 218) : DataW Unit)) ∈ Rows.fnMCIsRow.laid := by simp [Rows.fnMCIsRow, Rows.laid_given_example_pub_burnisher_pub_vmmsgpack_msgpcode_Str16]
theorem mem_18 : ("given.example/pub-burnisher/pub/vmmsgpack/msgpcode.Str32", (.lit (.int .u8 219) : DataW Unit)) ∈ Rows.fnMCIsRow.laid := by simp [Rows.fnMCIsRow, Rows.laid_given_example_pub_burnisher_pub_vmmsgpack_msgpcode_Str32]
theorem laid_of {W : World} {ps : List MemPlace} (h : DataW.LaidVars Tryd.prog W Rows.fnMCIsRow.laid ps) (hs : 19 ≤ W.heap.size) : Mcis.Laid W where
  g0 := OwnVars.laid_int (n := "given.example/pub-burnisher/pub/vmmsgpack/msgpcode.Bin8") (v := 196) (k := .u8) (by kernel_rfl) (by kernel_rfl) Tryd.underlying5 (l := Rows.fnMCIsRow.laid) (mem_0) h
  g1 := OwnVars.laid_int (n := "given.example/pub-burnisher/pub/vmmsgpack/msgpcode.Bin16") (v := 197) (k := .u8) (by kernel_rfl) (by kernel_rfl) Tryd.underlying5 (l := Rows.fnMCIsRow.laid) (mem_1) h
  g2 := OwnVars.laid_int (n := "given.example/pub-burnisher/pub/vmmsgpack/msgpcode.Bin32") (v := 198) (k := .u8) (by kernel_rfl) (by kernel_rfl) Tryd.underlying5 (l := Rows.fnMCIsRow.laid) (mem_2) h
  g3 := OwnVars.laid_int (n := "given.example/pub-burnisher/pub/vmmsgpack/msgpcode.Ext8") (v := 199) (k := .u8) (by kernel_rfl) (by kernel_rfl) Tryd.underlying5 (l := Rows.fnMCIsRow.laid) (mem_3) h
  g4 := OwnVars.laid_int (n := "given.example/pub-burnisher/pub/vmmsgpack/msgpcode.Ext16") (v := 200) (k := .u8) (by kernel_rfl) (by kernel_rfl) Tryd.underlying5 (l := Rows.fnMCIsRow.laid) (mem_4) h
  g5 := OwnVars.laid_int (n := "given.example/pub-burnisher/pub/vmmsgpack/msgpcode.Ext32") (v := 201) (k := .u8) (by kernel_rfl) (by kernel_rfl) Tryd.underlying5 (l := Rows.fnMCIsRow.laid) (mem_5) h
  g6 := OwnVars.laid_int (n := "given.example/pub-burnisher/pub/vmmsgpack/msgpcode.FixedArrayLow") (v := 144) (k := .u8) (by kernel_rfl) (by kernel_rfl) Tryd.underlying5 (l := Rows.fnMCIsRow.laid) (mem_6) h
  g7 := OwnVars.laid_int (n := "given.example/pub-burnisher/pub/vmmsgpack/msgpcode.FixedArrayHigh") (v := 159) (k := .u8) (by kernel_rfl) (by kernel_rfl) Tryd.underlying5 (l := Rows.fnMCIsRow.laid) (mem_7) h
  g8 := OwnVars.laid_int (n := "given.example/pub-burnisher/pub/vmmsgpack/msgpcode.FixExt1") (v := 212) (k := .u8) (by kernel_rfl) (by kernel_rfl) Tryd.underlying5 (l := Rows.fnMCIsRow.laid) (mem_8) h
  g9 := OwnVars.laid_int (n := "given.example/pub-burnisher/pub/vmmsgpack/msgpcode.FixExt16") (v := 216) (k := .u8) (by kernel_rfl) (by kernel_rfl) Tryd.underlying5 (l := Rows.fnMCIsRow.laid) (mem_9) h
  g10 := OwnVars.laid_int (n := "given.example/pub-burnisher/pub/vmmsgpack/msgpcode.FixedMapLow") (v := 128) (k := .u8) (by kernel_rfl) (by kernel_rfl) Tryd.underlying5 (l := Rows.fnMCIsRow.laid) (mem_10) h
  g11 := OwnVars.laid_int (n := "given.example/pub-burnisher/pub/vmmsgpack/msgpcode.FixedMapHigh") (v := 143) (k := .u8) (by kernel_rfl) (by kernel_rfl) Tryd.underlying5 (l := Rows.fnMCIsRow.laid) (mem_11) h
  g12 := OwnVars.laid_int (n := "given.example/pub-burnisher/pub/vmmsgpack/msgpcode.PosFixedNumHigh") (v := 127) (k := .u8) (by kernel_rfl) (by kernel_rfl) Tryd.underlying5 (l := Rows.fnMCIsRow.laid) (mem_12) h
  g13 := OwnVars.laid_int (n := "given.example/pub-burnisher/pub/vmmsgpack/msgpcode.NegFixedNumLow") (v := 224) (k := .u8) (by kernel_rfl) (by kernel_rfl) Tryd.underlying5 (l := Rows.fnMCIsRow.laid) (mem_13) h
  g14 := OwnVars.laid_int (n := "given.example/pub-burnisher/pub/vmmsgpack/msgpcode.FixedStrLow") (v := 160) (k := .u8) (by kernel_rfl) (by kernel_rfl) Tryd.underlying5 (l := Rows.fnMCIsRow.laid) (mem_14) h
  g15 := OwnVars.laid_int (n := "given.example/pub-burnisher/pub/vmmsgpack/msgpcode.FixedStrHigh") (v := 191) (k := .u8) (by kernel_rfl) (by kernel_rfl) Tryd.underlying5 (l := Rows.fnMCIsRow.laid) (mem_15) h
  g16 := OwnVars.laid_int (n := "given.example/pub-burnisher/pub/vmmsgpack/msgpcode.Str8") (v := 217) (k := .u8) (by kernel_rfl) (by kernel_rfl) Tryd.underlying5 (l := Rows.fnMCIsRow.laid) (mem_16) h
  g17 := OwnVars.laid_int (n := "given.example/pub-burnisher/pub/vmmsgpack/msgpcode.Str16") (v := 218) (k := .u8) (by kernel_rfl) (by kernel_rfl) Tryd.underlying5 (l := Rows.fnMCIsRow.laid) (mem_17) h
  g18 := OwnVars.laid_int (n := "given.example/pub-burnisher/pub/vmmsgpack/msgpcode.Str32") (v := 219) (k := .u8) (by kernel_rfl) (by kernel_rfl) Tryd.underlying5 (l := Rows.fnMCIsRow.laid) (mem_18) h
  big := hs
theorem big_of {W : World} {ps : List MemPlace} (h : DataW.LaidVars Tryd.prog W Rows.fnMCIsRow.laid ps) : 19 ≤ W.heap.size := by
  have h18 := OwnVars.laid_int (n := "given.example/pub-burnisher/pub/vmmsgpack/msgpcode.Str32") (v := 219) (k := .u8) (g := 18) (by kernel_rfl) (by kernel_rfl) Tryd.underlying5 mem_18 h
  rcases Nat.lt_or_ge 18 W.heap.size with h' | h'
  · exact h'
  · simp [World.cell?, Array.getElem?_eq_none h'] at h18
theorem walk (a0 : Int) (w0 : (Lit.int .u8 a0).wf = true) (w : World) (hl : Mcis.Laid w) :
    Calls Tryd.prog 3 #[.int .u8 a0] w fun e w' => e = .returned (.bool true) ∧ Below w.heap.size w w' := by
  have b := bounds_u8 w0
  by_cases k0 : a0 ≤ 127
  · exact Mcis.law0 a0 (by omega) k0 w hl
  by_cases k1 : a0 ≤ 143
  · exact Mcis.law1 a0 (by omega) k1 w hl
  by_cases k2 : a0 ≤ 159
  · exact Mcis.law2 a0 (by omega) k2 w hl
  by_cases k3 : a0 ≤ 191
  · exact Mcis.law3 a0 (by omega) k3 w hl
  by_cases k4 : a0 ≤ 195
  · exact Mcis.law4 a0 (by omega) k4 w hl
  by_cases k5 : a0 ≤ 196
  · exact Mcis.law5 a0 (by omega) k5 w hl
  by_cases k6 : a0 ≤ 197
  · exact Mcis.law6 a0 (by omega) k6 w hl
  by_cases k7 : a0 ≤ 198
  · exact Mcis.law7 a0 (by omega) k7 w hl
  by_cases k8 : a0 ≤ 199
  · exact Mcis.law8 a0 (by omega) k8 w hl
  by_cases k9 : a0 ≤ 200
  · exact Mcis.law9 a0 (by omega) k9 w hl
  by_cases k10 : a0 ≤ 201
  · exact Mcis.law10 a0 (by omega) k10 w hl
  by_cases k11 : a0 ≤ 211
  · exact Mcis.law11 a0 (by omega) k11 w hl
  by_cases k12 : a0 ≤ 216
  · exact Mcis.law12 a0 (by omega) k12 w hl
  by_cases k13 : a0 ≤ 217
  · exact Mcis.law13 a0 (by omega) k13 w hl
  by_cases k14 : a0 ≤ 218
  · exact Mcis.law14 a0 (by omega) k14 w hl
  by_cases k15 : a0 ≤ 219
  · exact Mcis.law15 a0 (by omega) k15 w hl
  by_cases k16 : a0 ≤ 223
  · exact Mcis.law16 a0 (by omega) k16 w hl
  by_cases k17 : a0 ≤ 255
  · exact Mcis.law17 a0 (by omega) k17 w hl
  · omega
theorem own : ownKnob Tryd.prog.godebug = none := by kernel_rfl
theorem laidOut : laidOutB Tryd.prog = true := by kernel_rfl
theorem varsGood : OwnVars.varsOk Tryd.prog Rows.fnMCIsSpec.vars = true := by kernel_rfl
theorem plainLaid : (Rows.fnMCIsRow.laid.filter fun x => x.2.handleName?.isSome) = [] := by kernel_rfl

/-- The heap of the program's own start meets the condition on the listed variables. -/
theorem door_met (os : Os) (args : Array Value) : laidMetH Tryd.prog Rows.fnMCIsRow.laid ((World.doorLaid Tryd.prog 400 os).forCall (fun _ _ => 0) ⟨#[], args, []⟩).memory :=
  laidMetH_of_parts3 (fuel := 8) (laidMet_of_run' 8 (by kernel_rfl) (by kernel_rfl)) (by kernel_rfl) (by kernel_rfl)

set_option maxRecDepth 100000 in
theorem lifted (os : Os) (started : os.Started) (H : Type) (enc : TypeId × Value → H) :
    ReturnsInHanded {} Tryd.checked os 3 .any (fun w args => (Rows.fnMCIsSpec.pre enc Tryd.prog Tryd.f3 [] false w args ∧ laidMetH Tryd.prog Rows.fnMCIsRow.laid w) ∧ sizedMet enc Tryd.prog Tryd.f3 (OpenSpec.ofChange Rows.fnMCIsSpec) false w args)
      (Rows.fnMCIsSpec.post enc Tryd.prog Tryd.f3 false true false false) := by
  refine returnsInHanded_of_change_and (C := Tryd.checked) (X := fun w _ => laidMetH Tryd.prog Rows.fnMCIsRow.laid w) (fun _ _ _ hh h => h.of_heap hh) own started (by kernel_rfl) Tryd.func3
    (ChangeSpec.witness_shaped (enc := enc) (C := Tryd.checked) (os := os) (X := fun w _ => laidMetH Tryd.prog Rows.fnMCIsRow.laid w) false (World.doorLaid Tryd.prog 400 os) #[.int .u8 0] 8 rfl (World.shaped_of_RefB (by kernel_rfl) (by kernel_rfl)) (by kernel_rfl) (by kernel_rfl) (by kernel_rfl) (door_met os _)) ?_
  intro W base args ds gs before hval0 hW _ _ hL _
  have hval : ∀ (j : Nat) t v, Tryd.f3.params[j]? = some t → args[j]? = some v → Value.okWide Tryd.prog W .any base t v := hval0
  have hW' := hW
  obtain ⟨p, q, hA0, hV0, rfl, hfz, hnd⟩ := hW
  have hV : DataW.TrodVars enc Tryd.prog W (fun _ => true) Rows.fnMCIsSpec.vars gs q := hV0
  have hA : DataW.TrodAll enc Tryd.prog W 0 (fun _ => true) true Tryd.f3.params.toList args.toList ds p := hA0
  rw [Tryd.params3] at hA hval
  obtain ⟨v0, vs0, d0, ds0, p0, q0, hargs, rfl, rfl, h0, r0⟩ := trodAll_cons hA
  obtain ⟨rfl, rfl, rfl⟩ := trodAll_nil r0
  obtain rfl : args = #[v0] := by cases args; simp_all
  obtain ⟨a0, rfl, rfl, rfl, w0⟩ := open_int Tryd.underlying5 (hval 0 5 v0 rfl rfl) h0
  clear hA0 hval0
  obtain ⟨lp, hlaid⟩ := OwnVars.of_met plainLaid hL
  refine (walk a0 w0 W (laid_of hlaid (big_of hlaid))).mono fun e W' ⟨he, bel⟩ => ?_
  subst he
  have hlen : gs.length = 19 := OwnVars.vars_len hV
  match gs, hlen, hV, hW' with
  | [x0, x1, x2, x3, x4, x5, x6, x7, x8, x9, x10, x11, x12, x13, x14, x15, x16, x17, x18], _, hV, hW' =>
    exact ⟨_, rfl, _, _, _, [], _, _, hW', trodAll_mk1 (shut_bool Tryd.underlying4 _), (trodAll_cons_mk (shut_int Tryd.underlying5 w0) trodAll_mk0), OwnVars.vars_below laidOut bel varsGood hV, bel.frame _, fun h => by cases h⟩

theorem over : Rows.fnMCIsRow.holds Tryd.pinned (OpenSpec.ofChange Rows.fnMCIsSpec) :=
  OpenClaim.holds_of_wide 3 Tryd.f3 rfl rfl rfl rfl rfl rfl rfl ⟨rfl, rfl, rfl, rfl, rfl⟩ rfl rfl rfl rfl rfl (by kernel_rfl) Tryd.func3 (by kernel_rfl)
    (of_decide_eq_true (by kernel_rfl)) (by unfold Func.isWrapper; first | (rw [if_pos (by decide +kernel)]; kernel_rfl) | (rw [if_neg (by decide +kernel)]; exact ⟨rfl, rfl⟩))
    (fun os started H enc _ => lifted os started H enc)

theorem card_holds : Rows.FnMCIsCardSaid :=
  Claim7.holds_tied_plain_at .later [] [.data, .data, .data, .data, .data, .data, .data, .data, .data, .data, .data, .data, .data, .data, .data, .data, .data, .data, .data] true (true, "d7262ededca62e964fae7cfeaf9e9bf29b6565f509e630c36b2b2a2ce610329d") false
    over (fun _ h => by cases h) (by kernel_rfl) (fun _ h => by cases h) fnMCIs_row_tie rfl ⟨rfl, rfl⟩ (by kernel_rfl) rfl
    (fun f fn hf hfn => by
      obtain rfl : f = 3 := Option.some.inj ((show Tryd.prog.funcNamed "given.example/pub-burnisher/laws.FnMCIs" = some 3 by kernel_rfl).symm.trans hf) |>.symm
      obtain rfl : fn = Tryd.f3 := (Option.some.inj (Tryd.func3.symm.trans hfn)).symm
      exact ⟨by kernel_rfl, fun j t ht => by
        rw [Tryd.params3] at ht
        have hm : t ∈ [5] := by simpa using Array.mem_of_getElem? ht
        have hall : ([5].all fun u => !Tryd.prog.wantsStandIn u) = true := by kernel_rfl
        exact (show Tryd.prog.wantsStandIn t = false by simpa using List.all_eq_true.1 hall t hm)⟩)
    (by kernel_rfl)
end Go.Proofs.YtlagcfdojbjmmaaDoor.OwnMCIs
namespace Go.Proofs.YtlagcfdojbjmmaaDoor
/-- The card's statement, under a short name. -/
theorem fnMCIs_holds : Rows.FnMCIsCardSaid := OwnMCIs.card_holds
end Go.Proofs.YtlagcfdojbjmmaaDoor
