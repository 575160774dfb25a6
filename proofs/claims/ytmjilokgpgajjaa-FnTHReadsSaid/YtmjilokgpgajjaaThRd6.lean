/- Written by thread.py (wip/tpl): what the binary reader's methods read. -/
import Derived.Test.YtmjilokgpgajjaaThRd5
namespace Go.Proofs.Ytmjilokgpgajjaa.Th
open Go.RowKit Go.Proofs.YtmjilokgpgajjaaW.PrintWords Go.Proofs.YtmjilokgpgajjaaW.PrintLast Go.Proofs.YtmjilokgpgajjaaW.PrintMore
set_option linter.unusedVariables false
set_option linter.unusedSimpArgs false
set_option maxHeartbeats 8000000 in
set_option maxRecDepth 100000 in
theorem rd_left (w : World) (base Rb Rd T off SZ : Nat) (A : Option Addr) (D : List Int) (C i : Nat) (hs : Sr w base Rb Rd T off SZ A D C i) (hi : i ≤ D.length) :
    Calls Try.prog 21 #[.pointer (some ⟨Rb, 0, none⟩)] w fun e w' => e = .returned (.int .i64 ((D.length : Int) - (i : Int))) ∧ Below w.heap.size w w' := by
  have hL := hs.hL
  have hlt := blk_lt hs.hR
  have c0 : w.cell? ⟨Rb, 0, none⟩ = some (.slice A D.length C) := (blk_cell hs.hR 0).trans rfl
  have c1 : w.cell? ⟨Rb, 1, none⟩ = some (.int .i64 (i : Int)) := (blk_cell hs.hR 1).trans rfl
  have e1 : IntKind.i64.wrap ((D.length : Int) - (i : Int)) = (D.length : Int) - (i : Int) := by rw [IntKind.wrap_i64]; omega
  generalize D.length = L at *
  clear hs
  go_enter Try.func21, Try.ntmps21
  go_wp2
  go_quiet (fail)
  go_wp2_with fail
  go_ret
  exact ⟨rfl, pw_below_drewN (Below.refl _ _) _⟩
set_option maxRecDepth 100000 in
theorem is_lefter (S : Nat) (w : World) : Sem.run Try.prog (Instr.typeAssert (.iface 61 (.pointer (some ⟨S, 0, none⟩))) 158 188 true) w = .ok (.tuple #[.iface 61 (.pointer (some ⟨S, 0, none⟩)), .bool true]) w := by kernel_rfl
set_option maxHeartbeats 8000000 in
set_option maxRecDepth 100000 in
theorem rd_short (w : World) (base Rb Rd T off SZ : Nat) (A : Option Addr) (D : List Int) (C i : Nat) (hs : Sr w base Rb Rd T off SZ A D C i) (m : Nat) (hm : i + m ≤ D.length) :
    Calls Try.prog 70 #[.iface 61 (.pointer (some ⟨Rb, 0, none⟩)), .int .i64 (m : Int)] w fun e w' => e = .returned (.bool false) ∧ Below w.heap.size w w' := by
  have HL := Aside0.mk (rd_left w base Rb Rd T off SZ A D C i hs (by omega))
  have hta := is_lefter Rb
  have d1 : decide ((D.length : Int) - (i : Int) < (m : Int)) = false := by simp; omega
  clear hs hm
  go_enter Try.func70, Try.ntmps70
  go_wp2_with (go_at_call 21; (with_reducible refine HL.out.mono ?_); rintro e W1 ⟨rfl, hb⟩; have HB := Aside0.mk hb; clear hb)
  go_ret
  exact ⟨rfl, HB.out⟩
theorem rd_short0 (w : World) (base Rb Rd T off SZ : Nat) (A : Option Addr) (D : List Int) (C i : Nat) (hs : Sr w base Rb Rd T off SZ A D C i) (hm : i + 0 ≤ D.length) :
    Calls Try.prog 70 #[.iface 61 (.pointer (some ⟨Rb, 0, none⟩)), .int .i64 0] w fun e w' => e = .returned (.bool false) ∧ Below w.heap.size w w' := rd_short w base Rb Rd T off SZ A D C i hs 0 hm
theorem str_bytes (S : ByteArray) : strOfNums (bytesOf S) = S := by
  apply ByteArray.ext
  apply Array.ext'
  simp only [strOfNums, bytesOf, List.map_map]
  conv => rhs; rw [← List.map_id S.data.toList]
  apply List.map_congr_left
  intro b _
  simp
theorem C_none (w : World) (A : Option Addr) : (Kd.int .u8).C w A 0 [] := Kd.C_of_reads (d := 0) ⟨rfl, by decide, fun hn => absurd hn (by decide)⟩
theorem cells_C2 {W : World} {G T o n : Nat} {ws : Array Value} {bs : List Int} (hb : W.heap[G]? = some (.cells ws T (0, 0))) (hl : bs.length = n) (hn : n < 4000000000) (h : ∀ i, i < n → ws[o + i]? = some (.int .u8 (bs.getD i 0))) : (Kd.int .u8).C W (some ⟨G, o, none⟩) n bs := by
  refine Kd.C_of_reads (d := 0) ⟨hl, by omega, fun _ => ⟨_, rfl, fun j hj => ?_⟩⟩
  have := h j hj
  rw [add_at]
  exact (blk_cell hb (o + j)).trans this
theorem full_kp {W w2 : World} {ob : Obj} {base Rb Rd C i To o m : Nat} {A : Option Addr} {D zs : List Int} {ws : Array Value} (hf : Full (W.alloc ob) w2 base Rb A D C i W.heap.size To o m ws zs) : Kp W w2 Rb Rd := by
  have h1 := below_alloc (Below.refl W.heap.size W) ob
  exact ⟨Nat.le_trans h1.size hf.2.2.1.1, fun k hk h2 _ => (hf.2.2.1.2 k (Nat.lt_of_lt_of_le hk h1.size) h2 (Nat.ne_of_lt hk)).trans (h1.block k hk)⟩
/-- Bytes are read into a new array. -/
def Text (e : Ending) (w w' : World) (base Rb Rd T off SZ : Nat) (A : Option Addr) (D : List Int) (C j : Nat) (zs : List Int) : Prop := ∃ B, e = .returned (.tuple #[.slice (some ⟨B, 0, none⟩) zs.length zs.length, .nilIface]) ∧ (Kd.int .u8).C w' (some ⟨B, 0, none⟩) zs.length zs ∧ Done w w' base Rb Rd T off SZ A D C j
/-- A new array is filled. -/
def New (e : Ending) (W w' : World) (base Rb Rd T off SZ : Nat) (A : Option Addr) (D : List Int) (C j : Nat) (zs : List Int) : Prop := e = .returned (.tuple #[.int .i64 (zs.length : Int), .nilIface]) ∧ (Kd.int .u8).C w' (some ⟨W.heap.size, 0, none⟩) zs.length zs ∧ Done W w' base Rb Rd T off SZ A D C j
theorem rd_new (W : World) (base Rb Rd T off SZ : Nat) (A : Option Addr) (D : List Int) (C i : Nat) (hs : Sr W base Rb Rd T off SZ A D C i) (zs : List Int) (hn1 : zs.length < 2147483648) (hz : At D i zs) :
    Calls Try.prog 71 #[.iface 61 (.pointer (some ⟨Rb, 0, none⟩)), .slice (some ⟨W.heap.size, 0, none⟩) zs.length zs.length] (W.alloc (.cells (madeCells #[.int .u8 0] zs.length) 5)) fun e w' => New e W w' base Rb Rd T off SZ A D C (i + zs.length) zs := by
  have hb := below_alloc (Below.refl W.heap.size W) (.cells (madeCells #[.int .u8 0] zs.length) 5)
  by_cases h0 : zs.length = 0
  · obtain rfl : zs = [] := List.eq_nil_of_length_eq_zero h0
    refine (rd_full_none _ _ _ _).mono ?_
    rintro e w' ⟨rfl, rfl⟩
    exact ⟨rfl, C_none _ _, hs.below hb, Kp.below hb, hb.mono hs.b3⟩
  · refine (rd_full _ base Rb Rd T off SZ A D C _ (hs.below hb) _ 5 0 _ (blk_new W _) (Ne.symm (Nat.ne_of_lt hs.ltb)) hs.b3 zs.length zs.length (by omega) (Nat.le_refl _) (by omega) (by rw [size_madeCells]; omega) zs hz rfl).mono ?_
    rintro e w' ⟨rfl, hf⟩
    exact ⟨rfl, cells_C2 hf.1 rfl (by omega) (fun k hk => setBytes_at zs _ 0 k (by rw [size_madeCells]; omega) hk), (hs.below hb).fullnew (Ne.symm (Nat.ne_of_lt hs.ltd)) hf, full_kp hf, (hb.mono hs.b3).trans hf.2.2.2⟩
set_option maxHeartbeats 8000000 in
set_option maxRecDepth 100000 in
theorem r_bytes (w : World) (base Rb Rd T off SZ : Nat) (A : Option Addr) (D : List Int) (C i : Nat) (hs : Sr w base Rb Rd T off SZ A D C i) (zs : List Int) (hn1 : zs.length < 2147483648) (hz : At D i (hib 4 (zs.length : Int) ++ zs)) :
    Calls Try.prog 55 #[.pointer (some ⟨Rd, off, none⟩)] w fun e w' => Text e w w' base Rb Rd T off SZ A D C (i + 4 + zs.length) zs := by
  have HS := Aside0.mk hs
  have HK := Aside0.mk (Kp.refl w Rb Rd)
  have HB := Aside0.mk (Below.refl base w)
  have hz2 := hz.cat
  rw [hib_len] at hz2
  have HZ1 := Aside0.mk hz2.1
  have HZ2 := Aside0.mk hz2.2
  have HM2 := Aside0.mk hn1
  obtain ⟨m, hm⟩ : ∃ m, m = zs.length := ⟨_, rfl⟩
  have HLE := Aside0.mk (show i + 4 + m ≤ D.length by have := hz2.2.le; omega)
  have HML := Aside0.mk hm.symm
  rw [← hm] at hn1 HZ1
  have HM := Aside0.mk (show (0 : Int) ≤ (m : Int) ∧ (m : Int) < 2147483648 by omega)
  have hmk := print_make (P := Try.prog) 26 5 .u8 1 Try.underlying26 info5 (by decide) m (by omega)
  unfold Text
  rw [← hm]
  clear hs hz hz2 hm hn1
  go_enter Try.func55, Try.ntmps55
  go_wp2_with (first | (go_at_call 62; (with_reducible refine (r_length _ base Rb Rd T off SZ A D C _ HS.out (m : Int) HM.out.1 HM.out.2 HZ1.out).mono ?_); rintro e W1 ⟨rfl, hd⟩; have n1 := Aside0.mk hd.1; have n2 := Aside0.mk (HK.out.trans hd.2.1); have n3 := Aside0.mk (HB.out.trans hd.2.2); clear HS HK HB; have HS := n1; have HK := n2; have HB := n3; clear n1 n2 n3; have hlq := HS.out.hQ; obtain ⟨ws, h3, h4, h5, h6⟩ := hlq; have c1 : W1.cell? ⟨Rd, off + 1, none⟩ = some (.iface 61 (.pointer (some ⟨Rb, 0, none⟩))) := (blk_cell h3 (off + 1)).trans h5; have hltd := HS.out.ltd; clear h3 h4 h5 h6; clear hd) | (go_at_call 70; (with_reducible refine (rd_short _ base Rb Rd T off SZ A D C _ HS.out m HLE.out).mono ?_); rintro e W1 ⟨rfl, hb⟩; have n1 := Aside0.mk (HS.out.below hb); have n2 := Aside0.mk (HK.out.trans (Kp.below hb)); have n3 := Aside0.mk (HB.out.trans (hb.mono HS.out.b3)); clear HS HK HB; have HS := n1; have HK := n2; have HB := n3; clear n1 n2 n3; have hlq := HS.out.hQ; obtain ⟨ws, h3, h4, h5, h6⟩ := hlq; have c1 : W1.cell? ⟨Rd, off + 1, none⟩ = some (.iface 61 (.pointer (some ⟨Rb, 0, none⟩))) := (blk_cell h3 (off + 1)).trans h5; have hltd := HS.out.ltd; clear h3 h4 h5 h6; have HNEW := Aside0.mk (rd_new _ base Rb Rd T off SZ A D C _ HS.out zs HM2.out HZ2.out); rw [HML.out] at HNEW; clear hb) | (go_at_call 71; (with_reducible refine (HNEW.out).mono ?_); rintro e W1 ⟨he, hc, hd⟩; rw [HML.out] at he; subst he; have HCN := Aside0.mk hc; have n1 := Aside0.mk hd.1; have n2 := Aside0.mk (HK.out.trans hd.2.1); have n3 := Aside0.mk (HB.out.trans hd.2.2); clear HS HK HB; have HS := n1; have HK := n2; have HB := n3; clear n1 n2 n3; clear hd hc))
  go_ret2
  have hc := HCN.out
  rw [HML.out] at hc
  exact ⟨_, rfl, hc, HS.out, HK.out, HB.out⟩
end Go.Proofs.Ytmjilokgpgajjaa.Th
