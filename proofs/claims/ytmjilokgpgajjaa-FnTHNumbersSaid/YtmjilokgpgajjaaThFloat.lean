/- What a binary writer's call for a number with parts of 1 writes. -/
import Derived.Test.YtmjilokgpgajjaaThBin
namespace Go.Proofs.Ytmjilokgpgajjaa.Th
open Go.RowKit Go.Proofs.YtmjilokgpgajjaaW.PrintWords Go.Proofs.YtmjilokgpgajjaaW.PrintLast Go.Proofs.YtmjilokgpgajjaaW.PrintMore
set_option linter.unusedVariables false
set_option linter.unusedSimpArgs false

set_option maxHeartbeats 4000000 in
set_option maxRecDepth 100000 in
theorem w_float (w : World) (base Sg Wg T off SZ Pg PT : Nat) (ps : Array Value) (pv : Value) (xs : List Int) (m : Nat) (hst : St w base Sg Wg T off SZ Pg PT ps pv xs) (h1 : m < 18446744073709551616) (hl : xs.length < 10000000000) :
    Calls Try.prog 83 #[.pointer (some ⟨Wg, off, none⟩), .float .f64 m] w fun e w' => e = .returned .nilIface ∧ St w' base Sg Wg T off SZ Pg PT ps pv (xs ++ hib 8 (m : Int)) ∧ Below base w w' ∧ Rest w w' Sg Wg := by
  obtain ⟨ws, h3, h4, h5, h6, h7⟩ := hst.hW
  have hz := hst.hZ
  obtain ⟨b0, hb0⟩ := h7 7 (by decide)
  have hc : w.cell? ⟨Wg, off + 1 + 7, none⟩ = some (.int .u8 b0) := (blk_cell h3 _).trans hb0
  obtain ⟨u, hu⟩ : ∃ u : Int, u = (m : Int) := ⟨_, rfl⟩
  have hur : u = (m : Int) := hu
  have hbs : [u / 72057594037927936 % 256, u / 281474976710656 % 256, u / 1099511627776 % 256, u / 4294967296 % 256, u / 16777216 % 256, u / 65536 % 256, u / 256 % 256, u % 256] = hib 8 (m : Int) := by
    simp only [hib]
    rw [hur]
    simp only [List.cons.injEq, and_true]
    refine ⟨by omega, by omega, by omega, by omega, by omega, by omega, by omega, by omega⟩
  have HPUT := Aside0.mk (fun (c : Nat) => bput64 u (by omega) (by omega) Wg T (off + 1) c ws w.drew (blk_drew h3) (by omega) b0 hc)
  rw [hbs] at HPUT
  have HWS := Aside0.mk (show off + 1 + 8 ≤ ws.size by omega)
  have HST := Aside0.mk hst
  have H3 := Aside0.mk h3
  have HB0 := Aside0.mk (Below.refl w.heap.size w)
  have hlen := hib_len 8 (m : Int)
  generalize hib 8 (m : Int) = bs at *
  have HL := Aside0.mk hlen
  clear hst h3 h4 h5 h6 h7 hb0 hc hur hbs hlen
  rw [hu] at HPUT
  clear hu
  have hx : ∀ W, Sem.run Try.prog (callFunc 26 #[.float .f64 m]) W = .ok (.value (.int .u64 (m : Int))) W := fun W => by
    rw [run_callFunc_extern Try.func26 (by kernel_rfl) (by kernel_rfl) (by kernel_rfl) (e := Extern.MathFloatBits.float64bits) (by kernel_rfl)]
    rfl
  go_enter Try.func83, Try.ntmps83
  go_upto_region 1 with fail
  go_region_with (go_at_call 97; (with_reducible refine (HPUT.out _).mono ?_); rintro e w2 ⟨rfl, hw2, hk2, hb2⟩; have HST2 := Aside0.mk ((HST.out.below (below_drew HB0.out)).bytes (blk_drew H3.out) 0 bs hw2 (by rw [HL.out]; decide) hk2); have HC2 := Aside0.mk (cells_C (n := bs.length) (bs := bs) (o := off + 1) hw2 rfl (by rw [HL.out]; decide) (fun i hi => setBytes_at bs ws (off + 1) i (by rw [HL.out]; exact HWS.out) hi)); have HB2 := Aside0.mk ((HB0.out.mono HST.out.b3).drew.trans (hb2.mono HST.out.b2)); have HR2 := Aside0.mk ((Rest.below (Sg := Sg) (Wg := Wg) (below_drew HB0.out)).trans (Rest.bytes HST.out.n1 hk2)); clear hw2 hk2 hb2)
  all_goals
    have hbl := HL.out
    have HWR := Aside0.mk (w_write w2 base Sg Wg T off SZ Pg PT ps pv xs bs (some ⟨Wg, off + 1, none⟩) 8 HST2.out HC2.out (by omega))
    rw [hbl] at HWR
    clear hbl
    go_wp2_with (go_at_call 96; (with_reducible refine HWR.out.mono ?_); rintro e w3 ⟨rfl, hs3, hb3, hr3⟩; have HR3 := Aside0.mk (HR2.out.trans hr3); have HS3 := Aside0.mk hs3; have HB3 := Aside0.mk (HB2.out.trans hb3); clear hs3 hb3 hr3)
    go_ret
    exact ⟨rfl, HS3.out, HB3.out, HR3.out⟩
end Go.Proofs.Ytmjilokgpgajjaa.Th
