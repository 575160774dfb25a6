/- What a binary writer's calls write. -/
import Derived.Test.YtmjilokgpgajjaaThWrite
import Derived.Laws.Externs
namespace Go.Proofs.Ytmjilokgpgajjaa.Th
open Go.RowKit Go.Proofs.YtmjilokgpgajjaaW.PrintWords Go.Proofs.YtmjilokgpgajjaaW.PrintLast Go.Proofs.YtmjilokgpgajjaaW.PrintMore
set_option linter.unusedVariables false
set_option linter.unusedSimpArgs false
/-- The k lowest bytes of a number, the highest one of them first. -/
def hib : Nat → Int → List Int
  | 0, _ => []
  | k + 1, u => u / 256 ^ k % 256 :: hib k u
theorem hib_len : ∀ (k : Nat) (u : Int), (hib k u).length = k
  | 0, _ => rfl
  | k + 1, u => by simp [hib, hib_len k]

set_option maxHeartbeats 4000000 in
set_option maxRecDepth 100000 in
theorem w_int16 (w : World) (base Sg Wg T off SZ Pg PT : Nat) (ps : Array Value) (pv : Value) (xs : List Int) (v : Int) (hst : St w base Sg Wg T off SZ Pg PT ps pv xs) (h0 : -32768 ≤ v) (h1 : v < 32768) (hl : xs.length < 10000000000) :
    Calls Try.prog 84 #[.pointer (some ⟨Wg, off, none⟩), .int .i16 v] w fun e w' => e = .returned .nilIface ∧ St w' base Sg Wg T off SZ Pg PT ps pv (xs ++ hib 2 v) ∧ Below base w w' ∧ Rest w w' Sg Wg := by
  obtain ⟨ws, h3, h4, h5, h6, h7⟩ := hst.hW
  have hz := hst.hZ
  obtain ⟨b0, hb0⟩ := h7 1 (by decide)
  have hc : w.cell? ⟨Wg, off + 1 + 1, none⟩ = some (.int .u8 b0) := (blk_cell h3 _).trans hb0
  obtain ⟨u, hu⟩ : ∃ u, u = IntKind.u16.wrap v := ⟨_, rfl⟩
  have hur : u = v % 65536 := by rw [hu, IntKind.wrap_u16]
  have hbs : [u / 256 % 256, u % 256] = hib 2 v := by
    simp only [hib]
    rw [hur]
    simp only [List.cons.injEq, and_true]
    refine ⟨by omega, by omega⟩
  have HPUT := Aside0.mk (fun (c : Nat) => bput16 u (by omega) (by omega) Wg T (off + 1) c ws w.drew (blk_drew h3) (by omega) b0 hc)
  rw [hbs] at HPUT
  have HWS := Aside0.mk (show off + 1 + 2 ≤ ws.size by omega)
  have HST := Aside0.mk hst
  have H3 := Aside0.mk h3
  have HB0 := Aside0.mk (Below.refl w.heap.size w)
  have hlen := hib_len 2 v
  generalize hib 2 v = bs at *
  have HL := Aside0.mk hlen
  clear hst h3 h4 h5 h6 h7 hb0 hc hur hbs hlen
  rw [hu] at HPUT
  clear hu
  go_enter Try.func84, Try.ntmps84
  go_upto_region 1 with fail
  go_region_with (go_at_call 98; (with_reducible refine (HPUT.out _).mono ?_); rintro e w2 ⟨rfl, hw2, hk2, hb2⟩; have HST2 := Aside0.mk ((HST.out.below (below_drew HB0.out)).bytes (blk_drew H3.out) 0 bs hw2 (by rw [HL.out]; decide) hk2); have HC2 := Aside0.mk (cells_C (n := bs.length) (bs := bs) (o := off + 1) hw2 rfl (by rw [HL.out]; decide) (fun i hi => setBytes_at bs ws (off + 1) i (by rw [HL.out]; exact HWS.out) hi)); have HB2 := Aside0.mk ((HB0.out.mono HST.out.b3).drew.trans (hb2.mono HST.out.b2)); have HR2 := Aside0.mk ((Rest.below (Sg := Sg) (Wg := Wg) (below_drew HB0.out)).trans (Rest.bytes HST.out.n1 hk2)); clear hw2 hk2 hb2)
  have hbl := HL.out
  have HWR := Aside0.mk (w_write w2 base Sg Wg T off SZ Pg PT ps pv xs bs (some ⟨Wg, off + 1, none⟩) 8 HST2.out HC2.out (by omega))
  rw [hbl] at HWR
  clear hbl
  go_wp2_with (go_at_call 96; (with_reducible refine HWR.out.mono ?_); rintro e w3 ⟨rfl, hs3, hb3, hr3⟩; have HR3 := Aside0.mk (HR2.out.trans hr3); have HS3 := Aside0.mk hs3; have HB3 := Aside0.mk (HB2.out.trans hb3); clear hs3 hb3 hr3)
  go_ret
  exact ⟨rfl, HS3.out, HB3.out, HR3.out⟩

set_option maxHeartbeats 4000000 in
set_option maxRecDepth 100000 in
theorem w_int32 (w : World) (base Sg Wg T off SZ Pg PT : Nat) (ps : Array Value) (pv : Value) (xs : List Int) (v : Int) (hst : St w base Sg Wg T off SZ Pg PT ps pv xs) (h0 : -2147483648 ≤ v) (h1 : v < 2147483648) (hl : xs.length < 10000000000) :
    Calls Try.prog 85 #[.pointer (some ⟨Wg, off, none⟩), .int .i32 v] w fun e w' => e = .returned .nilIface ∧ St w' base Sg Wg T off SZ Pg PT ps pv (xs ++ hib 4 v) ∧ Below base w w' ∧ Rest w w' Sg Wg := by
  obtain ⟨ws, h3, h4, h5, h6, h7⟩ := hst.hW
  have hz := hst.hZ
  obtain ⟨b0, hb0⟩ := h7 3 (by decide)
  have hc : w.cell? ⟨Wg, off + 1 + 3, none⟩ = some (.int .u8 b0) := (blk_cell h3 _).trans hb0
  obtain ⟨u, hu⟩ : ∃ u, u = IntKind.u32.wrap v := ⟨_, rfl⟩
  have hur : u = v % 4294967296 := by rw [hu, IntKind.wrap_u32]
  have hbs : [u / 16777216 % 256, u / 65536 % 256, u / 256 % 256, u % 256] = hib 4 v := by
    simp only [hib]
    rw [hur]
    simp only [List.cons.injEq, and_true]
    refine ⟨by omega, by omega, by omega, by omega⟩
  have HPUT := Aside0.mk (fun (c : Nat) => bput32 u (by omega) (by omega) Wg T (off + 1) c ws w.drew (blk_drew h3) (by omega) b0 hc)
  rw [hbs] at HPUT
  have HWS := Aside0.mk (show off + 1 + 4 ≤ ws.size by omega)
  have HST := Aside0.mk hst
  have H3 := Aside0.mk h3
  have HB0 := Aside0.mk (Below.refl w.heap.size w)
  have hlen := hib_len 4 v
  generalize hib 4 v = bs at *
  have HL := Aside0.mk hlen
  clear hst h3 h4 h5 h6 h7 hb0 hc hur hbs hlen
  rw [hu] at HPUT
  clear hu
  go_enter Try.func85, Try.ntmps85
  go_upto_region 1 with fail
  go_region_with (go_at_call 99; (with_reducible refine (HPUT.out _).mono ?_); rintro e w2 ⟨rfl, hw2, hk2, hb2⟩; have HST2 := Aside0.mk ((HST.out.below (below_drew HB0.out)).bytes (blk_drew H3.out) 0 bs hw2 (by rw [HL.out]; decide) hk2); have HC2 := Aside0.mk (cells_C (n := bs.length) (bs := bs) (o := off + 1) hw2 rfl (by rw [HL.out]; decide) (fun i hi => setBytes_at bs ws (off + 1) i (by rw [HL.out]; exact HWS.out) hi)); have HB2 := Aside0.mk ((HB0.out.mono HST.out.b3).drew.trans (hb2.mono HST.out.b2)); have HR2 := Aside0.mk ((Rest.below (Sg := Sg) (Wg := Wg) (below_drew HB0.out)).trans (Rest.bytes HST.out.n1 hk2)); clear hw2 hk2 hb2)
  have hbl := HL.out
  have HWR := Aside0.mk (w_write w2 base Sg Wg T off SZ Pg PT ps pv xs bs (some ⟨Wg, off + 1, none⟩) 8 HST2.out HC2.out (by omega))
  rw [hbl] at HWR
  clear hbl
  go_wp2_with (go_at_call 96; (with_reducible refine HWR.out.mono ?_); rintro e w3 ⟨rfl, hs3, hb3, hr3⟩; have HR3 := Aside0.mk (HR2.out.trans hr3); have HS3 := Aside0.mk hs3; have HB3 := Aside0.mk (HB2.out.trans hb3); clear hs3 hb3 hr3)
  go_ret
  exact ⟨rfl, HS3.out, HB3.out, HR3.out⟩

set_option maxHeartbeats 4000000 in
set_option maxRecDepth 100000 in
theorem w_int64 (w : World) (base Sg Wg T off SZ Pg PT : Nat) (ps : Array Value) (pv : Value) (xs : List Int) (v : Int) (hst : St w base Sg Wg T off SZ Pg PT ps pv xs) (h0 : -9223372036854775808 ≤ v) (h1 : v < 9223372036854775808) (hl : xs.length < 10000000000) :
    Calls Try.prog 86 #[.pointer (some ⟨Wg, off, none⟩), .int .i64 v] w fun e w' => e = .returned .nilIface ∧ St w' base Sg Wg T off SZ Pg PT ps pv (xs ++ hib 8 v) ∧ Below base w w' ∧ Rest w w' Sg Wg := by
  obtain ⟨ws, h3, h4, h5, h6, h7⟩ := hst.hW
  have hz := hst.hZ
  obtain ⟨b0, hb0⟩ := h7 7 (by decide)
  have hc : w.cell? ⟨Wg, off + 1 + 7, none⟩ = some (.int .u8 b0) := (blk_cell h3 _).trans hb0
  obtain ⟨u, hu⟩ : ∃ u, u = IntKind.u64.wrap v := ⟨_, rfl⟩
  have hur : u = v % 18446744073709551616 := by rw [hu, IntKind.wrap_u64]
  have hbs : [u / 72057594037927936 % 256, u / 281474976710656 % 256, u / 1099511627776 % 256, u / 4294967296 % 256, u / 16777216 % 256, u / 65536 % 256, u / 256 % 256, u % 256] = hib 8 v := by
    simp only [hib]
    rw [hur]
    simp only [List.cons.injEq, and_true]
    refine ⟨by omega, by omega, by omega, by omega, by omega, by omega, by omega, by omega⟩
  have HPUT := Aside0.mk (fun (c : Nat) => bput64 u (by omega) (by omega) Wg T (off + 1) c ws w.drew (blk_drew h3) (by omega) b0 hc)
  rw [hbs] at HPUT
  have HWS := Aside0.mk (show off + 1 + 8 ≤ ws.size by omega)
  have HST := Aside0.mk hst
  have H3 := Aside0.mk h3
  have HB0 := Aside0.mk (Below.refl w.heap.size w)
  have hlen := hib_len 8 v
  generalize hib 8 v = bs at *
  have HL := Aside0.mk hlen
  clear hst h3 h4 h5 h6 h7 hb0 hc hur hbs hlen
  rw [hu] at HPUT
  clear hu
  go_enter Try.func86, Try.ntmps86
  go_upto_region 1 with fail
  go_region_with (go_at_call 97; (with_reducible refine (HPUT.out _).mono ?_); rintro e w2 ⟨rfl, hw2, hk2, hb2⟩; have HST2 := Aside0.mk ((HST.out.below (below_drew HB0.out)).bytes (blk_drew H3.out) 0 bs hw2 (by rw [HL.out]; decide) hk2); have HC2 := Aside0.mk (cells_C (n := bs.length) (bs := bs) (o := off + 1) hw2 rfl (by rw [HL.out]; decide) (fun i hi => setBytes_at bs ws (off + 1) i (by rw [HL.out]; exact HWS.out) hi)); have HB2 := Aside0.mk ((HB0.out.mono HST.out.b3).drew.trans (hb2.mono HST.out.b2)); have HR2 := Aside0.mk ((Rest.below (Sg := Sg) (Wg := Wg) (below_drew HB0.out)).trans (Rest.bytes HST.out.n1 hk2)); clear hw2 hk2 hb2)
  have hbl := HL.out
  have HWR := Aside0.mk (w_write w2 base Sg Wg T off SZ Pg PT ps pv xs bs (some ⟨Wg, off + 1, none⟩) 8 HST2.out HC2.out (by omega))
  rw [hbl] at HWR
  clear hbl
  go_wp2_with (go_at_call 96; (with_reducible refine HWR.out.mono ?_); rintro e w3 ⟨rfl, hs3, hb3, hr3⟩; have HR3 := Aside0.mk (HR2.out.trans hr3); have HS3 := Aside0.mk hs3; have HB3 := Aside0.mk (HB2.out.trans hb3); clear hs3 hb3 hr3)
  go_ret
  exact ⟨rfl, HS3.out, HB3.out, HR3.out⟩
end Go.Proofs.Ytmjilokgpgajjaa.Th
