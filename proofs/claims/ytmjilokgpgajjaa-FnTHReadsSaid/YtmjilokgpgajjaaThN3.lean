/- Merged by merge.py (wip/tpl) out of ThBack, ThRr: Written by thback.py (wip/tpl): what is read of a call that was written. Written by thrr.py (wip/tpl): what is read of each call; wrRead tells it. -/
import Derived.Test.YtmjilokgpgajjaaThM1
import Derived.RegionTactic
import Derived.BigQuiet
import Derived.Deep.QuietTactic
import Derived.Handy
import Derived.Test.YtmjilokgpgajjaaThRgA
import Derived.Test.YtmjilokgpgajjaaThRgB
import Derived.Test.YtmjilokgpgajjaaThRgC
import Derived.Test.YtmjilokgpgajjaaThRgD
import Derived.Test.YtmjilokgpgajjaaThRgE
import Derived.Test.YtmjilokgpgajjaaThM8
namespace Go.Proofs.Ytmjilokgpgajjaa.Th
open Go.RowKit Go.Proofs.YtmjilokgpgajjaaW.PrintWords Go.Proofs.YtmjilokgpgajjaaW.PrintLast Go.Proofs.YtmjilokgpgajjaaW.PrintMore
set_option linter.unusedVariables false
set_option linter.unusedSimpArgs false
/-- wrRead tells it. -/
def Bk (p : Int) (c c' : Cl) : Prop := ∀ w : World, Calls Try.prog 15 #[.int .i64 p, .agg #[.int .i64 c.op, .int .i64 c.n, .string c.S, .int .i64 c.a, .int .i64 c.b, .bool c.d]] w fun e w' => e = .returned (.agg #[.int .i64 c'.op, .int .i64 c'.n, .string c'.S, .int .i64 c'.a, .int .i64 c'.b, .bool c'.d]) ∧ Below w.heap.size w w'
set_option maxHeartbeats 4000000 in
set_option maxRecDepth 100000 in
theorem bk_bin (p op n a b : Int) (S : ByteArray) (d : Bool) (hp : (p == 2) = false) : Bk p ⟨op, n, S, a, b, d⟩ ⟨op, n, S, a, b, false⟩ := by
  intro w
  go_enter Try.func15, Try.ntmps15
  go_wp2
  go_returns
  exact ⟨rfl, by repeat (first | (with_reducible first | exact Below.refl _ _ | apply below_alloc | apply pw_below_drewN | apply below_drew | refine below_set ?_ (by simp; done) | refine below_set ?_ (by omega)) | exact Below.refl _ _)⟩
set_option maxHeartbeats 4000000 in
set_option maxRecDepth 100000 in
theorem bk_oth (op n a b : Int) (S : ByteArray) (d : Bool) (h1 : (op == 14) = false) (h2 : (op == 11) = false) : Bk 2 ⟨op, n, S, a, b, d⟩ ⟨op, n, S, a, b, false⟩ := by
  intro w
  go_enter Try.func15, Try.ntmps15
  go_wp2
  go_returns
  exact ⟨rfl, by repeat (first | (with_reducible first | exact Below.refl _ _ | apply below_alloc | apply pw_below_drewN | apply below_drew | refine below_set ?_ (by simp; done) | refine below_set ?_ (by omega)) | exact Below.refl _ _)⟩
set_option maxHeartbeats 4000000 in
set_option maxRecDepth 100000 in
theorem bk_mapz (a b : Int) (S : ByteArray) (d : Bool)  : Bk 2 ⟨14, 0, S, a, b, d⟩ ⟨14, 0, S, 0, 0, false⟩ := by
  intro w
  go_enter Try.func15, Try.ntmps15
  go_wp2
  go_returns
  exact ⟨rfl, by repeat (first | (with_reducible first | exact Below.refl _ _ | apply below_alloc | apply pw_below_drewN | apply below_drew | refine below_set ?_ (by simp; done) | refine below_set ?_ (by omega)) | exact Below.refl _ _)⟩
set_option maxHeartbeats 4000000 in
set_option maxRecDepth 100000 in
theorem bk_map (n a b : Int) (S : ByteArray) (d : Bool) (h1 : (n == 0) = false) : Bk 2 ⟨14, n, S, a, b, d⟩ ⟨14, n, S, a, b, false⟩ := by
  intro w
  go_enter Try.func15, Try.ntmps15
  go_wp2
  go_returns
  exact ⟨rfl, by repeat (first | (with_reducible first | exact Below.refl _ _ | apply below_alloc | apply pw_below_drewN | apply below_drew | refine below_set ?_ (by simp; done) | refine below_set ?_ (by omega)) | exact Below.refl _ _)⟩
set_option maxHeartbeats 4000000 in
set_option maxRecDepth 100000 in
theorem bk_fs (n a b : Int) (S : ByteArray) (d : Bool) (h1 : decide (n < 16) = true) : Bk 2 ⟨11, n, S, a, b, d⟩ ⟨11, n, S, a, b, true⟩ := by
  intro w
  go_enter Try.func15, Try.ntmps15
  go_wp2
  go_returns
  exact ⟨rfl, by repeat (first | (with_reducible first | exact Below.refl _ _ | apply below_alloc | apply pw_below_drewN | apply below_drew | refine below_set ?_ (by simp; done) | refine below_set ?_ (by omega)) | exact Below.refl _ _)⟩
set_option maxHeartbeats 4000000 in
set_option maxRecDepth 100000 in
theorem bk_fl (n a b : Int) (S : ByteArray) (d : Bool) (h1 : decide (n < 16) = false) : Bk 2 ⟨11, n, S, a, b, d⟩ ⟨11, n, S, a, b, false⟩ := by
  intro w
  go_enter Try.func15, Try.ntmps15
  go_wp2
  go_returns
  exact ⟨rfl, by repeat (first | (with_reducible first | exact Below.refl _ _ | apply below_alloc | apply pw_below_drewN | apply below_drew | refine below_set ?_ (by simp; done) | refine below_set ?_ (by omega)) | exact Below.refl _ _)⟩
end Go.Proofs.Ytmjilokgpgajjaa.Th

namespace Go.Proofs.Ytmjilokgpgajjaa.Th
open Go.RowKit Go.Proofs.YtmjilokgpgajjaaW.PrintWords Go.Proofs.YtmjilokgpgajjaaW.PrintLast Go.Proofs.YtmjilokgpgajjaaW.PrintMore
set_option linter.unusedVariables false
set_option linter.unusedSimpArgs false
/-- A call is read. -/
def Rr (it off SZ : Nat) (op : Int) (c : Cl) (zs : List Int) : Prop := ∀ (w : World) (base Rb Rd T : Nat) (A : Option Addr) (D : List Int) (C i : Nat), Sr w base Rb Rd T off SZ A D C i → At D i zs → Calls Try.prog 20 #[.iface it (.pointer (some ⟨Rd, 0, none⟩)), .int .i64 op] w fun e w' => e = .returned (.tuple #[.agg #[.int .i64 c.op, .int .i64 c.n, .string c.S, .int .i64 c.a, .int .i64 c.b, .bool c.d], .bool true]) ∧ Done w w' base Rb Rd T off SZ A D C (i + zs.length)
theorem done_at {w w' : World} {base Rb Rd T off SZ C j j' : Nat} {A : Option Addr} {D : List Int} (h : Done w w' base Rb Rd T off SZ A D C j) (e : j = j') : Done w w' base Rb Rd T off SZ A D C j' := e ▸ h
theorem rr_at {it off SZ : Nat} {op : Int} {c : Cl} {zs : List Int} {n : Nat} (hn : zs.length = n) (h : ∀ (w : World) (base Rb Rd T : Nat) (A : Option Addr) (D : List Int) (C i : Nat), Sr w base Rb Rd T off SZ A D C i → At D i zs → Calls Try.prog 20 #[.iface it (.pointer (some ⟨Rd, 0, none⟩)), .int .i64 op] w fun e w' => e = .returned (.tuple #[.agg #[.int .i64 c.op, .int .i64 c.n, .string c.S, .int .i64 c.a, .int .i64 c.b, .bool c.d], .bool true]) ∧ Done w w' base Rb Rd T off SZ A D C (i + n)) : Rr it off SZ op c zs := by
  subst hn
  exact h
theorem rr_B {c : Cl} {zs : List Int} (h : GoodB c zs) : Rr 159 0 10 c.op c zs := by
  cases h with
  | i1z  => refine fun w base Rb Rd T A D C i hs hz => (rr1z_b w base Rb Rd T A D C i hs  hz).mono ?_; rintro e w1 ⟨rfl, hd⟩; exact ⟨rfl, done_at hd (by simp [hib_len, vbytes_len, bytesOf_length]; try omega)⟩
  | i1o  => refine fun w base Rb Rd T A D C i hs hz => (rr1o_b w base Rb Rd T A D C i hs  hz).mono ?_; rintro e w1 ⟨rfl, hd⟩; exact ⟨rfl, done_at hd (by simp [hib_len, vbytes_len, bytesOf_length]; try omega)⟩
  | i2 n h0 h1 => refine fun w base Rb Rd T A D C i hs hz => (rr2_b w base Rb Rd T A D C i hs n h0 h1 hz).mono ?_; rintro e w1 ⟨rfl, hd⟩; exact ⟨rfl, done_at hd (by simp [hib_len, vbytes_len, bytesOf_length]; try omega)⟩
  | i3 n h0 h1 => refine fun w base Rb Rd T A D C i hs hz => (rr3_b w base Rb Rd T A D C i hs n h0 h1 hz).mono ?_; rintro e w1 ⟨rfl, hd⟩; exact ⟨rfl, done_at hd (by simp [hib_len, vbytes_len, bytesOf_length]; try omega)⟩
  | i4 n h0 h1 => refine fun w base Rb Rd T A D C i hs hz => (rr4_b w base Rb Rd T A D C i hs n h0 h1 hz).mono ?_; rintro e w1 ⟨rfl, hd⟩; exact ⟨rfl, done_at hd (by simp [hib_len, vbytes_len, bytesOf_length]; try omega)⟩
  | i5 n h0 h1 => refine fun w base Rb Rd T A D C i hs hz => (rr5_b w base Rb Rd T A D C i hs n h0 h1 hz).mono ?_; rintro e w1 ⟨rfl, hd⟩; exact ⟨rfl, done_at hd (by simp [hib_len, vbytes_len, bytesOf_length]; try omega)⟩
  | i6 n h0 h1 => refine fun w base Rb Rd T A D C i hs hz => (rr6_b w base Rb Rd T A D C i hs n h0 h1 hz).mono ?_; rintro e w1 ⟨rfl, hd⟩; exact ⟨rfl, done_at hd (by simp [hib_len, vbytes_len, bytesOf_length]; try omega)⟩
  | i7 S hS => refine fun w base Rb Rd T A D C i hs hz => (rr7_b w base Rb Rd T A D C i hs S hS hz).mono ?_; rintro e w1 ⟨rfl, hd⟩; exact ⟨rfl, done_at hd (by simp [hib_len, vbytes_len, bytesOf_length]; try omega)⟩
  | i8 S hS => refine fun w base Rb Rd T A D C i hs hz => (rr8_b w base Rb Rd T A D C i hs S hS hz).mono ?_; rintro e w1 ⟨rfl, hd⟩; exact ⟨rfl, done_at hd (by simp [hib_len, vbytes_len, bytesOf_length]; try omega)⟩
  | i9 n h0 h1 => refine fun w base Rb Rd T A D C i hs hz => (rr9_b w base Rb Rd T A D C i hs n h0 h1 hz).mono ?_; rintro e w1 ⟨rfl, hd⟩; exact ⟨rfl, done_at hd (by simp [hib_len, vbytes_len, bytesOf_length]; try omega)⟩
  | i11 n a h0 h1 a0 a1 => refine fun w base Rb Rd T A D C i hs hz => (rr11_b w base Rb Rd T A D C i hs n a h0 h1 (by omega) a1 hz).mono ?_; rintro e w1 ⟨rfl, hd⟩; exact ⟨rfl, done_at hd (by simp [hib_len, vbytes_len, bytesOf_length]; try omega)⟩
  | i12 n a h0 h1 a0 a1 => refine fun w base Rb Rd T A D C i hs hz => (rr12_b w base Rb Rd T A D C i hs n a h0 h1 (by omega) a1 hz).mono ?_; rintro e w1 ⟨rfl, hd⟩; exact ⟨rfl, done_at hd (by simp [hib_len, vbytes_len, bytesOf_length]; try omega)⟩
  | i13 n a h0 h1 a0 a1 => refine fun w base Rb Rd T A D C i hs hz => (rr13_b w base Rb Rd T A D C i hs n a h0 h1 (by omega) a1 hz).mono ?_; rintro e w1 ⟨rfl, hd⟩; exact ⟨rfl, done_at hd (by simp [hib_len, vbytes_len, bytesOf_length]; try omega)⟩
  | i14 n a b h0 h1 a0 a1 b0 b1 => refine fun w base Rb Rd T A D C i hs hz => (rr14_b w base Rb Rd T A D C i hs n a b h0 h1 a0 a1 b0 b1 hz).mono ?_; rintro e w1 ⟨rfl, hd⟩; exact ⟨rfl, done_at hd (by simp [hib_len, vbytes_len, bytesOf_length]; try omega)⟩
theorem rr_O {c : Cl} {zs : List Int} (h : GoodO c zs) : Rr 159 0 10 c.op c zs := by
  cases h with
  | i10 n a S h0 h1 a0 a1 hS => refine fun w base Rb Rd T A D C i hs hz => (rr10old_b w base Rb Rd T A D C i hs n a S h0 h1 a0 a1 hS hz).mono ?_; rintro e w1 ⟨rfl, hd⟩; exact ⟨rfl, done_at hd (by simp [hib_len, vbytes_len, bytesOf_length]; try omega)⟩
theorem rr_N {c : Cl} {zs : List Int} (h : GoodN c zs) : Rr 159 0 10 c.op c zs := by
  cases h with
  | i10 n a S h0 h1 a0 a1 hS => refine fun w base Rb Rd T A D C i hs hz => (rr10new_b w base Rb Rd T A D C i hs n a S h0 h1 a0 a1 hS hz).mono ?_; rintro e w1 ⟨rfl, hd⟩; exact ⟨rfl, done_at hd (by simp [hib_len, vbytes_len, bytesOf_length]; try omega)⟩
theorem bk_B {p : Int} (hp : (p == 2) = false) {c : Cl} {zs : List Int} (h : GoodB c zs) : Bk p c c := by
  cases h <;> exact bk_bin _ _ _ _ _ _ _ hp
theorem bk_O {p : Int} (hp : (p == 2) = false) {c : Cl} {zs : List Int} (h : GoodO c zs) : Bk p c c := by
  cases h <;> exact bk_bin _ _ _ _ _ _ _ hp
theorem bk_N {p : Int} (hp : (p == 2) = false) {c : Cl} {zs : List Int} (h : GoodN c zs) : Bk p c c := by
  cases h <;> exact bk_bin _ _ _ _ _ _ _ hp
theorem rr_C {c : Cl} {zs : List Int} (h : GoodC c zs) : ∃ c2, Bk 2 c c2 ∧ Rr 166 1 11 c.op c2 zs ∧ c2.op = c.op := by
  cases h with
  | i1z  => exact ⟨_, bk_oth _ _ _ _ _ _ (by rfl) (by rfl), (by refine fun w base Rb Rd T A D C i hs hz => (rr1z_c w base Rb Rd T A D C i hs  hz).mono ?_; rintro e w1 ⟨rfl, hd⟩; exact ⟨rfl, done_at hd (by simp [hib_len, vbytes_len, bytesOf_length]; try omega)⟩), rfl⟩
  | i1o  => exact ⟨_, bk_oth _ _ _ _ _ _ (by rfl) (by rfl), (by refine fun w base Rb Rd T A D C i hs hz => (rr1o_c w base Rb Rd T A D C i hs  hz).mono ?_; rintro e w1 ⟨rfl, hd⟩; exact ⟨rfl, done_at hd (by simp [hib_len, vbytes_len, bytesOf_length]; try omega)⟩), rfl⟩
  | i2 n h0 h1 => exact ⟨_, bk_oth _ _ _ _ _ _ (by rfl) (by rfl), (by refine fun w base Rb Rd T A D C i hs hz => (rr2_c w base Rb Rd T A D C i hs n h0 h1 hz).mono ?_; rintro e w1 ⟨rfl, hd⟩; exact ⟨rfl, done_at hd (by simp [hib_len, vbytes_len, bytesOf_length]; try omega)⟩), rfl⟩
  | i3 n h0 h1 j hj hn => exact ⟨_, bk_oth _ _ _ _ _ _ (by rfl) (by rfl), (by refine fun w base Rb Rd T A D C i hs hz => (rr3_c w base Rb Rd T A D C i hs n h0 h1 j hj hn hz).mono ?_; rintro e w1 ⟨rfl, hd⟩; exact ⟨rfl, done_at hd (by simp [hib_len, vbytes_len, bytesOf_length]; try omega)⟩), rfl⟩
  | i4 n h0 h1 j hj hn => exact ⟨_, bk_oth _ _ _ _ _ _ (by rfl) (by rfl), (by refine fun w base Rb Rd T A D C i hs hz => (rr4_c w base Rb Rd T A D C i hs n h0 h1 j hj hn hz).mono ?_; rintro e w1 ⟨rfl, hd⟩; exact ⟨rfl, done_at hd (by simp [hib_len, vbytes_len, bytesOf_length]; try omega)⟩), rfl⟩
  | i5 n h0 h1 j hj hn => exact ⟨_, bk_oth _ _ _ _ _ _ (by rfl) (by rfl), (by refine fun w base Rb Rd T A D C i hs hz => (rr5_c w base Rb Rd T A D C i hs n h0 h1 j hj hn hz).mono ?_; rintro e w1 ⟨rfl, hd⟩; exact ⟨rfl, done_at hd (by simp [hib_len, vbytes_len, bytesOf_length]; try omega)⟩), rfl⟩
  | i6 n h0 h1 => exact ⟨_, bk_oth _ _ _ _ _ _ (by rfl) (by rfl), (by refine fun w base Rb Rd T A D C i hs hz => (rr6_c w base Rb Rd T A D C i hs n h0 h1 hz).mono ?_; rintro e w1 ⟨rfl, hd⟩; exact ⟨rfl, done_at hd (by simp [hib_len, vbytes_len, bytesOf_length]; try omega)⟩), rfl⟩
  | i7 S hS j hj hn => exact ⟨_, bk_oth _ _ _ _ _ _ (by rfl) (by rfl), (by refine fun w base Rb Rd T A D C i hs hz => (rr7_c w base Rb Rd T A D C i hs S hS j hj hn hz).mono ?_; rintro e w1 ⟨rfl, hd⟩; exact ⟨rfl, done_at hd (by simp [hib_len, vbytes_len, bytesOf_length]; try omega)⟩), rfl⟩
  | i8 S hS j hj hn => exact ⟨_, bk_oth _ _ _ _ _ _ (by rfl) (by rfl), (by refine fun w base Rb Rd T A D C i hs hz => (rr8_c w base Rb Rd T A D C i hs S hS j hj hn hz).mono ?_; rintro e w1 ⟨rfl, hd⟩; exact ⟨rfl, done_at hd (by simp [hib_len, vbytes_len, bytesOf_length]; try omega)⟩), rfl⟩
  | i9 n h0 h1 j hj hn => exact ⟨_, bk_oth _ _ _ _ _ _ (by rfl) (by rfl), (by refine fun w base Rb Rd T A D C i hs hz => (rr9_c w base Rb Rd T A D C i hs n h0 h1 j hj hn hz).mono ?_; rintro e w1 ⟨rfl, hd⟩; exact ⟨rfl, done_at hd (by simp [hib_len, vbytes_len, bytesOf_length]; try omega)⟩), rfl⟩
  | i10 n a S h0 h1 a0 a1 hS j hj hn k hk hn0 => exact ⟨_, bk_oth _ _ _ _ _ _ (by rfl) (by rfl), (by refine fun w base Rb Rd T A D C i hs hz => (rr10_c w base Rb Rd T A D C i hs n a S h0 h1 a0 a1 hS j hj hn k hk hn0 hz).mono ?_; rintro e w1 ⟨rfl, hd⟩; exact ⟨rfl, done_at hd (by simp [hib_len, vbytes_len, bytesOf_length]; try omega)⟩), rfl⟩
  | i11s n a h0 h1 a0 a1 => exact ⟨_, bk_fs n a 0 _ _ (by simpa using h1), (by refine fun w base Rb Rd T A D C i hs hz => (rr11s_c w base Rb Rd T A D C i hs n a h0 h1 a0 a1 hz).mono ?_; rintro e w1 ⟨rfl, hd⟩; exact ⟨rfl, done_at hd (by simp [hib_len, vbytes_len, bytesOf_length]; try omega)⟩), rfl⟩
  | i11l n a h0 h1 a0 a1 j hj hn => exact ⟨_, bk_fl n a 0 _ _ (by simpa using h0), (by refine fun w base Rb Rd T A D C i hs hz => (rr11l_c w base Rb Rd T A D C i hs n a h0 h1 a0 a1 j hj hn hz).mono ?_; rintro e w1 ⟨rfl, hd⟩; exact ⟨rfl, done_at hd (by simp [hib_len, vbytes_len, bytesOf_length]; try omega)⟩), rfl⟩
  | i12s n a h0 h1 a0 a1 => exact ⟨_, bk_oth _ _ _ _ _ _ (by rfl) (by rfl), (by refine fun w base Rb Rd T A D C i hs hz => (rr12s_c w base Rb Rd T A D C i hs n a h0 h1 a0 a1 hz).mono ?_; rintro e w1 ⟨rfl, hd⟩; exact ⟨rfl, done_at hd (by simp [hib_len, vbytes_len, bytesOf_length]; try omega)⟩), rfl⟩
  | i12l n a h0 h1 a0 a1 j hj hn => exact ⟨_, bk_oth _ _ _ _ _ _ (by rfl) (by rfl), (by refine fun w base Rb Rd T A D C i hs hz => (rr12l_c w base Rb Rd T A D C i hs n a h0 h1 a0 a1 j hj hn hz).mono ?_; rintro e w1 ⟨rfl, hd⟩; exact ⟨rfl, done_at hd (by simp [hib_len, vbytes_len, bytesOf_length]; try omega)⟩), rfl⟩
  | i13s n a h0 h1 a0 a1 => exact ⟨_, bk_oth _ _ _ _ _ _ (by rfl) (by rfl), (by refine fun w base Rb Rd T A D C i hs hz => (rr13s_c w base Rb Rd T A D C i hs n a h0 h1 a0 a1 hz).mono ?_; rintro e w1 ⟨rfl, hd⟩; exact ⟨rfl, done_at hd (by simp [hib_len, vbytes_len, bytesOf_length]; try omega)⟩), rfl⟩
  | i13l n a h0 h1 a0 a1 j hj hn => exact ⟨_, bk_oth _ _ _ _ _ _ (by rfl) (by rfl), (by refine fun w base Rb Rd T A D C i hs hz => (rr13l_c w base Rb Rd T A D C i hs n a h0 h1 a0 a1 j hj hn hz).mono ?_; rintro e w1 ⟨rfl, hd⟩; exact ⟨rfl, done_at hd (by simp [hib_len, vbytes_len, bytesOf_length]; try omega)⟩), rfl⟩
  | i14z a b a0 a1 b0 b1 => exact ⟨_, bk_mapz a b _ _, (by refine fun w base Rb Rd T A D C i hs hz => (rr14z_c w base Rb Rd T A D C i hs  hz).mono ?_; rintro e w1 ⟨rfl, hd⟩; exact ⟨rfl, done_at hd (by simp [hib_len, vbytes_len, bytesOf_length]; try omega)⟩), rfl⟩
  | i14l n a b h0 h1 a0 a1 b0 b1 j hj hn => exact ⟨_, bk_map n a b _ _ (by simp; omega), (by refine fun w base Rb Rd T A D C i hs hz => (rr14l_c w base Rb Rd T A D C i hs n a b h0 h1 a0 a1 b0 b1 j hj hn hz).mono ?_; rintro e w1 ⟨rfl, hd⟩; exact ⟨rfl, done_at hd (by simp [hib_len, vbytes_len, bytesOf_length]; try omega)⟩), rfl⟩
/-- What is read, by a protocol's number. -/
def RdP (p : Int) (op : Int) (c : Cl) (zs : List Int) : Prop := (p ≠ 2 ∧ Rr 159 0 10 op c zs) ∨ (p = 2 ∧ Rr 166 1 11 op c zs)
theorem good_read {p : Int} {c : Cl} {zs : List Int} (h : Good p c zs) : ∃ c2, Bk p c c2 ∧ RdP p c.op c2 zs ∧ c2.op = c.op := by
  rcases h with ⟨rfl, h | h⟩ | ⟨rfl, h | h⟩ | ⟨rfl, h⟩
  · exact ⟨c, bk_B rfl h, .inl ⟨by decide, rr_B h⟩, rfl⟩
  · exact ⟨c, bk_N rfl h, .inl ⟨by decide, rr_N h⟩, rfl⟩
  · exact ⟨c, bk_B rfl h, .inl ⟨by decide, rr_B h⟩, rfl⟩
  · exact ⟨c, bk_O rfl h, .inl ⟨by decide, rr_O h⟩, rfl⟩
  · obtain ⟨c2, h1, h2, h3⟩ := rr_C h
    exact ⟨c2, h1, .inr ⟨rfl, h2⟩, h3⟩
end Go.Proofs.Ytmjilokgpgajjaa.Th
