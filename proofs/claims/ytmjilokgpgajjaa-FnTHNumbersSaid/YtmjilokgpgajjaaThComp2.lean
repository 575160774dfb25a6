/- What a compact writer's calls write. -/
import Derived.Test.YtmjilokgpgajjaaThZig
import Derived.Test.YtmjilokgpgajjaaThMsg
namespace Go.Proofs.Ytmjilokgpgajjaa.Th
open Go.RowKit Go.Proofs.YtmjilokgpgajjaaW.PrintWords Go.Proofs.YtmjilokgpgajjaaW.PrintLast Go.Proofs.YtmjilokgpgajjaaW.PrintMore Go.Proofs.Ytmjilokgpgajjaa.PFnTHWrites
set_option linter.unusedVariables false
set_option linter.unusedSimpArgs false

set_option maxHeartbeats 4000000 in
set_option maxRecDepth 100000 in
theorem c_bool_true (w : World) (base Sg Wg T Pg PT : Nat) (ps : Array Value) (pv : Value) (xs : List Int)  (hst : St w base Sg Wg T 1 21 Pg PT ps pv xs)  (hl : xs.length < 1000000000) :
    Calls Try.prog 124 #[.pointer (some ⟨Wg, 0, none⟩), .bool true] w fun e w' => e = .returned .nilIface ∧ St w' base Sg Wg T 1 21 Pg PT ps pv (xs ++ [1]) ∧ Below base w w' ∧ Rest w w' Sg Wg := by
  have HST := Aside0.mk hst
  have HS1 := Aside0.mk hst
  have HB1 := Aside0.mk (Below.refl base w)
  have HR1 := Aside0.mk (Rest.below (Sg := Sg) (Wg := Wg) (Below.refl w.heap.size w))
  clear hst
  go_enter Try.func124, Try.ntmps124
  go_wp2_with (first | (go_at_call 80; (with_reducible refine (w_bool_true _ base Sg Wg T 1 21 Pg PT ps pv _ HS1.out (by (try simp only [List.length_append, List.length_cons, List.length_nil, hib_len, vbytes_len, bytesOf_length]); omega)).mono ?_); rintro e w2 ⟨rfl, hs, hb, hr⟩; have HS2 := Aside0.mk hs; have HB2 := Aside0.mk (HB1.out.trans hb); have HR2 := Aside0.mk (HR1.out.trans hr); clear hs hb hr))
  go_ret
  exact ⟨rfl, by have h := HS2.out; (try simp only [List.append_assoc, List.cons_append, List.nil_append] at h); exact h, HB2.out, HR2.out⟩

set_option maxHeartbeats 4000000 in
set_option maxRecDepth 100000 in
theorem c_bool_false (w : World) (base Sg Wg T Pg PT : Nat) (ps : Array Value) (pv : Value) (xs : List Int)  (hst : St w base Sg Wg T 1 21 Pg PT ps pv xs)  (hl : xs.length < 1000000000) :
    Calls Try.prog 124 #[.pointer (some ⟨Wg, 0, none⟩), .bool false] w fun e w' => e = .returned .nilIface ∧ St w' base Sg Wg T 1 21 Pg PT ps pv (xs ++ [0]) ∧ Below base w w' ∧ Rest w w' Sg Wg := by
  have HST := Aside0.mk hst
  have HS1 := Aside0.mk hst
  have HB1 := Aside0.mk (Below.refl base w)
  have HR1 := Aside0.mk (Rest.below (Sg := Sg) (Wg := Wg) (Below.refl w.heap.size w))
  clear hst
  go_enter Try.func124, Try.ntmps124
  go_wp2_with (first | (go_at_call 80; (with_reducible refine (w_bool_false _ base Sg Wg T 1 21 Pg PT ps pv _ HS1.out (by (try simp only [List.length_append, List.length_cons, List.length_nil, hib_len, vbytes_len, bytesOf_length]); omega)).mono ?_); rintro e w2 ⟨rfl, hs, hb, hr⟩; have HS2 := Aside0.mk hs; have HB2 := Aside0.mk (HB1.out.trans hb); have HR2 := Aside0.mk (HR1.out.trans hr); clear hs hb hr))
  go_ret
  exact ⟨rfl, by have h := HS2.out; (try simp only [List.append_assoc, List.cons_append, List.nil_append] at h); exact h, HB2.out, HR2.out⟩

set_option maxHeartbeats 4000000 in
set_option maxRecDepth 100000 in
theorem c_int8 (w : World) (base Sg Wg T Pg PT : Nat) (ps : Array Value) (pv : Value) (xs : List Int) (v : Int) (hst : St w base Sg Wg T 1 21 Pg PT ps pv xs)  (hl : xs.length < 1000000000) :
    Calls Try.prog 131 #[.pointer (some ⟨Wg, 0, none⟩), .int .i8 v] w fun e w' => e = .returned .nilIface ∧ St w' base Sg Wg T 1 21 Pg PT ps pv (xs ++ [IntKind.u8.wrap v]) ∧ Below base w w' ∧ Rest w w' Sg Wg := by
  have HST := Aside0.mk hst
  have HS1 := Aside0.mk hst
  have HB1 := Aside0.mk (Below.refl base w)
  have HR1 := Aside0.mk (Rest.below (Sg := Sg) (Wg := Wg) (Below.refl w.heap.size w))
  clear hst
  go_enter Try.func131, Try.ntmps131
  go_wp2_with (first | (go_at_call 87; (with_reducible refine (w_int8 _ base Sg Wg T 1 21 Pg PT ps pv _ v HS1.out (by (try simp only [List.length_append, List.length_cons, List.length_nil, hib_len, vbytes_len, bytesOf_length]); omega)).mono ?_); rintro e w2 ⟨rfl, hs, hb, hr⟩; have HS2 := Aside0.mk hs; have HB2 := Aside0.mk (HB1.out.trans hb); have HR2 := Aside0.mk (HR1.out.trans hr); clear hs hb hr))
  go_ret
  exact ⟨rfl, by have h := HS2.out; (try simp only [List.append_assoc, List.cons_append, List.nil_append] at h); exact h, HB2.out, HR2.out⟩

set_option maxHeartbeats 4000000 in
set_option maxRecDepth 100000 in
theorem c_float (w : World) (base Sg Wg T Pg PT : Nat) (ps : Array Value) (pv : Value) (xs : List Int) (m : Nat) (hst : St w base Sg Wg T 1 21 Pg PT ps pv xs) (h1 : m < 18446744073709551616) (hl : xs.length < 1000000000) :
    Calls Try.prog 127 #[.pointer (some ⟨Wg, 0, none⟩), .float .f64 m] w fun e w' => e = .returned .nilIface ∧ St w' base Sg Wg T 1 21 Pg PT ps pv (xs ++ hib 8 (m : Int)) ∧ Below base w w' ∧ Rest w w' Sg Wg := by
  have HST := Aside0.mk hst
  have HS1 := Aside0.mk hst
  have HB1 := Aside0.mk (Below.refl base w)
  have HR1 := Aside0.mk (Rest.below (Sg := Sg) (Wg := Wg) (Below.refl w.heap.size w))
  clear hst
  go_enter Try.func127, Try.ntmps127
  go_wp2_with (first | (go_at_call 83; (with_reducible refine (w_float _ base Sg Wg T 1 21 Pg PT ps pv _ m HS1.out h1 (by (try simp only [List.length_append, List.length_cons, List.length_nil, hib_len, vbytes_len, bytesOf_length]); omega)).mono ?_); rintro e w2 ⟨rfl, hs, hb, hr⟩; have HS2 := Aside0.mk hs; have HB2 := Aside0.mk (HB1.out.trans hb); have HR2 := Aside0.mk (HR1.out.trans hr); clear hs hb hr))
  go_ret
  exact ⟨rfl, by have h := HS2.out; (try simp only [List.append_assoc, List.cons_append, List.nil_append] at h); exact h, HB2.out, HR2.out⟩

set_option maxHeartbeats 4000000 in
set_option maxRecDepth 100000 in
theorem c_int16 (w : World) (base Sg Wg T Pg PT : Nat) (ps : Array Value) (pv : Value) (xs : List Int) (v : Int) (hst : St w base Sg Wg T 1 21 Pg PT ps pv xs) (h0 : -32768 ≤ v) (h1 : v < 32768) (j : Nat) (hj : j < 10) (hn : nb j (zig v)) (hl : xs.length < 1000000000) :
    Calls Try.prog 128 #[.pointer (some ⟨Wg, 0, none⟩), .int .i16 v] w fun e w' => e = .returned .nilIface ∧ St w' base Sg Wg T 1 21 Pg PT ps pv (xs ++ vbytes j (zig v)) ∧ Below base w w' ∧ Rest w w' Sg Wg := by
  have HST := Aside0.mk hst
  have HS1 := Aside0.mk hst
  have HB1 := Aside0.mk (Below.refl base w)
  have HR1 := Aside0.mk (Rest.below (Sg := Sg) (Wg := Wg) (Below.refl w.heap.size w))
  have HN := Aside0.mk hn
  clear hn
  clear hst
  go_enter Try.func128, Try.ntmps128
  go_wp2_with (first | (go_at_call 139; (with_reducible refine (c_var _ base Sg Wg T Pg PT ps pv _ HS1.out v (by omega) (by omega) j hj HN.out (by (try simp only [List.length_append, List.length_cons, List.length_nil, hib_len, vbytes_len, bytesOf_length]); omega)).mono ?_); rintro e w2 ⟨rfl, hs, hb, hr⟩; have HS2 := Aside0.mk hs; have HB2 := Aside0.mk (HB1.out.trans hb); have HR2 := Aside0.mk (HR1.out.trans hr); clear hs hb hr))
  go_ret
  exact ⟨rfl, by have h := HS2.out; (try simp only [List.append_assoc, List.cons_append, List.nil_append] at h); exact h, HB2.out, HR2.out⟩

set_option maxHeartbeats 4000000 in
set_option maxRecDepth 100000 in
theorem c_int32 (w : World) (base Sg Wg T Pg PT : Nat) (ps : Array Value) (pv : Value) (xs : List Int) (v : Int) (hst : St w base Sg Wg T 1 21 Pg PT ps pv xs) (h0 : -2147483648 ≤ v) (h1 : v < 2147483648) (j : Nat) (hj : j < 10) (hn : nb j (zig v)) (hl : xs.length < 1000000000) :
    Calls Try.prog 129 #[.pointer (some ⟨Wg, 0, none⟩), .int .i32 v] w fun e w' => e = .returned .nilIface ∧ St w' base Sg Wg T 1 21 Pg PT ps pv (xs ++ vbytes j (zig v)) ∧ Below base w w' ∧ Rest w w' Sg Wg := by
  have HST := Aside0.mk hst
  have HS1 := Aside0.mk hst
  have HB1 := Aside0.mk (Below.refl base w)
  have HR1 := Aside0.mk (Rest.below (Sg := Sg) (Wg := Wg) (Below.refl w.heap.size w))
  have HN := Aside0.mk hn
  clear hn
  clear hst
  go_enter Try.func129, Try.ntmps129
  go_wp2_with (first | (go_at_call 139; (with_reducible refine (c_var _ base Sg Wg T Pg PT ps pv _ HS1.out v (by omega) (by omega) j hj HN.out (by (try simp only [List.length_append, List.length_cons, List.length_nil, hib_len, vbytes_len, bytesOf_length]); omega)).mono ?_); rintro e w2 ⟨rfl, hs, hb, hr⟩; have HS2 := Aside0.mk hs; have HB2 := Aside0.mk (HB1.out.trans hb); have HR2 := Aside0.mk (HR1.out.trans hr); clear hs hb hr))
  go_ret
  exact ⟨rfl, by have h := HS2.out; (try simp only [List.append_assoc, List.cons_append, List.nil_append] at h); exact h, HB2.out, HR2.out⟩

set_option maxHeartbeats 4000000 in
set_option maxRecDepth 100000 in
theorem c_int64 (w : World) (base Sg Wg T Pg PT : Nat) (ps : Array Value) (pv : Value) (xs : List Int) (v : Int) (hst : St w base Sg Wg T 1 21 Pg PT ps pv xs) (h0 : -9223372036854775808 ≤ v) (h1 : v < 9223372036854775808) (j : Nat) (hj : j < 10) (hn : nb j (zig v)) (hl : xs.length < 1000000000) :
    Calls Try.prog 130 #[.pointer (some ⟨Wg, 0, none⟩), .int .i64 v] w fun e w' => e = .returned .nilIface ∧ St w' base Sg Wg T 1 21 Pg PT ps pv (xs ++ vbytes j (zig v)) ∧ Below base w w' ∧ Rest w w' Sg Wg := by
  have HST := Aside0.mk hst
  have HS1 := Aside0.mk hst
  have HB1 := Aside0.mk (Below.refl base w)
  have HR1 := Aside0.mk (Rest.below (Sg := Sg) (Wg := Wg) (Below.refl w.heap.size w))
  have HN := Aside0.mk hn
  clear hn
  clear hst
  go_enter Try.func130, Try.ntmps130
  go_wp2_with (first | (go_at_call 139; (with_reducible refine (c_var _ base Sg Wg T Pg PT ps pv _ HS1.out v (by omega) (by omega) j hj HN.out (by (try simp only [List.length_append, List.length_cons, List.length_nil, hib_len, vbytes_len, bytesOf_length]); omega)).mono ?_); rintro e w2 ⟨rfl, hs, hb, hr⟩; have HS2 := Aside0.mk hs; have HB2 := Aside0.mk (HB1.out.trans hb); have HR2 := Aside0.mk (HR1.out.trans hr); clear hs hb hr))
  go_ret
  exact ⟨rfl, by have h := HS2.out; (try simp only [List.append_assoc, List.cons_append, List.nil_append] at h); exact h, HB2.out, HR2.out⟩

set_option maxHeartbeats 4000000 in
set_option maxRecDepth 100000 in
theorem c_len (w : World) (base Sg Wg T Pg PT : Nat) (ps : Array Value) (pv : Value) (xs : List Int) (n : Int) (hst : St w base Sg Wg T 1 21 Pg PT ps pv xs) (h0 : 0 ≤ n) (h1 : n < 2147483648) (j : Nat) (hj : j < 10) (hn : nb j n) (hl : xs.length < 1000000000) :
    Calls Try.prog 132 #[.pointer (some ⟨Wg, 0, none⟩), .int .i64 n] w fun e w' => e = .returned .nilIface ∧ St w' base Sg Wg T 1 21 Pg PT ps pv (xs ++ vbytes j n) ∧ Below base w w' ∧ Rest w w' Sg Wg := by
  have HST := Aside0.mk hst
  have HS1 := Aside0.mk hst
  have HB1 := Aside0.mk (Below.refl base w)
  have HR1 := Aside0.mk (Rest.below (Sg := Sg) (Wg := Wg) (Below.refl w.heap.size w))
  have d0 : decide (n < 0) = false := by simp; omega
  have d1 : decide (2147483647 < n) = false := by simp; omega
  have HN := Aside0.mk hn
  clear hn
  clear hst
  go_enter Try.func132, Try.ntmps132
  go_wp2_with (first | (go_at_call 140; (with_reducible refine (c_uvar _ base Sg Wg T Pg PT ps pv _ HS1.out n (by omega) (by omega) j hj HN.out (by (try simp only [List.length_append, List.length_cons, List.length_nil, hib_len, vbytes_len, bytesOf_length]); omega)).mono ?_); rintro e w2 ⟨rfl, hs, hb, hr⟩; have HS2 := Aside0.mk hs; have HB2 := Aside0.mk (HB1.out.trans hb); have HR2 := Aside0.mk (HR1.out.trans hr); clear hs hb hr))
  go_ret
  exact ⟨rfl, by have h := HS2.out; (try simp only [List.append_assoc, List.cons_append, List.nil_append] at h); exact h, HB2.out, HR2.out⟩

set_option maxHeartbeats 4000000 in
set_option maxRecDepth 100000 in
theorem c_text (w : World) (base Sg Wg T Pg PT : Nat) (ps : Array Value) (pv : Value) (xs : List Int) (S : ByteArray) (hst : St w base Sg Wg T 1 21 Pg PT ps pv xs) (hS : S.size < 2147483648) (j : Nat) (hj : j < 10) (hn : nb j (S.size : Int)) (hl : xs.length < 1000000000) :
    Calls Try.prog 137 #[.pointer (some ⟨Wg, 0, none⟩), .string S] w fun e w' => e = .returned .nilIface ∧ St w' base Sg Wg T 1 21 Pg PT ps pv (xs ++ (vbytes j S.size ++ bytesOf S)) ∧ Below base w w' ∧ Rest w w' Sg Wg := by
  have HST := Aside0.mk hst
  have HS1 := Aside0.mk hst
  have HB1 := Aside0.mk (Below.refl base w)
  have HR1 := Aside0.mk (Rest.below (Sg := Sg) (Wg := Wg) (Below.refl w.heap.size w))
  have HN := Aside0.mk hn
  clear hn
  clear hst
  go_enter Try.func137, Try.ntmps137
  go_wp2_with (first | (go_at_call 132; (with_reducible refine (c_len _ base Sg Wg T Pg PT ps pv _ (S.size : Int) HS1.out (by omega) (by omega) j hj HN.out (by (try simp only [List.length_append, List.length_cons, List.length_nil, hib_len, vbytes_len, bytesOf_length]); omega)).mono ?_); rintro e w2 ⟨rfl, hs, hb, hr⟩; have HS2 := Aside0.mk hs; have HB2 := Aside0.mk (HB1.out.trans hb); have HR2 := Aside0.mk (HR1.out.trans hr); clear hs hb hr) | (go_at_call 100; (with_reducible refine (w_string _ base Sg Wg T 1 21 Pg PT ps pv _ S HS2.out (by (try simp only [List.length_append, List.length_cons, List.length_nil, hib_len, vbytes_len, bytesOf_length]); omega)).mono ?_); rintro e w3 ⟨rfl, hs, hb, hr⟩; have HS3 := Aside0.mk hs; have HB3 := Aside0.mk (HB2.out.trans hb); have HR3 := Aside0.mk (HR2.out.trans hr); clear hs hb hr))
  go_ret
  exact ⟨rfl, by have h := HS3.out; (try simp only [List.append_assoc, List.cons_append, List.nil_append] at h); exact h, HB3.out, HR3.out⟩

set_option maxHeartbeats 4000000 in
set_option maxRecDepth 100000 in
theorem c_blob (w : World) (base Sg Wg T Pg PT : Nat) (ps : Array Value) (pv : Value) (xs : List Int) (ys : List Int) (A : Option Addr) (c : Nat) (hst : St w base Sg Wg T 1 21 Pg PT ps pv xs) (hS : ys.length < 2147483648) (j : Nat) (hj : j < 10) (hn : nb j (ys.length : Int)) (hy : Kd.F (Kd.int .u8) w (fun k => k ≠ Sg ∧ k ≠ Wg ∧ ∀ v, w.heap[Sg]? = some (.cells #[v] 53 (0, 0)) → some k ≠ v.ownBlock) A ys.length ys) (hl : xs.length < 1000000000) :
    Calls Try.prog 125 #[.pointer (some ⟨Wg, 0, none⟩), .slice A ys.length c] w fun e w' => e = .returned .nilIface ∧ St w' base Sg Wg T 1 21 Pg PT ps pv (xs ++ (vbytes j ys.length ++ ys)) ∧ Below base w w' ∧ Rest w w' Sg Wg := by
  have HST := Aside0.mk hst
  have HS1 := Aside0.mk hst
  have HB1 := Aside0.mk (Below.refl base w)
  have HR1 := Aside0.mk (Rest.below (Sg := Sg) (Wg := Wg) (Below.refl w.heap.size w))
  have HN := Aside0.mk hn
  have HY := Aside0.mk hy
  clear hy hn
  clear hst
  go_enter Try.func125, Try.ntmps125
  go_wp2_with (first | (go_at_call 132; (with_reducible refine (c_len _ base Sg Wg T Pg PT ps pv _ (ys.length : Int) HS1.out (by omega) (by omega) j hj HN.out (by (try simp only [List.length_append, List.length_cons, List.length_nil, hib_len, vbytes_len, bytesOf_length]); omega)).mono ?_); rintro e w2 ⟨rfl, hs, hb, hr⟩; have HS2 := Aside0.mk hs; have HB2 := Aside0.mk (HB1.out.trans hb); have HR2 := Aside0.mk (HR1.out.trans hr); have HY2 := Aside0.mk (HST.out.kept HY.out HR2.out); clear hs hb hr) | (go_at_call 96; (with_reducible refine (w_write _ base Sg Wg T 1 21 Pg PT ps pv _ ys A c HS2.out HY2.out (by (try simp only [List.length_append, List.length_cons, List.length_nil, hib_len, vbytes_len, bytesOf_length]); omega)).mono ?_); rintro e w3 ⟨rfl, hs, hb, hr⟩; have HS3 := Aside0.mk hs; have HB3 := Aside0.mk (HB2.out.trans hb); have HR3 := Aside0.mk (HR2.out.trans hr); clear hs hb hr))
  go_ret
  exact ⟨rfl, by have h := HS3.out; (try simp only [List.append_assoc, List.cons_append, List.nil_append] at h); exact h, HB3.out, HR3.out⟩
end Go.Proofs.Ytmjilokgpgajjaa.Th
