/- Written by iowalk.py (wip/): ways through the program's test of a time's text, what its readers tell being premises. -/
import Derived.Test.YtmhngpihkaignaaPFnIOValidx3
namespace Go.Proofs.Ytmhngpihkaignaa.IoWalk
open Go.RowKit Go.Proofs.Ytmhngpihkaignaa.PFnIOValid Go.Proofs.YtmhngpihkaignaaW.PrintWords Go.Proofs.YtmhngpihkaignaaW.PrintLast Go.Proofs.YtmhngpihkaignaaW.PrintMore
set_option linter.unusedVariables false

set_option maxHeartbeats 2000000 in
set_option maxRecDepth 100000 in
theorem v_fd1 (k : Nat) (s0 s1 s2 : ByteArray) (f : Int) (H0 : Aside0 (iso8601_readDigits.f k s0 4 4 = some (s1, true))) (H1 : Aside0 (iso8601_readByte.f s1 45 = some (s2, false))) (w : World) :
    Calls Try.prog 59 #[.string s0, .int .i64 f] w fun e w' => e = .returned (.bool false) ∧ Drawn0 w w' := by
  go_enter Try.func59, Try.ntmps59
  go_wp2_with fail
  refine (iso8601_readDigits.calls k s0 4 4 s1 true _ H0.out).mono ?_
  rintro e w' ⟨rfl, ⟨nd, rfl⟩⟩
  go_wp2_with fail
  refine (iso8601_readByte.calls s1 45 s2 false _ H1.out).mono ?_
  rintro e w' ⟨rfl, ⟨nd, rfl⟩⟩
  go_wp2_with fail
  go_ret
  exact ⟨rfl, by repeat (first | exact Drawn0.refl _ | apply Drawn0.step)⟩
set_option maxHeartbeats 2000000 in
set_option maxRecDepth 100000 in
theorem v_fd4 (k : Nat) (s0 s1 s2 s3 s4 s5 : ByteArray) (f : Int) (H0 : Aside0 (iso8601_readDigits.f k s0 4 4 = some (s1, true))) (H1 : Aside0 (iso8601_readByte.f s1 45 = some (s2, true))) (H2 : Aside0 (iso8601_readDigits.f k s2 2 2 = some (s3, true))) (H3 : Aside0 (iso8601_readByte.f s3 45 = some (s4, true))) (H4 : Aside0 (iso8601_readDigits.f k s4 2 2 = some (s5, false))) (w : World) :
    Calls Try.prog 59 #[.string s0, .int .i64 f] w fun e w' => e = .returned (.bool false) ∧ Drawn0 w w' := by
  go_enter Try.func59, Try.ntmps59
  go_wp2_with fail
  refine (iso8601_readDigits.calls k s0 4 4 s1 true _ H0.out).mono ?_
  rintro e w' ⟨rfl, ⟨nd, rfl⟩⟩
  go_wp2_with fail
  refine (iso8601_readByte.calls s1 45 s2 true _ H1.out).mono ?_
  rintro e w' ⟨rfl, ⟨nd, rfl⟩⟩
  go_wp2_with fail
  refine (iso8601_readDigits.calls k s2 2 2 s3 true _ H2.out).mono ?_
  rintro e w' ⟨rfl, ⟨nd, rfl⟩⟩
  go_wp2_with fail
  refine (iso8601_readByte.calls s3 45 s4 true _ H3.out).mono ?_
  rintro e w' ⟨rfl, ⟨nd, rfl⟩⟩
  go_wp2_with fail
  refine (iso8601_readDigits.calls k s4 2 2 s5 false _ H4.out).mono ?_
  rintro e w' ⟨rfl, ⟨nd, rfl⟩⟩
  go_wp2_with fail
  go_ret
  exact ⟨rfl, by repeat (first | exact Drawn0.refl _ | apply Drawn0.step)⟩
set_option maxHeartbeats 2000000 in
set_option maxRecDepth 100000 in
theorem v_date0b (k : Nat) (s0 s1 s2 s3 s4 s5 s6 s7 : ByteArray) (f : Int) (H0 : Aside0 (iso8601_readDigits.f k s0 4 4 = some (s1, true))) (H1 : Aside0 (iso8601_readByte.f s1 45 = some (s2, true))) (H2 : Aside0 (iso8601_readDigits.f k s2 2 2 = some (s3, true))) (H3 : Aside0 (iso8601_readByte.f s3 45 = some (s4, true))) (H4 : Aside0 (iso8601_readDigits.f k s4 2 2 = some (s5, true))) (Z5 : ((s5.size : Int) == 0) = true) (F4 : (Go.bits .and .i64 f 4 == 0) = true) (H5 : Aside0 (iso8601_readByte.f s5 84 = some (s6, false))) (F2 : (Go.bits .and .i64 f 2 == 0) = false) (H6 : Aside0 (iso8601_readByte.f s6 32 = some (s7, false))) (w : World) :
    Calls Try.prog 59 #[.string s0, .int .i64 f] w fun e w' => e = .returned (.bool false) ∧ Drawn0 w w' := by
  have G4 : (Go.bits .and .i64 f 4 != 0) = false := by simp only [bne, F4]; rfl
  have G2 : (Go.bits .and .i64 f 2 != 0) = true := by simp only [bne, F2]; rfl
  go_enter Try.func59, Try.ntmps59
  go_wp2_with fail
  refine (iso8601_readDigits.calls k s0 4 4 s1 true _ H0.out).mono ?_
  rintro e w' ⟨rfl, ⟨nd, rfl⟩⟩
  go_wp2_with fail
  refine (iso8601_readByte.calls s1 45 s2 true _ H1.out).mono ?_
  rintro e w' ⟨rfl, ⟨nd, rfl⟩⟩
  go_wp2_with fail
  refine (iso8601_readDigits.calls k s2 2 2 s3 true _ H2.out).mono ?_
  rintro e w' ⟨rfl, ⟨nd, rfl⟩⟩
  go_wp2_with fail
  refine (iso8601_readByte.calls s3 45 s4 true _ H3.out).mono ?_
  rintro e w' ⟨rfl, ⟨nd, rfl⟩⟩
  go_wp2_with fail
  refine (iso8601_readDigits.calls k s4 2 2 s5 true _ H4.out).mono ?_
  rintro e w' ⟨rfl, ⟨nd, rfl⟩⟩
  go_wp2_with fail
  refine (iso8601_readByte.calls s5 84 s6 false _ H5.out).mono ?_
  rintro e w' ⟨rfl, ⟨nd, rfl⟩⟩
  go_wp2_with fail
  refine (iso8601_readByte.calls s6 32 s7 false _ H6.out).mono ?_
  rintro e w' ⟨rfl, ⟨nd, rfl⟩⟩
  go_wp2_with fail
  go_ret
  exact ⟨rfl, by repeat (first | exact Drawn0.refl _ | apply Drawn0.step)⟩
set_option maxHeartbeats 2000000 in
set_option maxRecDepth 100000 in
theorem v_ftt0 (k : Nat) (s0 s1 s2 s3 s4 s5 s6 s7 : ByteArray) (f : Int) (H0 : Aside0 (iso8601_readDigits.f k s0 4 4 = some (s1, true))) (H1 : Aside0 (iso8601_readByte.f s1 45 = some (s2, true))) (H2 : Aside0 (iso8601_readDigits.f k s2 2 2 = some (s3, true))) (H3 : Aside0 (iso8601_readByte.f s3 45 = some (s4, true))) (H4 : Aside0 (iso8601_readDigits.f k s4 2 2 = some (s5, true))) (Z5 : ((s5.size : Int) == 0) = false) (H5 : Aside0 (iso8601_readByte.f s5 84 = some (s6, true))) (H6 : Aside0 (iso8601_readDigits.f k s6 2 2 = some (s7, false))) (w : World) :
    Calls Try.prog 59 #[.string s0, .int .i64 f] w fun e w' => e = .returned (.bool false) ∧ Drawn0 w w' := by
  go_enter Try.func59, Try.ntmps59
  go_wp2_with fail
  refine (iso8601_readDigits.calls k s0 4 4 s1 true _ H0.out).mono ?_
  rintro e w' ⟨rfl, ⟨nd, rfl⟩⟩
  go_wp2_with fail
  refine (iso8601_readByte.calls s1 45 s2 true _ H1.out).mono ?_
  rintro e w' ⟨rfl, ⟨nd, rfl⟩⟩
  go_wp2_with fail
  refine (iso8601_readDigits.calls k s2 2 2 s3 true _ H2.out).mono ?_
  rintro e w' ⟨rfl, ⟨nd, rfl⟩⟩
  go_wp2_with fail
  refine (iso8601_readByte.calls s3 45 s4 true _ H3.out).mono ?_
  rintro e w' ⟨rfl, ⟨nd, rfl⟩⟩
  go_wp2_with fail
  refine (iso8601_readDigits.calls k s4 2 2 s5 true _ H4.out).mono ?_
  rintro e w' ⟨rfl, ⟨nd, rfl⟩⟩
  go_wp2_with fail
  refine (iso8601_readByte.calls s5 84 s6 true _ H5.out).mono ?_
  rintro e w' ⟨rfl, ⟨nd, rfl⟩⟩
  go_wp2_with fail
  refine (iso8601_readDigits.calls k s6 2 2 s7 false _ H6.out).mono ?_
  rintro e w' ⟨rfl, ⟨nd, rfl⟩⟩
  go_wp2_with fail
  go_ret
  exact ⟨rfl, by repeat (first | exact Drawn0.refl _ | apply Drawn0.step)⟩
set_option maxHeartbeats 2000000 in
set_option maxRecDepth 100000 in
theorem v_ftt3 (k : Nat) (s0 s1 s2 s3 s4 s5 s6 s7 s8 s9 s10 : ByteArray) (f : Int) (H0 : Aside0 (iso8601_readDigits.f k s0 4 4 = some (s1, true))) (H1 : Aside0 (iso8601_readByte.f s1 45 = some (s2, true))) (H2 : Aside0 (iso8601_readDigits.f k s2 2 2 = some (s3, true))) (H3 : Aside0 (iso8601_readByte.f s3 45 = some (s4, true))) (H4 : Aside0 (iso8601_readDigits.f k s4 2 2 = some (s5, true))) (Z5 : ((s5.size : Int) == 0) = false) (H5 : Aside0 (iso8601_readByte.f s5 84 = some (s6, true))) (H6 : Aside0 (iso8601_readDigits.f k s6 2 2 = some (s7, true))) (H7 : Aside0 (iso8601_readByte.f s7 58 = some (s8, true))) (H8 : Aside0 (iso8601_readDigits.f k s8 2 2 = some (s9, true))) (H9 : Aside0 (iso8601_readByte.f s9 58 = some (s10, false))) (w : World) :
    Calls Try.prog 59 #[.string s0, .int .i64 f] w fun e w' => e = .returned (.bool false) ∧ Drawn0 w w' := by
  go_enter Try.func59, Try.ntmps59
  go_wp2_with fail
  refine (iso8601_readDigits.calls k s0 4 4 s1 true _ H0.out).mono ?_
  rintro e w' ⟨rfl, ⟨nd, rfl⟩⟩
  go_wp2_with fail
  refine (iso8601_readByte.calls s1 45 s2 true _ H1.out).mono ?_
  rintro e w' ⟨rfl, ⟨nd, rfl⟩⟩
  go_wp2_with fail
  refine (iso8601_readDigits.calls k s2 2 2 s3 true _ H2.out).mono ?_
  rintro e w' ⟨rfl, ⟨nd, rfl⟩⟩
  go_wp2_with fail
  refine (iso8601_readByte.calls s3 45 s4 true _ H3.out).mono ?_
  rintro e w' ⟨rfl, ⟨nd, rfl⟩⟩
  go_wp2_with fail
  refine (iso8601_readDigits.calls k s4 2 2 s5 true _ H4.out).mono ?_
  rintro e w' ⟨rfl, ⟨nd, rfl⟩⟩
  go_wp2_with fail
  refine (iso8601_readByte.calls s5 84 s6 true _ H5.out).mono ?_
  rintro e w' ⟨rfl, ⟨nd, rfl⟩⟩
  go_wp2_with fail
  refine (iso8601_readDigits.calls k s6 2 2 s7 true _ H6.out).mono ?_
  rintro e w' ⟨rfl, ⟨nd, rfl⟩⟩
  go_wp2_with fail
  refine (iso8601_readByte.calls s7 58 s8 true _ H7.out).mono ?_
  rintro e w' ⟨rfl, ⟨nd, rfl⟩⟩
  go_wp2_with fail
  refine (iso8601_readDigits.calls k s8 2 2 s9 true _ H8.out).mono ?_
  rintro e w' ⟨rfl, ⟨nd, rfl⟩⟩
  go_wp2_with fail
  refine (iso8601_readByte.calls s9 58 s10 false _ H9.out).mono ?_
  rintro e w' ⟨rfl, ⟨nd, rfl⟩⟩
  go_wp2_with fail
  go_ret
  exact ⟨rfl, by repeat (first | exact Drawn0.refl _ | apply Drawn0.step)⟩
set_option maxHeartbeats 2000000 in
set_option maxRecDepth 100000 in
theorem v_zn1tn (k : Nat) (s0 s1 s2 s3 s4 s5 s6 s7 s8 s9 s10 s11 s12 : ByteArray) (f : Int) (H0 : Aside0 (iso8601_readDigits.f k s0 4 4 = some (s1, true))) (H1 : Aside0 (iso8601_readByte.f s1 45 = some (s2, true))) (H2 : Aside0 (iso8601_readDigits.f k s2 2 2 = some (s3, true))) (H3 : Aside0 (iso8601_readByte.f s3 45 = some (s4, true))) (H4 : Aside0 (iso8601_readDigits.f k s4 2 2 = some (s5, true))) (Z5 : ((s5.size : Int) == 0) = false) (H5 : Aside0 (iso8601_readByte.f s5 84 = some (s6, true))) (H6 : Aside0 (iso8601_readDigits.f k s6 2 2 = some (s7, true))) (H7 : Aside0 (iso8601_readByte.f s7 58 = some (s8, true))) (H8 : Aside0 (iso8601_readDigits.f k s8 2 2 = some (s9, true))) (H9 : Aside0 (iso8601_readByte.f s9 58 = some (s10, true))) (H10 : Aside0 (iso8601_readDigits.f k s10 2 2 = some (s11, true))) (H11 : Aside0 (iso8601_readByte.f s11 46 = some (s12, false))) (F8 : (Go.bits .and .i64 f 8 == 0) = false) (Z12 : ((s12.size : Int) == 0) = true) (F16 : (Go.bits .and .i64 f 16 == 0) = false) (w : World) :
    Calls Try.prog 59 #[.string s0, .int .i64 f] w fun e w' => e = .returned (.bool true) ∧ Drawn0 w w' := by
  have G8 : (Go.bits .and .i64 f 8 != 0) = true := by simp only [bne, F8]; rfl
  have G16 : (Go.bits .and .i64 f 16 != 0) = true := by simp only [bne, F16]; rfl
  go_enter Try.func59, Try.ntmps59
  go_wp2_with fail
  refine (iso8601_readDigits.calls k s0 4 4 s1 true _ H0.out).mono ?_
  rintro e w' ⟨rfl, ⟨nd, rfl⟩⟩
  go_wp2_with fail
  refine (iso8601_readByte.calls s1 45 s2 true _ H1.out).mono ?_
  rintro e w' ⟨rfl, ⟨nd, rfl⟩⟩
  go_wp2_with fail
  refine (iso8601_readDigits.calls k s2 2 2 s3 true _ H2.out).mono ?_
  rintro e w' ⟨rfl, ⟨nd, rfl⟩⟩
  go_wp2_with fail
  refine (iso8601_readByte.calls s3 45 s4 true _ H3.out).mono ?_
  rintro e w' ⟨rfl, ⟨nd, rfl⟩⟩
  go_wp2_with fail
  refine (iso8601_readDigits.calls k s4 2 2 s5 true _ H4.out).mono ?_
  rintro e w' ⟨rfl, ⟨nd, rfl⟩⟩
  go_wp2_with fail
  refine (iso8601_readByte.calls s5 84 s6 true _ H5.out).mono ?_
  rintro e w' ⟨rfl, ⟨nd, rfl⟩⟩
  go_wp2_with fail
  refine (iso8601_readDigits.calls k s6 2 2 s7 true _ H6.out).mono ?_
  rintro e w' ⟨rfl, ⟨nd, rfl⟩⟩
  go_wp2_with fail
  refine (iso8601_readByte.calls s7 58 s8 true _ H7.out).mono ?_
  rintro e w' ⟨rfl, ⟨nd, rfl⟩⟩
  go_wp2_with fail
  refine (iso8601_readDigits.calls k s8 2 2 s9 true _ H8.out).mono ?_
  rintro e w' ⟨rfl, ⟨nd, rfl⟩⟩
  go_wp2_with fail
  refine (iso8601_readByte.calls s9 58 s10 true _ H9.out).mono ?_
  rintro e w' ⟨rfl, ⟨nd, rfl⟩⟩
  go_wp2_with fail
  refine (iso8601_readDigits.calls k s10 2 2 s11 true _ H10.out).mono ?_
  rintro e w' ⟨rfl, ⟨nd, rfl⟩⟩
  go_wp2_with fail
  refine (iso8601_readByte.calls s11 46 s12 false _ H11.out).mono ?_
  rintro e w' ⟨rfl, ⟨nd, rfl⟩⟩
  go_wp2_with fail
  go_ret
  exact ⟨rfl, by repeat (first | exact Drawn0.refl _ | apply Drawn0.step)⟩
set_option maxHeartbeats 2000000 in
set_option maxRecDepth 100000 in
theorem v_zztn (k : Nat) (s0 s1 s2 s3 s4 s5 s6 s7 s8 s9 s10 s11 s12 s13 : ByteArray) (f : Int) (H0 : Aside0 (iso8601_readDigits.f k s0 4 4 = some (s1, true))) (H1 : Aside0 (iso8601_readByte.f s1 45 = some (s2, true))) (H2 : Aside0 (iso8601_readDigits.f k s2 2 2 = some (s3, true))) (H3 : Aside0 (iso8601_readByte.f s3 45 = some (s4, true))) (H4 : Aside0 (iso8601_readDigits.f k s4 2 2 = some (s5, true))) (Z5 : ((s5.size : Int) == 0) = false) (H5 : Aside0 (iso8601_readByte.f s5 84 = some (s6, true))) (H6 : Aside0 (iso8601_readDigits.f k s6 2 2 = some (s7, true))) (H7 : Aside0 (iso8601_readByte.f s7 58 = some (s8, true))) (H8 : Aside0 (iso8601_readDigits.f k s8 2 2 = some (s9, true))) (H9 : Aside0 (iso8601_readByte.f s9 58 = some (s10, true))) (H10 : Aside0 (iso8601_readDigits.f k s10 2 2 = some (s11, true))) (H11 : Aside0 (iso8601_readByte.f s11 46 = some (s12, false))) (F8 : (Go.bits .and .i64 f 8 == 0) = false) (Z12 : ((s12.size : Int) == 0) = false) (H12 : Aside0 (iso8601_readByte.f s12 90 = some (s13, true))) (Z13 : ((s13.size : Int) == 0) = true) (w : World) :
    Calls Try.prog 59 #[.string s0, .int .i64 f] w fun e w' => e = .returned (.bool true) ∧ Drawn0 w w' := by
  have G8 : (Go.bits .and .i64 f 8 != 0) = true := by simp only [bne, F8]; rfl
  go_enter Try.func59, Try.ntmps59
  go_wp2_with fail
  refine (iso8601_readDigits.calls k s0 4 4 s1 true _ H0.out).mono ?_
  rintro e w' ⟨rfl, ⟨nd, rfl⟩⟩
  go_wp2_with fail
  refine (iso8601_readByte.calls s1 45 s2 true _ H1.out).mono ?_
  rintro e w' ⟨rfl, ⟨nd, rfl⟩⟩
  go_wp2_with fail
  refine (iso8601_readDigits.calls k s2 2 2 s3 true _ H2.out).mono ?_
  rintro e w' ⟨rfl, ⟨nd, rfl⟩⟩
  go_wp2_with fail
  refine (iso8601_readByte.calls s3 45 s4 true _ H3.out).mono ?_
  rintro e w' ⟨rfl, ⟨nd, rfl⟩⟩
  go_wp2_with fail
  refine (iso8601_readDigits.calls k s4 2 2 s5 true _ H4.out).mono ?_
  rintro e w' ⟨rfl, ⟨nd, rfl⟩⟩
  go_wp2_with fail
  refine (iso8601_readByte.calls s5 84 s6 true _ H5.out).mono ?_
  rintro e w' ⟨rfl, ⟨nd, rfl⟩⟩
  go_wp2_with fail
  refine (iso8601_readDigits.calls k s6 2 2 s7 true _ H6.out).mono ?_
  rintro e w' ⟨rfl, ⟨nd, rfl⟩⟩
  go_wp2_with fail
  refine (iso8601_readByte.calls s7 58 s8 true _ H7.out).mono ?_
  rintro e w' ⟨rfl, ⟨nd, rfl⟩⟩
  go_wp2_with fail
  refine (iso8601_readDigits.calls k s8 2 2 s9 true _ H8.out).mono ?_
  rintro e w' ⟨rfl, ⟨nd, rfl⟩⟩
  go_wp2_with fail
  refine (iso8601_readByte.calls s9 58 s10 true _ H9.out).mono ?_
  rintro e w' ⟨rfl, ⟨nd, rfl⟩⟩
  go_wp2_with fail
  refine (iso8601_readDigits.calls k s10 2 2 s11 true _ H10.out).mono ?_
  rintro e w' ⟨rfl, ⟨nd, rfl⟩⟩
  go_wp2_with fail
  refine (iso8601_readByte.calls s11 46 s12 false _ H11.out).mono ?_
  rintro e w' ⟨rfl, ⟨nd, rfl⟩⟩
  go_wp2_with fail
  refine (iso8601_readByte.calls s12 90 s13 true _ H12.out).mono ?_
  rintro e w' ⟨rfl, ⟨nd, rfl⟩⟩
  go_wp2_with fail
  go_ret
  exact ⟨rfl, by repeat (first | exact Drawn0.refl _ | apply Drawn0.step)⟩
set_option maxHeartbeats 2000000 in
set_option maxRecDepth 100000 in
theorem v_zxtn0p (k : Nat) (s0 s1 s2 s3 s4 s5 s6 s7 s8 s9 s10 s11 s12 s13 s14 s15 s16 : ByteArray) (f : Int) (H0 : Aside0 (iso8601_readDigits.f k s0 4 4 = some (s1, true))) (H1 : Aside0 (iso8601_readByte.f s1 45 = some (s2, true))) (H2 : Aside0 (iso8601_readDigits.f k s2 2 2 = some (s3, true))) (H3 : Aside0 (iso8601_readByte.f s3 45 = some (s4, true))) (H4 : Aside0 (iso8601_readDigits.f k s4 2 2 = some (s5, true))) (Z5 : ((s5.size : Int) == 0) = false) (H5 : Aside0 (iso8601_readByte.f s5 84 = some (s6, true))) (H6 : Aside0 (iso8601_readDigits.f k s6 2 2 = some (s7, true))) (H7 : Aside0 (iso8601_readByte.f s7 58 = some (s8, true))) (H8 : Aside0 (iso8601_readDigits.f k s8 2 2 = some (s9, true))) (H9 : Aside0 (iso8601_readByte.f s9 58 = some (s10, true))) (H10 : Aside0 (iso8601_readDigits.f k s10 2 2 = some (s11, true))) (H11 : Aside0 (iso8601_readByte.f s11 46 = some (s12, false))) (F8 : (Go.bits .and .i64 f 8 == 0) = false) (Z12 : ((s12.size : Int) == 0) = false) (H12 : Aside0 (iso8601_readByte.f s12 90 = some (s13, false))) (F2 : (Go.bits .and .i64 f 2 == 0) = true) (H13 : Aside0 (iso8601_readByte.f s13 43 = some (s14, true))) (H14 : Aside0 (iso8601_readDigits.f k s14 2 2 = some (s15, true))) (H15 : Aside0 (iso8601_readByte.f s15 58 = some (s16, false))) (F32 : (Go.bits .and .i64 f 32 == 0) = true) (w : World) :
    Calls Try.prog 59 #[.string s0, .int .i64 f] w fun e w' => e = .returned (.bool false) ∧ Drawn0 w w' := by
  have G8 : (Go.bits .and .i64 f 8 != 0) = true := by simp only [bne, F8]; rfl
  have G2 : (Go.bits .and .i64 f 2 != 0) = false := by simp only [bne, F2]; rfl
  have G32 : (Go.bits .and .i64 f 32 != 0) = false := by simp only [bne, F32]; rfl
  go_enter Try.func59, Try.ntmps59
  go_wp2_with fail
  refine (iso8601_readDigits.calls k s0 4 4 s1 true _ H0.out).mono ?_
  rintro e w' ⟨rfl, ⟨nd, rfl⟩⟩
  go_wp2_with fail
  refine (iso8601_readByte.calls s1 45 s2 true _ H1.out).mono ?_
  rintro e w' ⟨rfl, ⟨nd, rfl⟩⟩
  go_wp2_with fail
  refine (iso8601_readDigits.calls k s2 2 2 s3 true _ H2.out).mono ?_
  rintro e w' ⟨rfl, ⟨nd, rfl⟩⟩
  go_wp2_with fail
  refine (iso8601_readByte.calls s3 45 s4 true _ H3.out).mono ?_
  rintro e w' ⟨rfl, ⟨nd, rfl⟩⟩
  go_wp2_with fail
  refine (iso8601_readDigits.calls k s4 2 2 s5 true _ H4.out).mono ?_
  rintro e w' ⟨rfl, ⟨nd, rfl⟩⟩
  go_wp2_with fail
  refine (iso8601_readByte.calls s5 84 s6 true _ H5.out).mono ?_
  rintro e w' ⟨rfl, ⟨nd, rfl⟩⟩
  go_wp2_with fail
  refine (iso8601_readDigits.calls k s6 2 2 s7 true _ H6.out).mono ?_
  rintro e w' ⟨rfl, ⟨nd, rfl⟩⟩
  go_wp2_with fail
  refine (iso8601_readByte.calls s7 58 s8 true _ H7.out).mono ?_
  rintro e w' ⟨rfl, ⟨nd, rfl⟩⟩
  go_wp2_with fail
  refine (iso8601_readDigits.calls k s8 2 2 s9 true _ H8.out).mono ?_
  rintro e w' ⟨rfl, ⟨nd, rfl⟩⟩
  go_wp2_with fail
  refine (iso8601_readByte.calls s9 58 s10 true _ H9.out).mono ?_
  rintro e w' ⟨rfl, ⟨nd, rfl⟩⟩
  go_wp2_with fail
  refine (iso8601_readDigits.calls k s10 2 2 s11 true _ H10.out).mono ?_
  rintro e w' ⟨rfl, ⟨nd, rfl⟩⟩
  go_wp2_with fail
  refine (iso8601_readByte.calls s11 46 s12 false _ H11.out).mono ?_
  rintro e w' ⟨rfl, ⟨nd, rfl⟩⟩
  go_wp2_with fail
  refine (iso8601_readByte.calls s12 90 s13 false _ H12.out).mono ?_
  rintro e w' ⟨rfl, ⟨nd, rfl⟩⟩
  go_wp2_with fail
  refine (iso8601_readByte.calls s13 43 s14 true _ H13.out).mono ?_
  rintro e w' ⟨rfl, ⟨nd, rfl⟩⟩
  go_wp2_with fail
  refine (iso8601_readDigits.calls k s14 2 2 s15 true _ H14.out).mono ?_
  rintro e w' ⟨rfl, ⟨nd, rfl⟩⟩
  go_wp2_with fail
  refine (iso8601_readByte.calls s15 58 s16 false _ H15.out).mono ?_
  rintro e w' ⟨rfl, ⟨nd, rfl⟩⟩
  go_wp2_with fail
  go_ret
  exact ⟨rfl, by repeat (first | exact Drawn0.refl _ | apply Drawn0.step)⟩
set_option maxHeartbeats 2000000 in
set_option maxRecDepth 100000 in
theorem v_zxtn0m (k : Nat) (s0 s1 s2 s3 s4 s5 s6 s7 s8 s9 s10 s11 s12 s13 s14 s15 s16 s17 : ByteArray) (f : Int) (H0 : Aside0 (iso8601_readDigits.f k s0 4 4 = some (s1, true))) (H1 : Aside0 (iso8601_readByte.f s1 45 = some (s2, true))) (H2 : Aside0 (iso8601_readDigits.f k s2 2 2 = some (s3, true))) (H3 : Aside0 (iso8601_readByte.f s3 45 = some (s4, true))) (H4 : Aside0 (iso8601_readDigits.f k s4 2 2 = some (s5, true))) (Z5 : ((s5.size : Int) == 0) = false) (H5 : Aside0 (iso8601_readByte.f s5 84 = some (s6, true))) (H6 : Aside0 (iso8601_readDigits.f k s6 2 2 = some (s7, true))) (H7 : Aside0 (iso8601_readByte.f s7 58 = some (s8, true))) (H8 : Aside0 (iso8601_readDigits.f k s8 2 2 = some (s9, true))) (H9 : Aside0 (iso8601_readByte.f s9 58 = some (s10, true))) (H10 : Aside0 (iso8601_readDigits.f k s10 2 2 = some (s11, true))) (H11 : Aside0 (iso8601_readByte.f s11 46 = some (s12, false))) (F8 : (Go.bits .and .i64 f 8 == 0) = false) (Z12 : ((s12.size : Int) == 0) = false) (H12 : Aside0 (iso8601_readByte.f s12 90 = some (s13, false))) (F2 : (Go.bits .and .i64 f 2 == 0) = true) (H13 : Aside0 (iso8601_readByte.f s13 43 = some (s14, false))) (H14 : Aside0 (iso8601_readByte.f s14 45 = some (s15, true))) (H15 : Aside0 (iso8601_readDigits.f k s15 2 2 = some (s16, true))) (H16 : Aside0 (iso8601_readByte.f s16 58 = some (s17, false))) (F32 : (Go.bits .and .i64 f 32 == 0) = true) (w : World) :
    Calls Try.prog 59 #[.string s0, .int .i64 f] w fun e w' => e = .returned (.bool false) ∧ Drawn0 w w' := by
  have G8 : (Go.bits .and .i64 f 8 != 0) = true := by simp only [bne, F8]; rfl
  have G2 : (Go.bits .and .i64 f 2 != 0) = false := by simp only [bne, F2]; rfl
  have G32 : (Go.bits .and .i64 f 32 != 0) = false := by simp only [bne, F32]; rfl
  go_enter Try.func59, Try.ntmps59
  go_wp2_with fail
  refine (iso8601_readDigits.calls k s0 4 4 s1 true _ H0.out).mono ?_
  rintro e w' ⟨rfl, ⟨nd, rfl⟩⟩
  go_wp2_with fail
  refine (iso8601_readByte.calls s1 45 s2 true _ H1.out).mono ?_
  rintro e w' ⟨rfl, ⟨nd, rfl⟩⟩
  go_wp2_with fail
  refine (iso8601_readDigits.calls k s2 2 2 s3 true _ H2.out).mono ?_
  rintro e w' ⟨rfl, ⟨nd, rfl⟩⟩
  go_wp2_with fail
  refine (iso8601_readByte.calls s3 45 s4 true _ H3.out).mono ?_
  rintro e w' ⟨rfl, ⟨nd, rfl⟩⟩
  go_wp2_with fail
  refine (iso8601_readDigits.calls k s4 2 2 s5 true _ H4.out).mono ?_
  rintro e w' ⟨rfl, ⟨nd, rfl⟩⟩
  go_wp2_with fail
  refine (iso8601_readByte.calls s5 84 s6 true _ H5.out).mono ?_
  rintro e w' ⟨rfl, ⟨nd, rfl⟩⟩
  go_wp2_with fail
  refine (iso8601_readDigits.calls k s6 2 2 s7 true _ H6.out).mono ?_
  rintro e w' ⟨rfl, ⟨nd, rfl⟩⟩
  go_wp2_with fail
  refine (iso8601_readByte.calls s7 58 s8 true _ H7.out).mono ?_
  rintro e w' ⟨rfl, ⟨nd, rfl⟩⟩
  go_wp2_with fail
  refine (iso8601_readDigits.calls k s8 2 2 s9 true _ H8.out).mono ?_
  rintro e w' ⟨rfl, ⟨nd, rfl⟩⟩
  go_wp2_with fail
  refine (iso8601_readByte.calls s9 58 s10 true _ H9.out).mono ?_
  rintro e w' ⟨rfl, ⟨nd, rfl⟩⟩
  go_wp2_with fail
  refine (iso8601_readDigits.calls k s10 2 2 s11 true _ H10.out).mono ?_
  rintro e w' ⟨rfl, ⟨nd, rfl⟩⟩
  go_wp2_with fail
  refine (iso8601_readByte.calls s11 46 s12 false _ H11.out).mono ?_
  rintro e w' ⟨rfl, ⟨nd, rfl⟩⟩
  go_wp2_with fail
  refine (iso8601_readByte.calls s12 90 s13 false _ H12.out).mono ?_
  rintro e w' ⟨rfl, ⟨nd, rfl⟩⟩
  go_wp2_with fail
  refine (iso8601_readByte.calls s13 43 s14 false _ H13.out).mono ?_
  rintro e w' ⟨rfl, ⟨nd, rfl⟩⟩
  go_wp2_with fail
  refine (iso8601_readByte.calls s14 45 s15 true _ H14.out).mono ?_
  rintro e w' ⟨rfl, ⟨nd, rfl⟩⟩
  go_wp2_with fail
  refine (iso8601_readDigits.calls k s15 2 2 s16 true _ H15.out).mono ?_
  rintro e w' ⟨rfl, ⟨nd, rfl⟩⟩
  go_wp2_with fail
  refine (iso8601_readByte.calls s16 58 s17 false _ H16.out).mono ?_
  rintro e w' ⟨rfl, ⟨nd, rfl⟩⟩
  go_wp2_with fail
  go_ret
  exact ⟨rfl, by repeat (first | exact Drawn0.refl _ | apply Drawn0.step)⟩
set_option maxHeartbeats 2000000 in
set_option maxRecDepth 100000 in
theorem v_zxtn1p (k : Nat) (s0 s1 s2 s3 s4 s5 s6 s7 s8 s9 s10 s11 s12 s13 s14 s15 s16 s17 : ByteArray) (f : Int) (H0 : Aside0 (iso8601_readDigits.f k s0 4 4 = some (s1, true))) (H1 : Aside0 (iso8601_readByte.f s1 45 = some (s2, true))) (H2 : Aside0 (iso8601_readDigits.f k s2 2 2 = some (s3, true))) (H3 : Aside0 (iso8601_readByte.f s3 45 = some (s4, true))) (H4 : Aside0 (iso8601_readDigits.f k s4 2 2 = some (s5, true))) (Z5 : ((s5.size : Int) == 0) = false) (H5 : Aside0 (iso8601_readByte.f s5 84 = some (s6, true))) (H6 : Aside0 (iso8601_readDigits.f k s6 2 2 = some (s7, true))) (H7 : Aside0 (iso8601_readByte.f s7 58 = some (s8, true))) (H8 : Aside0 (iso8601_readDigits.f k s8 2 2 = some (s9, true))) (H9 : Aside0 (iso8601_readByte.f s9 58 = some (s10, true))) (H10 : Aside0 (iso8601_readDigits.f k s10 2 2 = some (s11, true))) (H11 : Aside0 (iso8601_readByte.f s11 46 = some (s12, false))) (F8 : (Go.bits .and .i64 f 8 == 0) = false) (Z12 : ((s12.size : Int) == 0) = false) (H12 : Aside0 (iso8601_readByte.f s12 90 = some (s13, false))) (F2 : (Go.bits .and .i64 f 2 == 0) = false) (H13 : Aside0 (iso8601_readByte.f s13 32 = some (s14, false))) (H14 : Aside0 (iso8601_readByte.f s14 43 = some (s15, true))) (H15 : Aside0 (iso8601_readDigits.f k s15 2 2 = some (s16, true))) (H16 : Aside0 (iso8601_readByte.f s16 58 = some (s17, false))) (F32 : (Go.bits .and .i64 f 32 == 0) = true) (w : World) :
    Calls Try.prog 59 #[.string s0, .int .i64 f] w fun e w' => e = .returned (.bool false) ∧ Drawn0 w w' := by
  have G8 : (Go.bits .and .i64 f 8 != 0) = true := by simp only [bne, F8]; rfl
  have G2 : (Go.bits .and .i64 f 2 != 0) = true := by simp only [bne, F2]; rfl
  have G32 : (Go.bits .and .i64 f 32 != 0) = false := by simp only [bne, F32]; rfl
  go_enter Try.func59, Try.ntmps59
  go_wp2_with fail
  refine (iso8601_readDigits.calls k s0 4 4 s1 true _ H0.out).mono ?_
  rintro e w' ⟨rfl, ⟨nd, rfl⟩⟩
  go_wp2_with fail
  refine (iso8601_readByte.calls s1 45 s2 true _ H1.out).mono ?_
  rintro e w' ⟨rfl, ⟨nd, rfl⟩⟩
  go_wp2_with fail
  refine (iso8601_readDigits.calls k s2 2 2 s3 true _ H2.out).mono ?_
  rintro e w' ⟨rfl, ⟨nd, rfl⟩⟩
  go_wp2_with fail
  refine (iso8601_readByte.calls s3 45 s4 true _ H3.out).mono ?_
  rintro e w' ⟨rfl, ⟨nd, rfl⟩⟩
  go_wp2_with fail
  refine (iso8601_readDigits.calls k s4 2 2 s5 true _ H4.out).mono ?_
  rintro e w' ⟨rfl, ⟨nd, rfl⟩⟩
  go_wp2_with fail
  refine (iso8601_readByte.calls s5 84 s6 true _ H5.out).mono ?_
  rintro e w' ⟨rfl, ⟨nd, rfl⟩⟩
  go_wp2_with fail
  refine (iso8601_readDigits.calls k s6 2 2 s7 true _ H6.out).mono ?_
  rintro e w' ⟨rfl, ⟨nd, rfl⟩⟩
  go_wp2_with fail
  refine (iso8601_readByte.calls s7 58 s8 true _ H7.out).mono ?_
  rintro e w' ⟨rfl, ⟨nd, rfl⟩⟩
  go_wp2_with fail
  refine (iso8601_readDigits.calls k s8 2 2 s9 true _ H8.out).mono ?_
  rintro e w' ⟨rfl, ⟨nd, rfl⟩⟩
  go_wp2_with fail
  refine (iso8601_readByte.calls s9 58 s10 true _ H9.out).mono ?_
  rintro e w' ⟨rfl, ⟨nd, rfl⟩⟩
  go_wp2_with fail
  refine (iso8601_readDigits.calls k s10 2 2 s11 true _ H10.out).mono ?_
  rintro e w' ⟨rfl, ⟨nd, rfl⟩⟩
  go_wp2_with fail
  refine (iso8601_readByte.calls s11 46 s12 false _ H11.out).mono ?_
  rintro e w' ⟨rfl, ⟨nd, rfl⟩⟩
  go_wp2_with fail
  refine (iso8601_readByte.calls s12 90 s13 false _ H12.out).mono ?_
  rintro e w' ⟨rfl, ⟨nd, rfl⟩⟩
  go_wp2_with fail
  refine (iso8601_readByte.calls s13 32 s14 false _ H13.out).mono ?_
  rintro e w' ⟨rfl, ⟨nd, rfl⟩⟩
  go_wp2_with fail
  refine (iso8601_readByte.calls s14 43 s15 true _ H14.out).mono ?_
  rintro e w' ⟨rfl, ⟨nd, rfl⟩⟩
  go_wp2_with fail
  refine (iso8601_readDigits.calls k s15 2 2 s16 true _ H15.out).mono ?_
  rintro e w' ⟨rfl, ⟨nd, rfl⟩⟩
  go_wp2_with fail
  refine (iso8601_readByte.calls s16 58 s17 false _ H16.out).mono ?_
  rintro e w' ⟨rfl, ⟨nd, rfl⟩⟩
  go_wp2_with fail
  go_ret
  exact ⟨rfl, by repeat (first | exact Drawn0.refl _ | apply Drawn0.step)⟩
set_option maxHeartbeats 2000000 in
set_option maxRecDepth 100000 in
theorem v_zxtn1m (k : Nat) (s0 s1 s2 s3 s4 s5 s6 s7 s8 s9 s10 s11 s12 s13 s14 s15 s16 s17 s18 : ByteArray) (f : Int) (H0 : Aside0 (iso8601_readDigits.f k s0 4 4 = some (s1, true))) (H1 : Aside0 (iso8601_readByte.f s1 45 = some (s2, true))) (H2 : Aside0 (iso8601_readDigits.f k s2 2 2 = some (s3, true))) (H3 : Aside0 (iso8601_readByte.f s3 45 = some (s4, true))) (H4 : Aside0 (iso8601_readDigits.f k s4 2 2 = some (s5, true))) (Z5 : ((s5.size : Int) == 0) = false) (H5 : Aside0 (iso8601_readByte.f s5 84 = some (s6, true))) (H6 : Aside0 (iso8601_readDigits.f k s6 2 2 = some (s7, true))) (H7 : Aside0 (iso8601_readByte.f s7 58 = some (s8, true))) (H8 : Aside0 (iso8601_readDigits.f k s8 2 2 = some (s9, true))) (H9 : Aside0 (iso8601_readByte.f s9 58 = some (s10, true))) (H10 : Aside0 (iso8601_readDigits.f k s10 2 2 = some (s11, true))) (H11 : Aside0 (iso8601_readByte.f s11 46 = some (s12, false))) (F8 : (Go.bits .and .i64 f 8 == 0) = false) (Z12 : ((s12.size : Int) == 0) = false) (H12 : Aside0 (iso8601_readByte.f s12 90 = some (s13, false))) (F2 : (Go.bits .and .i64 f 2 == 0) = false) (H13 : Aside0 (iso8601_readByte.f s13 32 = some (s14, false))) (H14 : Aside0 (iso8601_readByte.f s14 43 = some (s15, false))) (H15 : Aside0 (iso8601_readByte.f s15 45 = some (s16, true))) (H16 : Aside0 (iso8601_readDigits.f k s16 2 2 = some (s17, true))) (H17 : Aside0 (iso8601_readByte.f s17 58 = some (s18, false))) (F32 : (Go.bits .and .i64 f 32 == 0) = true) (w : World) :
    Calls Try.prog 59 #[.string s0, .int .i64 f] w fun e w' => e = .returned (.bool false) ∧ Drawn0 w w' := by
  have G8 : (Go.bits .and .i64 f 8 != 0) = true := by simp only [bne, F8]; rfl
  have G2 : (Go.bits .and .i64 f 2 != 0) = true := by simp only [bne, F2]; rfl
  have G32 : (Go.bits .and .i64 f 32 != 0) = false := by simp only [bne, F32]; rfl
  go_enter Try.func59, Try.ntmps59
  go_wp2_with fail
  refine (iso8601_readDigits.calls k s0 4 4 s1 true _ H0.out).mono ?_
  rintro e w' ⟨rfl, ⟨nd, rfl⟩⟩
  go_wp2_with fail
  refine (iso8601_readByte.calls s1 45 s2 true _ H1.out).mono ?_
  rintro e w' ⟨rfl, ⟨nd, rfl⟩⟩
  go_wp2_with fail
  refine (iso8601_readDigits.calls k s2 2 2 s3 true _ H2.out).mono ?_
  rintro e w' ⟨rfl, ⟨nd, rfl⟩⟩
  go_wp2_with fail
  refine (iso8601_readByte.calls s3 45 s4 true _ H3.out).mono ?_
  rintro e w' ⟨rfl, ⟨nd, rfl⟩⟩
  go_wp2_with fail
  refine (iso8601_readDigits.calls k s4 2 2 s5 true _ H4.out).mono ?_
  rintro e w' ⟨rfl, ⟨nd, rfl⟩⟩
  go_wp2_with fail
  refine (iso8601_readByte.calls s5 84 s6 true _ H5.out).mono ?_
  rintro e w' ⟨rfl, ⟨nd, rfl⟩⟩
  go_wp2_with fail
  refine (iso8601_readDigits.calls k s6 2 2 s7 true _ H6.out).mono ?_
  rintro e w' ⟨rfl, ⟨nd, rfl⟩⟩
  go_wp2_with fail
  refine (iso8601_readByte.calls s7 58 s8 true _ H7.out).mono ?_
  rintro e w' ⟨rfl, ⟨nd, rfl⟩⟩
  go_wp2_with fail
  refine (iso8601_readDigits.calls k s8 2 2 s9 true _ H8.out).mono ?_
  rintro e w' ⟨rfl, ⟨nd, rfl⟩⟩
  go_wp2_with fail
  refine (iso8601_readByte.calls s9 58 s10 true _ H9.out).mono ?_
  rintro e w' ⟨rfl, ⟨nd, rfl⟩⟩
  go_wp2_with fail
  refine (iso8601_readDigits.calls k s10 2 2 s11 true _ H10.out).mono ?_
  rintro e w' ⟨rfl, ⟨nd, rfl⟩⟩
  go_wp2_with fail
  refine (iso8601_readByte.calls s11 46 s12 false _ H11.out).mono ?_
  rintro e w' ⟨rfl, ⟨nd, rfl⟩⟩
  go_wp2_with fail
  refine (iso8601_readByte.calls s12 90 s13 false _ H12.out).mono ?_
  rintro e w' ⟨rfl, ⟨nd, rfl⟩⟩
  go_wp2_with fail
  refine (iso8601_readByte.calls s13 32 s14 false _ H13.out).mono ?_
  rintro e w' ⟨rfl, ⟨nd, rfl⟩⟩
  go_wp2_with fail
  refine (iso8601_readByte.calls s14 43 s15 false _ H14.out).mono ?_
  rintro e w' ⟨rfl, ⟨nd, rfl⟩⟩
  go_wp2_with fail
  refine (iso8601_readByte.calls s15 45 s16 true _ H15.out).mono ?_
  rintro e w' ⟨rfl, ⟨nd, rfl⟩⟩
  go_wp2_with fail
  refine (iso8601_readDigits.calls k s16 2 2 s17 true _ H16.out).mono ?_
  rintro e w' ⟨rfl, ⟨nd, rfl⟩⟩
  go_wp2_with fail
  refine (iso8601_readByte.calls s17 58 s18 false _ H17.out).mono ?_
  rintro e w' ⟨rfl, ⟨nd, rfl⟩⟩
  go_wp2_with fail
  go_ret
  exact ⟨rfl, by repeat (first | exact Drawn0.refl _ | apply Drawn0.step)⟩
set_option maxHeartbeats 2000000 in
set_option maxRecDepth 100000 in
theorem v_zn3tf (k : Nat) (s0 s1 s2 s3 s4 s5 s6 s7 s8 s9 s10 s11 s12 s13 s14 s15 s16 s17 : ByteArray) (f : Int) (H0 : Aside0 (iso8601_readDigits.f k s0 4 4 = some (s1, true))) (H1 : Aside0 (iso8601_readByte.f s1 45 = some (s2, true))) (H2 : Aside0 (iso8601_readDigits.f k s2 2 2 = some (s3, true))) (H3 : Aside0 (iso8601_readByte.f s3 45 = some (s4, true))) (H4 : Aside0 (iso8601_readDigits.f k s4 2 2 = some (s5, true))) (Z5 : ((s5.size : Int) == 0) = false) (H5 : Aside0 (iso8601_readByte.f s5 84 = some (s6, true))) (H6 : Aside0 (iso8601_readDigits.f k s6 2 2 = some (s7, true))) (H7 : Aside0 (iso8601_readByte.f s7 58 = some (s8, true))) (H8 : Aside0 (iso8601_readDigits.f k s8 2 2 = some (s9, true))) (H9 : Aside0 (iso8601_readByte.f s9 58 = some (s10, true))) (H10 : Aside0 (iso8601_readDigits.f k s10 2 2 = some (s11, true))) (H11 : Aside0 (iso8601_readByte.f s11 46 = some (s12, true))) (H12 : Aside0 (iso8601_readDigits.f k s12 1 9 = some (s13, true))) (Z13 : ((s13.size : Int) == 0) = true) (F16 : (Go.bits .and .i64 f 16 == 0) = true) (H13 : Aside0 (iso8601_readByte.f s13 90 = some (s14, false))) (F2 : (Go.bits .and .i64 f 2 == 0) = false) (H14 : Aside0 (iso8601_readByte.f s14 32 = some (s15, false))) (H15 : Aside0 (iso8601_readByte.f s15 43 = some (s16, false))) (H16 : Aside0 (iso8601_readByte.f s16 45 = some (s17, false))) (w : World) :
    Calls Try.prog 59 #[.string s0, .int .i64 f] w fun e w' => e = .returned (.bool false) ∧ Drawn0 w w' := by
  have G16 : (Go.bits .and .i64 f 16 != 0) = false := by simp only [bne, F16]; rfl
  have G2 : (Go.bits .and .i64 f 2 != 0) = true := by simp only [bne, F2]; rfl
  go_enter Try.func59, Try.ntmps59
  go_wp2_with fail
  refine (iso8601_readDigits.calls k s0 4 4 s1 true _ H0.out).mono ?_
  rintro e w' ⟨rfl, ⟨nd, rfl⟩⟩
  go_wp2_with fail
  refine (iso8601_readByte.calls s1 45 s2 true _ H1.out).mono ?_
  rintro e w' ⟨rfl, ⟨nd, rfl⟩⟩
  go_wp2_with fail
  refine (iso8601_readDigits.calls k s2 2 2 s3 true _ H2.out).mono ?_
  rintro e w' ⟨rfl, ⟨nd, rfl⟩⟩
  go_wp2_with fail
  refine (iso8601_readByte.calls s3 45 s4 true _ H3.out).mono ?_
  rintro e w' ⟨rfl, ⟨nd, rfl⟩⟩
  go_wp2_with fail
  refine (iso8601_readDigits.calls k s4 2 2 s5 true _ H4.out).mono ?_
  rintro e w' ⟨rfl, ⟨nd, rfl⟩⟩
  go_wp2_with fail
  refine (iso8601_readByte.calls s5 84 s6 true _ H5.out).mono ?_
  rintro e w' ⟨rfl, ⟨nd, rfl⟩⟩
  go_wp2_with fail
  refine (iso8601_readDigits.calls k s6 2 2 s7 true _ H6.out).mono ?_
  rintro e w' ⟨rfl, ⟨nd, rfl⟩⟩
  go_wp2_with fail
  refine (iso8601_readByte.calls s7 58 s8 true _ H7.out).mono ?_
  rintro e w' ⟨rfl, ⟨nd, rfl⟩⟩
  go_wp2_with fail
  refine (iso8601_readDigits.calls k s8 2 2 s9 true _ H8.out).mono ?_
  rintro e w' ⟨rfl, ⟨nd, rfl⟩⟩
  go_wp2_with fail
  refine (iso8601_readByte.calls s9 58 s10 true _ H9.out).mono ?_
  rintro e w' ⟨rfl, ⟨nd, rfl⟩⟩
  go_wp2_with fail
  refine (iso8601_readDigits.calls k s10 2 2 s11 true _ H10.out).mono ?_
  rintro e w' ⟨rfl, ⟨nd, rfl⟩⟩
  go_wp2_with fail
  refine (iso8601_readByte.calls s11 46 s12 true _ H11.out).mono ?_
  rintro e w' ⟨rfl, ⟨nd, rfl⟩⟩
  go_wp2_with fail
  refine (iso8601_readDigits.calls k s12 1 9 s13 true _ H12.out).mono ?_
  rintro e w' ⟨rfl, ⟨nd, rfl⟩⟩
  go_wp2_with fail
  refine (iso8601_readByte.calls s13 90 s14 false _ H13.out).mono ?_
  rintro e w' ⟨rfl, ⟨nd, rfl⟩⟩
  go_wp2_with fail
  refine (iso8601_readByte.calls s14 32 s15 false _ H14.out).mono ?_
  rintro e w' ⟨rfl, ⟨nd, rfl⟩⟩
  go_wp2_with fail
  refine (iso8601_readByte.calls s15 43 s16 false _ H15.out).mono ?_
  rintro e w' ⟨rfl, ⟨nd, rfl⟩⟩
  go_wp2_with fail
  refine (iso8601_readByte.calls s16 45 s17 false _ H16.out).mono ?_
  rintro e w' ⟨rfl, ⟨nd, rfl⟩⟩
  go_wp2_with fail
  go_ret
  exact ⟨rfl, by repeat (first | exact Drawn0.refl _ | apply Drawn0.step)⟩
set_option maxHeartbeats 2000000 in
set_option maxRecDepth 100000 in
theorem v_zqtf0p (k : Nat) (s0 s1 s2 s3 s4 s5 s6 s7 s8 s9 s10 s11 s12 s13 s14 s15 s16 s17 s18 : ByteArray) (f : Int) (H0 : Aside0 (iso8601_readDigits.f k s0 4 4 = some (s1, true))) (H1 : Aside0 (iso8601_readByte.f s1 45 = some (s2, true))) (H2 : Aside0 (iso8601_readDigits.f k s2 2 2 = some (s3, true))) (H3 : Aside0 (iso8601_readByte.f s3 45 = some (s4, true))) (H4 : Aside0 (iso8601_readDigits.f k s4 2 2 = some (s5, true))) (Z5 : ((s5.size : Int) == 0) = false) (H5 : Aside0 (iso8601_readByte.f s5 84 = some (s6, true))) (H6 : Aside0 (iso8601_readDigits.f k s6 2 2 = some (s7, true))) (H7 : Aside0 (iso8601_readByte.f s7 58 = some (s8, true))) (H8 : Aside0 (iso8601_readDigits.f k s8 2 2 = some (s9, true))) (H9 : Aside0 (iso8601_readByte.f s9 58 = some (s10, true))) (H10 : Aside0 (iso8601_readDigits.f k s10 2 2 = some (s11, true))) (H11 : Aside0 (iso8601_readByte.f s11 46 = some (s12, true))) (H12 : Aside0 (iso8601_readDigits.f k s12 1 9 = some (s13, true))) (Z13 : ((s13.size : Int) == 0) = false) (H13 : Aside0 (iso8601_readByte.f s13 90 = some (s14, false))) (F2 : (Go.bits .and .i64 f 2 == 0) = true) (H14 : Aside0 (iso8601_readByte.f s14 43 = some (s15, true))) (H15 : Aside0 (iso8601_readDigits.f k s15 2 2 = some (s16, true))) (H16 : Aside0 (iso8601_readByte.f s16 58 = some (s17, false))) (F32 : (Go.bits .and .i64 f 32 == 0) = false) (H17 : Aside0 (iso8601_readDigits.f k s17 2 2 = some (s18, true))) (Z18 : ((s18.size : Int) == 0) = true) (w : World) :
    Calls Try.prog 59 #[.string s0, .int .i64 f] w fun e w' => e = .returned (.bool true) ∧ Drawn0 w w' := by
  have G2 : (Go.bits .and .i64 f 2 != 0) = false := by simp only [bne, F2]; rfl
  have G32 : (Go.bits .and .i64 f 32 != 0) = true := by simp only [bne, F32]; rfl
  go_enter Try.func59, Try.ntmps59
  go_wp2_with fail
  refine (iso8601_readDigits.calls k s0 4 4 s1 true _ H0.out).mono ?_
  rintro e w' ⟨rfl, ⟨nd, rfl⟩⟩
  go_wp2_with fail
  refine (iso8601_readByte.calls s1 45 s2 true _ H1.out).mono ?_
  rintro e w' ⟨rfl, ⟨nd, rfl⟩⟩
  go_wp2_with fail
  refine (iso8601_readDigits.calls k s2 2 2 s3 true _ H2.out).mono ?_
  rintro e w' ⟨rfl, ⟨nd, rfl⟩⟩
  go_wp2_with fail
  refine (iso8601_readByte.calls s3 45 s4 true _ H3.out).mono ?_
  rintro e w' ⟨rfl, ⟨nd, rfl⟩⟩
  go_wp2_with fail
  refine (iso8601_readDigits.calls k s4 2 2 s5 true _ H4.out).mono ?_
  rintro e w' ⟨rfl, ⟨nd, rfl⟩⟩
  go_wp2_with fail
  refine (iso8601_readByte.calls s5 84 s6 true _ H5.out).mono ?_
  rintro e w' ⟨rfl, ⟨nd, rfl⟩⟩
  go_wp2_with fail
  refine (iso8601_readDigits.calls k s6 2 2 s7 true _ H6.out).mono ?_
  rintro e w' ⟨rfl, ⟨nd, rfl⟩⟩
  go_wp2_with fail
  refine (iso8601_readByte.calls s7 58 s8 true _ H7.out).mono ?_
  rintro e w' ⟨rfl, ⟨nd, rfl⟩⟩
  go_wp2_with fail
  refine (iso8601_readDigits.calls k s8 2 2 s9 true _ H8.out).mono ?_
  rintro e w' ⟨rfl, ⟨nd, rfl⟩⟩
  go_wp2_with fail
  refine (iso8601_readByte.calls s9 58 s10 true _ H9.out).mono ?_
  rintro e w' ⟨rfl, ⟨nd, rfl⟩⟩
  go_wp2_with fail
  refine (iso8601_readDigits.calls k s10 2 2 s11 true _ H10.out).mono ?_
  rintro e w' ⟨rfl, ⟨nd, rfl⟩⟩
  go_wp2_with fail
  refine (iso8601_readByte.calls s11 46 s12 true _ H11.out).mono ?_
  rintro e w' ⟨rfl, ⟨nd, rfl⟩⟩
  go_wp2_with fail
  refine (iso8601_readDigits.calls k s12 1 9 s13 true _ H12.out).mono ?_
  rintro e w' ⟨rfl, ⟨nd, rfl⟩⟩
  go_wp2_with fail
  refine (iso8601_readByte.calls s13 90 s14 false _ H13.out).mono ?_
  rintro e w' ⟨rfl, ⟨nd, rfl⟩⟩
  go_wp2_with fail
  refine (iso8601_readByte.calls s14 43 s15 true _ H14.out).mono ?_
  rintro e w' ⟨rfl, ⟨nd, rfl⟩⟩
  go_wp2_with fail
  refine (iso8601_readDigits.calls k s15 2 2 s16 true _ H15.out).mono ?_
  rintro e w' ⟨rfl, ⟨nd, rfl⟩⟩
  go_wp2_with fail
  refine (iso8601_readByte.calls s16 58 s17 false _ H16.out).mono ?_
  rintro e w' ⟨rfl, ⟨nd, rfl⟩⟩
  go_wp2_with fail
  refine (iso8601_readDigits.calls k s17 2 2 s18 true _ H17.out).mono ?_
  rintro e w' ⟨rfl, ⟨nd, rfl⟩⟩
  go_wp2_with fail
  go_ret
  exact ⟨rfl, by repeat (first | exact Drawn0.refl _ | apply Drawn0.step)⟩
set_option maxHeartbeats 2000000 in
set_option maxRecDepth 100000 in
theorem v_zqtf0m (k : Nat) (s0 s1 s2 s3 s4 s5 s6 s7 s8 s9 s10 s11 s12 s13 s14 s15 s16 s17 s18 s19 : ByteArray) (f : Int) (H0 : Aside0 (iso8601_readDigits.f k s0 4 4 = some (s1, true))) (H1 : Aside0 (iso8601_readByte.f s1 45 = some (s2, true))) (H2 : Aside0 (iso8601_readDigits.f k s2 2 2 = some (s3, true))) (H3 : Aside0 (iso8601_readByte.f s3 45 = some (s4, true))) (H4 : Aside0 (iso8601_readDigits.f k s4 2 2 = some (s5, true))) (Z5 : ((s5.size : Int) == 0) = false) (H5 : Aside0 (iso8601_readByte.f s5 84 = some (s6, true))) (H6 : Aside0 (iso8601_readDigits.f k s6 2 2 = some (s7, true))) (H7 : Aside0 (iso8601_readByte.f s7 58 = some (s8, true))) (H8 : Aside0 (iso8601_readDigits.f k s8 2 2 = some (s9, true))) (H9 : Aside0 (iso8601_readByte.f s9 58 = some (s10, true))) (H10 : Aside0 (iso8601_readDigits.f k s10 2 2 = some (s11, true))) (H11 : Aside0 (iso8601_readByte.f s11 46 = some (s12, true))) (H12 : Aside0 (iso8601_readDigits.f k s12 1 9 = some (s13, true))) (Z13 : ((s13.size : Int) == 0) = false) (H13 : Aside0 (iso8601_readByte.f s13 90 = some (s14, false))) (F2 : (Go.bits .and .i64 f 2 == 0) = true) (H14 : Aside0 (iso8601_readByte.f s14 43 = some (s15, false))) (H15 : Aside0 (iso8601_readByte.f s15 45 = some (s16, true))) (H16 : Aside0 (iso8601_readDigits.f k s16 2 2 = some (s17, true))) (H17 : Aside0 (iso8601_readByte.f s17 58 = some (s18, false))) (F32 : (Go.bits .and .i64 f 32 == 0) = false) (H18 : Aside0 (iso8601_readDigits.f k s18 2 2 = some (s19, true))) (Z19 : ((s19.size : Int) == 0) = true) (w : World) :
    Calls Try.prog 59 #[.string s0, .int .i64 f] w fun e w' => e = .returned (.bool true) ∧ Drawn0 w w' := by
  have G2 : (Go.bits .and .i64 f 2 != 0) = false := by simp only [bne, F2]; rfl
  have G32 : (Go.bits .and .i64 f 32 != 0) = true := by simp only [bne, F32]; rfl
  go_enter Try.func59, Try.ntmps59
  go_wp2_with fail
  refine (iso8601_readDigits.calls k s0 4 4 s1 true _ H0.out).mono ?_
  rintro e w' ⟨rfl, ⟨nd, rfl⟩⟩
  go_wp2_with fail
  refine (iso8601_readByte.calls s1 45 s2 true _ H1.out).mono ?_
  rintro e w' ⟨rfl, ⟨nd, rfl⟩⟩
  go_wp2_with fail
  refine (iso8601_readDigits.calls k s2 2 2 s3 true _ H2.out).mono ?_
  rintro e w' ⟨rfl, ⟨nd, rfl⟩⟩
  go_wp2_with fail
  refine (iso8601_readByte.calls s3 45 s4 true _ H3.out).mono ?_
  rintro e w' ⟨rfl, ⟨nd, rfl⟩⟩
  go_wp2_with fail
  refine (iso8601_readDigits.calls k s4 2 2 s5 true _ H4.out).mono ?_
  rintro e w' ⟨rfl, ⟨nd, rfl⟩⟩
  go_wp2_with fail
  refine (iso8601_readByte.calls s5 84 s6 true _ H5.out).mono ?_
  rintro e w' ⟨rfl, ⟨nd, rfl⟩⟩
  go_wp2_with fail
  refine (iso8601_readDigits.calls k s6 2 2 s7 true _ H6.out).mono ?_
  rintro e w' ⟨rfl, ⟨nd, rfl⟩⟩
  go_wp2_with fail
  refine (iso8601_readByte.calls s7 58 s8 true _ H7.out).mono ?_
  rintro e w' ⟨rfl, ⟨nd, rfl⟩⟩
  go_wp2_with fail
  refine (iso8601_readDigits.calls k s8 2 2 s9 true _ H8.out).mono ?_
  rintro e w' ⟨rfl, ⟨nd, rfl⟩⟩
  go_wp2_with fail
  refine (iso8601_readByte.calls s9 58 s10 true _ H9.out).mono ?_
  rintro e w' ⟨rfl, ⟨nd, rfl⟩⟩
  go_wp2_with fail
  refine (iso8601_readDigits.calls k s10 2 2 s11 true _ H10.out).mono ?_
  rintro e w' ⟨rfl, ⟨nd, rfl⟩⟩
  go_wp2_with fail
  refine (iso8601_readByte.calls s11 46 s12 true _ H11.out).mono ?_
  rintro e w' ⟨rfl, ⟨nd, rfl⟩⟩
  go_wp2_with fail
  refine (iso8601_readDigits.calls k s12 1 9 s13 true _ H12.out).mono ?_
  rintro e w' ⟨rfl, ⟨nd, rfl⟩⟩
  go_wp2_with fail
  refine (iso8601_readByte.calls s13 90 s14 false _ H13.out).mono ?_
  rintro e w' ⟨rfl, ⟨nd, rfl⟩⟩
  go_wp2_with fail
  refine (iso8601_readByte.calls s14 43 s15 false _ H14.out).mono ?_
  rintro e w' ⟨rfl, ⟨nd, rfl⟩⟩
  go_wp2_with fail
  refine (iso8601_readByte.calls s15 45 s16 true _ H15.out).mono ?_
  rintro e w' ⟨rfl, ⟨nd, rfl⟩⟩
  go_wp2_with fail
  refine (iso8601_readDigits.calls k s16 2 2 s17 true _ H16.out).mono ?_
  rintro e w' ⟨rfl, ⟨nd, rfl⟩⟩
  go_wp2_with fail
  refine (iso8601_readByte.calls s17 58 s18 false _ H17.out).mono ?_
  rintro e w' ⟨rfl, ⟨nd, rfl⟩⟩
  go_wp2_with fail
  refine (iso8601_readDigits.calls k s18 2 2 s19 true _ H18.out).mono ?_
  rintro e w' ⟨rfl, ⟨nd, rfl⟩⟩
  go_wp2_with fail
  go_ret
  exact ⟨rfl, by repeat (first | exact Drawn0.refl _ | apply Drawn0.step)⟩
set_option maxHeartbeats 2000000 in
set_option maxRecDepth 100000 in
theorem v_zqtf1p (k : Nat) (s0 s1 s2 s3 s4 s5 s6 s7 s8 s9 s10 s11 s12 s13 s14 s15 s16 s17 s18 s19 : ByteArray) (f : Int) (H0 : Aside0 (iso8601_readDigits.f k s0 4 4 = some (s1, true))) (H1 : Aside0 (iso8601_readByte.f s1 45 = some (s2, true))) (H2 : Aside0 (iso8601_readDigits.f k s2 2 2 = some (s3, true))) (H3 : Aside0 (iso8601_readByte.f s3 45 = some (s4, true))) (H4 : Aside0 (iso8601_readDigits.f k s4 2 2 = some (s5, true))) (Z5 : ((s5.size : Int) == 0) = false) (H5 : Aside0 (iso8601_readByte.f s5 84 = some (s6, true))) (H6 : Aside0 (iso8601_readDigits.f k s6 2 2 = some (s7, true))) (H7 : Aside0 (iso8601_readByte.f s7 58 = some (s8, true))) (H8 : Aside0 (iso8601_readDigits.f k s8 2 2 = some (s9, true))) (H9 : Aside0 (iso8601_readByte.f s9 58 = some (s10, true))) (H10 : Aside0 (iso8601_readDigits.f k s10 2 2 = some (s11, true))) (H11 : Aside0 (iso8601_readByte.f s11 46 = some (s12, true))) (H12 : Aside0 (iso8601_readDigits.f k s12 1 9 = some (s13, true))) (Z13 : ((s13.size : Int) == 0) = false) (H13 : Aside0 (iso8601_readByte.f s13 90 = some (s14, false))) (F2 : (Go.bits .and .i64 f 2 == 0) = false) (H14 : Aside0 (iso8601_readByte.f s14 32 = some (s15, false))) (H15 : Aside0 (iso8601_readByte.f s15 43 = some (s16, true))) (H16 : Aside0 (iso8601_readDigits.f k s16 2 2 = some (s17, true))) (H17 : Aside0 (iso8601_readByte.f s17 58 = some (s18, false))) (F32 : (Go.bits .and .i64 f 32 == 0) = false) (H18 : Aside0 (iso8601_readDigits.f k s18 2 2 = some (s19, true))) (Z19 : ((s19.size : Int) == 0) = true) (w : World) :
    Calls Try.prog 59 #[.string s0, .int .i64 f] w fun e w' => e = .returned (.bool true) ∧ Drawn0 w w' := by
  have G2 : (Go.bits .and .i64 f 2 != 0) = true := by simp only [bne, F2]; rfl
  have G32 : (Go.bits .and .i64 f 32 != 0) = true := by simp only [bne, F32]; rfl
  go_enter Try.func59, Try.ntmps59
  go_wp2_with fail
  refine (iso8601_readDigits.calls k s0 4 4 s1 true _ H0.out).mono ?_
  rintro e w' ⟨rfl, ⟨nd, rfl⟩⟩
  go_wp2_with fail
  refine (iso8601_readByte.calls s1 45 s2 true _ H1.out).mono ?_
  rintro e w' ⟨rfl, ⟨nd, rfl⟩⟩
  go_wp2_with fail
  refine (iso8601_readDigits.calls k s2 2 2 s3 true _ H2.out).mono ?_
  rintro e w' ⟨rfl, ⟨nd, rfl⟩⟩
  go_wp2_with fail
  refine (iso8601_readByte.calls s3 45 s4 true _ H3.out).mono ?_
  rintro e w' ⟨rfl, ⟨nd, rfl⟩⟩
  go_wp2_with fail
  refine (iso8601_readDigits.calls k s4 2 2 s5 true _ H4.out).mono ?_
  rintro e w' ⟨rfl, ⟨nd, rfl⟩⟩
  go_wp2_with fail
  refine (iso8601_readByte.calls s5 84 s6 true _ H5.out).mono ?_
  rintro e w' ⟨rfl, ⟨nd, rfl⟩⟩
  go_wp2_with fail
  refine (iso8601_readDigits.calls k s6 2 2 s7 true _ H6.out).mono ?_
  rintro e w' ⟨rfl, ⟨nd, rfl⟩⟩
  go_wp2_with fail
  refine (iso8601_readByte.calls s7 58 s8 true _ H7.out).mono ?_
  rintro e w' ⟨rfl, ⟨nd, rfl⟩⟩
  go_wp2_with fail
  refine (iso8601_readDigits.calls k s8 2 2 s9 true _ H8.out).mono ?_
  rintro e w' ⟨rfl, ⟨nd, rfl⟩⟩
  go_wp2_with fail
  refine (iso8601_readByte.calls s9 58 s10 true _ H9.out).mono ?_
  rintro e w' ⟨rfl, ⟨nd, rfl⟩⟩
  go_wp2_with fail
  refine (iso8601_readDigits.calls k s10 2 2 s11 true _ H10.out).mono ?_
  rintro e w' ⟨rfl, ⟨nd, rfl⟩⟩
  go_wp2_with fail
  refine (iso8601_readByte.calls s11 46 s12 true _ H11.out).mono ?_
  rintro e w' ⟨rfl, ⟨nd, rfl⟩⟩
  go_wp2_with fail
  refine (iso8601_readDigits.calls k s12 1 9 s13 true _ H12.out).mono ?_
  rintro e w' ⟨rfl, ⟨nd, rfl⟩⟩
  go_wp2_with fail
  refine (iso8601_readByte.calls s13 90 s14 false _ H13.out).mono ?_
  rintro e w' ⟨rfl, ⟨nd, rfl⟩⟩
  go_wp2_with fail
  refine (iso8601_readByte.calls s14 32 s15 false _ H14.out).mono ?_
  rintro e w' ⟨rfl, ⟨nd, rfl⟩⟩
  go_wp2_with fail
  refine (iso8601_readByte.calls s15 43 s16 true _ H15.out).mono ?_
  rintro e w' ⟨rfl, ⟨nd, rfl⟩⟩
  go_wp2_with fail
  refine (iso8601_readDigits.calls k s16 2 2 s17 true _ H16.out).mono ?_
  rintro e w' ⟨rfl, ⟨nd, rfl⟩⟩
  go_wp2_with fail
  refine (iso8601_readByte.calls s17 58 s18 false _ H17.out).mono ?_
  rintro e w' ⟨rfl, ⟨nd, rfl⟩⟩
  go_wp2_with fail
  refine (iso8601_readDigits.calls k s18 2 2 s19 true _ H18.out).mono ?_
  rintro e w' ⟨rfl, ⟨nd, rfl⟩⟩
  go_wp2_with fail
  go_ret
  exact ⟨rfl, by repeat (first | exact Drawn0.refl _ | apply Drawn0.step)⟩
set_option maxHeartbeats 2000000 in
set_option maxRecDepth 100000 in
theorem v_zqtf1m (k : Nat) (s0 s1 s2 s3 s4 s5 s6 s7 s8 s9 s10 s11 s12 s13 s14 s15 s16 s17 s18 s19 s20 : ByteArray) (f : Int) (H0 : Aside0 (iso8601_readDigits.f k s0 4 4 = some (s1, true))) (H1 : Aside0 (iso8601_readByte.f s1 45 = some (s2, true))) (H2 : Aside0 (iso8601_readDigits.f k s2 2 2 = some (s3, true))) (H3 : Aside0 (iso8601_readByte.f s3 45 = some (s4, true))) (H4 : Aside0 (iso8601_readDigits.f k s4 2 2 = some (s5, true))) (Z5 : ((s5.size : Int) == 0) = false) (H5 : Aside0 (iso8601_readByte.f s5 84 = some (s6, true))) (H6 : Aside0 (iso8601_readDigits.f k s6 2 2 = some (s7, true))) (H7 : Aside0 (iso8601_readByte.f s7 58 = some (s8, true))) (H8 : Aside0 (iso8601_readDigits.f k s8 2 2 = some (s9, true))) (H9 : Aside0 (iso8601_readByte.f s9 58 = some (s10, true))) (H10 : Aside0 (iso8601_readDigits.f k s10 2 2 = some (s11, true))) (H11 : Aside0 (iso8601_readByte.f s11 46 = some (s12, true))) (H12 : Aside0 (iso8601_readDigits.f k s12 1 9 = some (s13, true))) (Z13 : ((s13.size : Int) == 0) = false) (H13 : Aside0 (iso8601_readByte.f s13 90 = some (s14, false))) (F2 : (Go.bits .and .i64 f 2 == 0) = false) (H14 : Aside0 (iso8601_readByte.f s14 32 = some (s15, false))) (H15 : Aside0 (iso8601_readByte.f s15 43 = some (s16, false))) (H16 : Aside0 (iso8601_readByte.f s16 45 = some (s17, true))) (H17 : Aside0 (iso8601_readDigits.f k s17 2 2 = some (s18, true))) (H18 : Aside0 (iso8601_readByte.f s18 58 = some (s19, false))) (F32 : (Go.bits .and .i64 f 32 == 0) = false) (H19 : Aside0 (iso8601_readDigits.f k s19 2 2 = some (s20, true))) (Z20 : ((s20.size : Int) == 0) = true) (w : World) :
    Calls Try.prog 59 #[.string s0, .int .i64 f] w fun e w' => e = .returned (.bool true) ∧ Drawn0 w w' := by
  have G2 : (Go.bits .and .i64 f 2 != 0) = true := by simp only [bne, F2]; rfl
  have G32 : (Go.bits .and .i64 f 32 != 0) = true := by simp only [bne, F32]; rfl
  go_enter Try.func59, Try.ntmps59
  go_wp2_with fail
  refine (iso8601_readDigits.calls k s0 4 4 s1 true _ H0.out).mono ?_
  rintro e w' ⟨rfl, ⟨nd, rfl⟩⟩
  go_wp2_with fail
  refine (iso8601_readByte.calls s1 45 s2 true _ H1.out).mono ?_
  rintro e w' ⟨rfl, ⟨nd, rfl⟩⟩
  go_wp2_with fail
  refine (iso8601_readDigits.calls k s2 2 2 s3 true _ H2.out).mono ?_
  rintro e w' ⟨rfl, ⟨nd, rfl⟩⟩
  go_wp2_with fail
  refine (iso8601_readByte.calls s3 45 s4 true _ H3.out).mono ?_
  rintro e w' ⟨rfl, ⟨nd, rfl⟩⟩
  go_wp2_with fail
  refine (iso8601_readDigits.calls k s4 2 2 s5 true _ H4.out).mono ?_
  rintro e w' ⟨rfl, ⟨nd, rfl⟩⟩
  go_wp2_with fail
  refine (iso8601_readByte.calls s5 84 s6 true _ H5.out).mono ?_
  rintro e w' ⟨rfl, ⟨nd, rfl⟩⟩
  go_wp2_with fail
  refine (iso8601_readDigits.calls k s6 2 2 s7 true _ H6.out).mono ?_
  rintro e w' ⟨rfl, ⟨nd, rfl⟩⟩
  go_wp2_with fail
  refine (iso8601_readByte.calls s7 58 s8 true _ H7.out).mono ?_
  rintro e w' ⟨rfl, ⟨nd, rfl⟩⟩
  go_wp2_with fail
  refine (iso8601_readDigits.calls k s8 2 2 s9 true _ H8.out).mono ?_
  rintro e w' ⟨rfl, ⟨nd, rfl⟩⟩
  go_wp2_with fail
  refine (iso8601_readByte.calls s9 58 s10 true _ H9.out).mono ?_
  rintro e w' ⟨rfl, ⟨nd, rfl⟩⟩
  go_wp2_with fail
  refine (iso8601_readDigits.calls k s10 2 2 s11 true _ H10.out).mono ?_
  rintro e w' ⟨rfl, ⟨nd, rfl⟩⟩
  go_wp2_with fail
  refine (iso8601_readByte.calls s11 46 s12 true _ H11.out).mono ?_
  rintro e w' ⟨rfl, ⟨nd, rfl⟩⟩
  go_wp2_with fail
  refine (iso8601_readDigits.calls k s12 1 9 s13 true _ H12.out).mono ?_
  rintro e w' ⟨rfl, ⟨nd, rfl⟩⟩
  go_wp2_with fail
  refine (iso8601_readByte.calls s13 90 s14 false _ H13.out).mono ?_
  rintro e w' ⟨rfl, ⟨nd, rfl⟩⟩
  go_wp2_with fail
  refine (iso8601_readByte.calls s14 32 s15 false _ H14.out).mono ?_
  rintro e w' ⟨rfl, ⟨nd, rfl⟩⟩
  go_wp2_with fail
  refine (iso8601_readByte.calls s15 43 s16 false _ H15.out).mono ?_
  rintro e w' ⟨rfl, ⟨nd, rfl⟩⟩
  go_wp2_with fail
  refine (iso8601_readByte.calls s16 45 s17 true _ H16.out).mono ?_
  rintro e w' ⟨rfl, ⟨nd, rfl⟩⟩
  go_wp2_with fail
  refine (iso8601_readDigits.calls k s17 2 2 s18 true _ H17.out).mono ?_
  rintro e w' ⟨rfl, ⟨nd, rfl⟩⟩
  go_wp2_with fail
  refine (iso8601_readByte.calls s18 58 s19 false _ H18.out).mono ?_
  rintro e w' ⟨rfl, ⟨nd, rfl⟩⟩
  go_wp2_with fail
  refine (iso8601_readDigits.calls k s19 2 2 s20 true _ H19.out).mono ?_
  rintro e w' ⟨rfl, ⟨nd, rfl⟩⟩
  go_wp2_with fail
  go_ret
  exact ⟨rfl, by repeat (first | exact Drawn0.refl _ | apply Drawn0.step)⟩
set_option maxHeartbeats 2000000 in
set_option maxRecDepth 100000 in
theorem v_ftb1 (k : Nat) (s0 s1 s2 s3 s4 s5 s6 s7 s8 s9 : ByteArray) (f : Int) (H0 : Aside0 (iso8601_readDigits.f k s0 4 4 = some (s1, true))) (H1 : Aside0 (iso8601_readByte.f s1 45 = some (s2, true))) (H2 : Aside0 (iso8601_readDigits.f k s2 2 2 = some (s3, true))) (H3 : Aside0 (iso8601_readByte.f s3 45 = some (s4, true))) (H4 : Aside0 (iso8601_readDigits.f k s4 2 2 = some (s5, true))) (Z5 : ((s5.size : Int) == 0) = false) (H5 : Aside0 (iso8601_readByte.f s5 84 = some (s6, false))) (F2 : (Go.bits .and .i64 f 2 == 0) = false) (H6 : Aside0 (iso8601_readByte.f s6 32 = some (s7, true))) (H7 : Aside0 (iso8601_readDigits.f k s7 2 2 = some (s8, true))) (H8 : Aside0 (iso8601_readByte.f s8 58 = some (s9, false))) (w : World) :
    Calls Try.prog 59 #[.string s0, .int .i64 f] w fun e w' => e = .returned (.bool false) ∧ Drawn0 w w' := by
  have G2 : (Go.bits .and .i64 f 2 != 0) = true := by simp only [bne, F2]; rfl
  go_enter Try.func59, Try.ntmps59
  go_wp2_with fail
  refine (iso8601_readDigits.calls k s0 4 4 s1 true _ H0.out).mono ?_
  rintro e w' ⟨rfl, ⟨nd, rfl⟩⟩
  go_wp2_with fail
  refine (iso8601_readByte.calls s1 45 s2 true _ H1.out).mono ?_
  rintro e w' ⟨rfl, ⟨nd, rfl⟩⟩
  go_wp2_with fail
  refine (iso8601_readDigits.calls k s2 2 2 s3 true _ H2.out).mono ?_
  rintro e w' ⟨rfl, ⟨nd, rfl⟩⟩
  go_wp2_with fail
  refine (iso8601_readByte.calls s3 45 s4 true _ H3.out).mono ?_
  rintro e w' ⟨rfl, ⟨nd, rfl⟩⟩
  go_wp2_with fail
  refine (iso8601_readDigits.calls k s4 2 2 s5 true _ H4.out).mono ?_
  rintro e w' ⟨rfl, ⟨nd, rfl⟩⟩
  go_wp2_with fail
  refine (iso8601_readByte.calls s5 84 s6 false _ H5.out).mono ?_
  rintro e w' ⟨rfl, ⟨nd, rfl⟩⟩
  go_wp2_with fail
  refine (iso8601_readByte.calls s6 32 s7 true _ H6.out).mono ?_
  rintro e w' ⟨rfl, ⟨nd, rfl⟩⟩
  go_wp2_with fail
  refine (iso8601_readDigits.calls k s7 2 2 s8 true _ H7.out).mono ?_
  rintro e w' ⟨rfl, ⟨nd, rfl⟩⟩
  go_wp2_with fail
  refine (iso8601_readByte.calls s8 58 s9 false _ H8.out).mono ?_
  rintro e w' ⟨rfl, ⟨nd, rfl⟩⟩
  go_wp2_with fail
  go_ret
  exact ⟨rfl, by repeat (first | exact Drawn0.refl _ | apply Drawn0.step)⟩
set_option maxHeartbeats 2000000 in
set_option maxRecDepth 100000 in
theorem v_ftb4 (k : Nat) (s0 s1 s2 s3 s4 s5 s6 s7 s8 s9 s10 s11 s12 : ByteArray) (f : Int) (H0 : Aside0 (iso8601_readDigits.f k s0 4 4 = some (s1, true))) (H1 : Aside0 (iso8601_readByte.f s1 45 = some (s2, true))) (H2 : Aside0 (iso8601_readDigits.f k s2 2 2 = some (s3, true))) (H3 : Aside0 (iso8601_readByte.f s3 45 = some (s4, true))) (H4 : Aside0 (iso8601_readDigits.f k s4 2 2 = some (s5, true))) (Z5 : ((s5.size : Int) == 0) = false) (H5 : Aside0 (iso8601_readByte.f s5 84 = some (s6, false))) (F2 : (Go.bits .and .i64 f 2 == 0) = false) (H6 : Aside0 (iso8601_readByte.f s6 32 = some (s7, true))) (H7 : Aside0 (iso8601_readDigits.f k s7 2 2 = some (s8, true))) (H8 : Aside0 (iso8601_readByte.f s8 58 = some (s9, true))) (H9 : Aside0 (iso8601_readDigits.f k s9 2 2 = some (s10, true))) (H10 : Aside0 (iso8601_readByte.f s10 58 = some (s11, true))) (H11 : Aside0 (iso8601_readDigits.f k s11 2 2 = some (s12, false))) (w : World) :
    Calls Try.prog 59 #[.string s0, .int .i64 f] w fun e w' => e = .returned (.bool false) ∧ Drawn0 w w' := by
  have G2 : (Go.bits .and .i64 f 2 != 0) = true := by simp only [bne, F2]; rfl
  go_enter Try.func59, Try.ntmps59
  go_wp2_with fail
  refine (iso8601_readDigits.calls k s0 4 4 s1 true _ H0.out).mono ?_
  rintro e w' ⟨rfl, ⟨nd, rfl⟩⟩
  go_wp2_with fail
  refine (iso8601_readByte.calls s1 45 s2 true _ H1.out).mono ?_
  rintro e w' ⟨rfl, ⟨nd, rfl⟩⟩
  go_wp2_with fail
  refine (iso8601_readDigits.calls k s2 2 2 s3 true _ H2.out).mono ?_
  rintro e w' ⟨rfl, ⟨nd, rfl⟩⟩
  go_wp2_with fail
  refine (iso8601_readByte.calls s3 45 s4 true _ H3.out).mono ?_
  rintro e w' ⟨rfl, ⟨nd, rfl⟩⟩
  go_wp2_with fail
  refine (iso8601_readDigits.calls k s4 2 2 s5 true _ H4.out).mono ?_
  rintro e w' ⟨rfl, ⟨nd, rfl⟩⟩
  go_wp2_with fail
  refine (iso8601_readByte.calls s5 84 s6 false _ H5.out).mono ?_
  rintro e w' ⟨rfl, ⟨nd, rfl⟩⟩
  go_wp2_with fail
  refine (iso8601_readByte.calls s6 32 s7 true _ H6.out).mono ?_
  rintro e w' ⟨rfl, ⟨nd, rfl⟩⟩
  go_wp2_with fail
  refine (iso8601_readDigits.calls k s7 2 2 s8 true _ H7.out).mono ?_
  rintro e w' ⟨rfl, ⟨nd, rfl⟩⟩
  go_wp2_with fail
  refine (iso8601_readByte.calls s8 58 s9 true _ H8.out).mono ?_
  rintro e w' ⟨rfl, ⟨nd, rfl⟩⟩
  go_wp2_with fail
  refine (iso8601_readDigits.calls k s9 2 2 s10 true _ H9.out).mono ?_
  rintro e w' ⟨rfl, ⟨nd, rfl⟩⟩
  go_wp2_with fail
  refine (iso8601_readByte.calls s10 58 s11 true _ H10.out).mono ?_
  rintro e w' ⟨rfl, ⟨nd, rfl⟩⟩
  go_wp2_with fail
  refine (iso8601_readDigits.calls k s11 2 2 s12 false _ H11.out).mono ?_
  rintro e w' ⟨rfl, ⟨nd, rfl⟩⟩
  go_wp2_with fail
  go_ret
  exact ⟨rfl, by repeat (first | exact Drawn0.refl _ | apply Drawn0.step)⟩
set_option maxHeartbeats 2000000 in
set_option maxRecDepth 100000 in
theorem v_zn3bn (k : Nat) (s0 s1 s2 s3 s4 s5 s6 s7 s8 s9 s10 s11 s12 s13 s14 s15 s16 s17 : ByteArray) (f : Int) (H0 : Aside0 (iso8601_readDigits.f k s0 4 4 = some (s1, true))) (H1 : Aside0 (iso8601_readByte.f s1 45 = some (s2, true))) (H2 : Aside0 (iso8601_readDigits.f k s2 2 2 = some (s3, true))) (H3 : Aside0 (iso8601_readByte.f s3 45 = some (s4, true))) (H4 : Aside0 (iso8601_readDigits.f k s4 2 2 = some (s5, true))) (Z5 : ((s5.size : Int) == 0) = false) (H5 : Aside0 (iso8601_readByte.f s5 84 = some (s6, false))) (F2 : (Go.bits .and .i64 f 2 == 0) = false) (H6 : Aside0 (iso8601_readByte.f s6 32 = some (s7, true))) (H7 : Aside0 (iso8601_readDigits.f k s7 2 2 = some (s8, true))) (H8 : Aside0 (iso8601_readByte.f s8 58 = some (s9, true))) (H9 : Aside0 (iso8601_readDigits.f k s9 2 2 = some (s10, true))) (H10 : Aside0 (iso8601_readByte.f s10 58 = some (s11, true))) (H11 : Aside0 (iso8601_readDigits.f k s11 2 2 = some (s12, true))) (H12 : Aside0 (iso8601_readByte.f s12 46 = some (s13, false))) (F8 : (Go.bits .and .i64 f 8 == 0) = false) (Z13 : ((s13.size : Int) == 0) = true) (F16 : (Go.bits .and .i64 f 16 == 0) = true) (H13 : Aside0 (iso8601_readByte.f s13 90 = some (s14, false))) (H14 : Aside0 (iso8601_readByte.f s14 32 = some (s15, false))) (H15 : Aside0 (iso8601_readByte.f s15 43 = some (s16, false))) (H16 : Aside0 (iso8601_readByte.f s16 45 = some (s17, false))) (w : World) :
    Calls Try.prog 59 #[.string s0, .int .i64 f] w fun e w' => e = .returned (.bool false) ∧ Drawn0 w w' := by
  have G2 : (Go.bits .and .i64 f 2 != 0) = true := by simp only [bne, F2]; rfl
  have G8 : (Go.bits .and .i64 f 8 != 0) = true := by simp only [bne, F8]; rfl
  have G16 : (Go.bits .and .i64 f 16 != 0) = false := by simp only [bne, F16]; rfl
  go_enter Try.func59, Try.ntmps59
  go_wp2_with fail
  refine (iso8601_readDigits.calls k s0 4 4 s1 true _ H0.out).mono ?_
  rintro e w' ⟨rfl, ⟨nd, rfl⟩⟩
  go_wp2_with fail
  refine (iso8601_readByte.calls s1 45 s2 true _ H1.out).mono ?_
  rintro e w' ⟨rfl, ⟨nd, rfl⟩⟩
  go_wp2_with fail
  refine (iso8601_readDigits.calls k s2 2 2 s3 true _ H2.out).mono ?_
  rintro e w' ⟨rfl, ⟨nd, rfl⟩⟩
  go_wp2_with fail
  refine (iso8601_readByte.calls s3 45 s4 true _ H3.out).mono ?_
  rintro e w' ⟨rfl, ⟨nd, rfl⟩⟩
  go_wp2_with fail
  refine (iso8601_readDigits.calls k s4 2 2 s5 true _ H4.out).mono ?_
  rintro e w' ⟨rfl, ⟨nd, rfl⟩⟩
  go_wp2_with fail
  refine (iso8601_readByte.calls s5 84 s6 false _ H5.out).mono ?_
  rintro e w' ⟨rfl, ⟨nd, rfl⟩⟩
  go_wp2_with fail
  refine (iso8601_readByte.calls s6 32 s7 true _ H6.out).mono ?_
  rintro e w' ⟨rfl, ⟨nd, rfl⟩⟩
  go_wp2_with fail
  refine (iso8601_readDigits.calls k s7 2 2 s8 true _ H7.out).mono ?_
  rintro e w' ⟨rfl, ⟨nd, rfl⟩⟩
  go_wp2_with fail
  refine (iso8601_readByte.calls s8 58 s9 true _ H8.out).mono ?_
  rintro e w' ⟨rfl, ⟨nd, rfl⟩⟩
  go_wp2_with fail
  refine (iso8601_readDigits.calls k s9 2 2 s10 true _ H9.out).mono ?_
  rintro e w' ⟨rfl, ⟨nd, rfl⟩⟩
  go_wp2_with fail
  refine (iso8601_readByte.calls s10 58 s11 true _ H10.out).mono ?_
  rintro e w' ⟨rfl, ⟨nd, rfl⟩⟩
  go_wp2_with fail
  refine (iso8601_readDigits.calls k s11 2 2 s12 true _ H11.out).mono ?_
  rintro e w' ⟨rfl, ⟨nd, rfl⟩⟩
  go_wp2_with fail
  refine (iso8601_readByte.calls s12 46 s13 false _ H12.out).mono ?_
  rintro e w' ⟨rfl, ⟨nd, rfl⟩⟩
  go_wp2_with fail
  refine (iso8601_readByte.calls s13 90 s14 false _ H13.out).mono ?_
  rintro e w' ⟨rfl, ⟨nd, rfl⟩⟩
  go_wp2_with fail
  refine (iso8601_readByte.calls s14 32 s15 false _ H14.out).mono ?_
  rintro e w' ⟨rfl, ⟨nd, rfl⟩⟩
  go_wp2_with fail
  refine (iso8601_readByte.calls s15 43 s16 false _ H15.out).mono ?_
  rintro e w' ⟨rfl, ⟨nd, rfl⟩⟩
  go_wp2_with fail
  refine (iso8601_readByte.calls s16 45 s17 false _ H16.out).mono ?_
  rintro e w' ⟨rfl, ⟨nd, rfl⟩⟩
  go_wp2_with fail
  go_ret
  exact ⟨rfl, by repeat (first | exact Drawn0.refl _ | apply Drawn0.step)⟩
set_option maxHeartbeats 2000000 in
set_option maxRecDepth 100000 in
theorem v_zqbn1p (k : Nat) (s0 s1 s2 s3 s4 s5 s6 s7 s8 s9 s10 s11 s12 s13 s14 s15 s16 s17 s18 s19 : ByteArray) (f : Int) (H0 : Aside0 (iso8601_readDigits.f k s0 4 4 = some (s1, true))) (H1 : Aside0 (iso8601_readByte.f s1 45 = some (s2, true))) (H2 : Aside0 (iso8601_readDigits.f k s2 2 2 = some (s3, true))) (H3 : Aside0 (iso8601_readByte.f s3 45 = some (s4, true))) (H4 : Aside0 (iso8601_readDigits.f k s4 2 2 = some (s5, true))) (Z5 : ((s5.size : Int) == 0) = false) (H5 : Aside0 (iso8601_readByte.f s5 84 = some (s6, false))) (F2 : (Go.bits .and .i64 f 2 == 0) = false) (H6 : Aside0 (iso8601_readByte.f s6 32 = some (s7, true))) (H7 : Aside0 (iso8601_readDigits.f k s7 2 2 = some (s8, true))) (H8 : Aside0 (iso8601_readByte.f s8 58 = some (s9, true))) (H9 : Aside0 (iso8601_readDigits.f k s9 2 2 = some (s10, true))) (H10 : Aside0 (iso8601_readByte.f s10 58 = some (s11, true))) (H11 : Aside0 (iso8601_readDigits.f k s11 2 2 = some (s12, true))) (H12 : Aside0 (iso8601_readByte.f s12 46 = some (s13, false))) (F8 : (Go.bits .and .i64 f 8 == 0) = false) (Z13 : ((s13.size : Int) == 0) = false) (H13 : Aside0 (iso8601_readByte.f s13 90 = some (s14, false))) (H14 : Aside0 (iso8601_readByte.f s14 32 = some (s15, false))) (H15 : Aside0 (iso8601_readByte.f s15 43 = some (s16, true))) (H16 : Aside0 (iso8601_readDigits.f k s16 2 2 = some (s17, true))) (H17 : Aside0 (iso8601_readByte.f s17 58 = some (s18, false))) (F32 : (Go.bits .and .i64 f 32 == 0) = false) (H18 : Aside0 (iso8601_readDigits.f k s18 2 2 = some (s19, true))) (Z19 : ((s19.size : Int) == 0) = true) (w : World) :
    Calls Try.prog 59 #[.string s0, .int .i64 f] w fun e w' => e = .returned (.bool true) ∧ Drawn0 w w' := by
  have G2 : (Go.bits .and .i64 f 2 != 0) = true := by simp only [bne, F2]; rfl
  have G8 : (Go.bits .and .i64 f 8 != 0) = true := by simp only [bne, F8]; rfl
  have G32 : (Go.bits .and .i64 f 32 != 0) = true := by simp only [bne, F32]; rfl
  go_enter Try.func59, Try.ntmps59
  go_wp2_with fail
  refine (iso8601_readDigits.calls k s0 4 4 s1 true _ H0.out).mono ?_
  rintro e w' ⟨rfl, ⟨nd, rfl⟩⟩
  go_wp2_with fail
  refine (iso8601_readByte.calls s1 45 s2 true _ H1.out).mono ?_
  rintro e w' ⟨rfl, ⟨nd, rfl⟩⟩
  go_wp2_with fail
  refine (iso8601_readDigits.calls k s2 2 2 s3 true _ H2.out).mono ?_
  rintro e w' ⟨rfl, ⟨nd, rfl⟩⟩
  go_wp2_with fail
  refine (iso8601_readByte.calls s3 45 s4 true _ H3.out).mono ?_
  rintro e w' ⟨rfl, ⟨nd, rfl⟩⟩
  go_wp2_with fail
  refine (iso8601_readDigits.calls k s4 2 2 s5 true _ H4.out).mono ?_
  rintro e w' ⟨rfl, ⟨nd, rfl⟩⟩
  go_wp2_with fail
  refine (iso8601_readByte.calls s5 84 s6 false _ H5.out).mono ?_
  rintro e w' ⟨rfl, ⟨nd, rfl⟩⟩
  go_wp2_with fail
  refine (iso8601_readByte.calls s6 32 s7 true _ H6.out).mono ?_
  rintro e w' ⟨rfl, ⟨nd, rfl⟩⟩
  go_wp2_with fail
  refine (iso8601_readDigits.calls k s7 2 2 s8 true _ H7.out).mono ?_
  rintro e w' ⟨rfl, ⟨nd, rfl⟩⟩
  go_wp2_with fail
  refine (iso8601_readByte.calls s8 58 s9 true _ H8.out).mono ?_
  rintro e w' ⟨rfl, ⟨nd, rfl⟩⟩
  go_wp2_with fail
  refine (iso8601_readDigits.calls k s9 2 2 s10 true _ H9.out).mono ?_
  rintro e w' ⟨rfl, ⟨nd, rfl⟩⟩
  go_wp2_with fail
  refine (iso8601_readByte.calls s10 58 s11 true _ H10.out).mono ?_
  rintro e w' ⟨rfl, ⟨nd, rfl⟩⟩
  go_wp2_with fail
  refine (iso8601_readDigits.calls k s11 2 2 s12 true _ H11.out).mono ?_
  rintro e w' ⟨rfl, ⟨nd, rfl⟩⟩
  go_wp2_with fail
  refine (iso8601_readByte.calls s12 46 s13 false _ H12.out).mono ?_
  rintro e w' ⟨rfl, ⟨nd, rfl⟩⟩
  go_wp2_with fail
  refine (iso8601_readByte.calls s13 90 s14 false _ H13.out).mono ?_
  rintro e w' ⟨rfl, ⟨nd, rfl⟩⟩
  go_wp2_with fail
  refine (iso8601_readByte.calls s14 32 s15 false _ H14.out).mono ?_
  rintro e w' ⟨rfl, ⟨nd, rfl⟩⟩
  go_wp2_with fail
  refine (iso8601_readByte.calls s15 43 s16 true _ H15.out).mono ?_
  rintro e w' ⟨rfl, ⟨nd, rfl⟩⟩
  go_wp2_with fail
  refine (iso8601_readDigits.calls k s16 2 2 s17 true _ H16.out).mono ?_
  rintro e w' ⟨rfl, ⟨nd, rfl⟩⟩
  go_wp2_with fail
  refine (iso8601_readByte.calls s17 58 s18 false _ H17.out).mono ?_
  rintro e w' ⟨rfl, ⟨nd, rfl⟩⟩
  go_wp2_with fail
  refine (iso8601_readDigits.calls k s18 2 2 s19 true _ H18.out).mono ?_
  rintro e w' ⟨rfl, ⟨nd, rfl⟩⟩
  go_wp2_with fail
  go_ret
  exact ⟨rfl, by repeat (first | exact Drawn0.refl _ | apply Drawn0.step)⟩
set_option maxHeartbeats 2000000 in
set_option maxRecDepth 100000 in
theorem v_zqbn1m (k : Nat) (s0 s1 s2 s3 s4 s5 s6 s7 s8 s9 s10 s11 s12 s13 s14 s15 s16 s17 s18 s19 s20 : ByteArray) (f : Int) (H0 : Aside0 (iso8601_readDigits.f k s0 4 4 = some (s1, true))) (H1 : Aside0 (iso8601_readByte.f s1 45 = some (s2, true))) (H2 : Aside0 (iso8601_readDigits.f k s2 2 2 = some (s3, true))) (H3 : Aside0 (iso8601_readByte.f s3 45 = some (s4, true))) (H4 : Aside0 (iso8601_readDigits.f k s4 2 2 = some (s5, true))) (Z5 : ((s5.size : Int) == 0) = false) (H5 : Aside0 (iso8601_readByte.f s5 84 = some (s6, false))) (F2 : (Go.bits .and .i64 f 2 == 0) = false) (H6 : Aside0 (iso8601_readByte.f s6 32 = some (s7, true))) (H7 : Aside0 (iso8601_readDigits.f k s7 2 2 = some (s8, true))) (H8 : Aside0 (iso8601_readByte.f s8 58 = some (s9, true))) (H9 : Aside0 (iso8601_readDigits.f k s9 2 2 = some (s10, true))) (H10 : Aside0 (iso8601_readByte.f s10 58 = some (s11, true))) (H11 : Aside0 (iso8601_readDigits.f k s11 2 2 = some (s12, true))) (H12 : Aside0 (iso8601_readByte.f s12 46 = some (s13, false))) (F8 : (Go.bits .and .i64 f 8 == 0) = false) (Z13 : ((s13.size : Int) == 0) = false) (H13 : Aside0 (iso8601_readByte.f s13 90 = some (s14, false))) (H14 : Aside0 (iso8601_readByte.f s14 32 = some (s15, false))) (H15 : Aside0 (iso8601_readByte.f s15 43 = some (s16, false))) (H16 : Aside0 (iso8601_readByte.f s16 45 = some (s17, true))) (H17 : Aside0 (iso8601_readDigits.f k s17 2 2 = some (s18, true))) (H18 : Aside0 (iso8601_readByte.f s18 58 = some (s19, false))) (F32 : (Go.bits .and .i64 f 32 == 0) = false) (H19 : Aside0 (iso8601_readDigits.f k s19 2 2 = some (s20, true))) (Z20 : ((s20.size : Int) == 0) = true) (w : World) :
    Calls Try.prog 59 #[.string s0, .int .i64 f] w fun e w' => e = .returned (.bool true) ∧ Drawn0 w w' := by
  have G2 : (Go.bits .and .i64 f 2 != 0) = true := by simp only [bne, F2]; rfl
  have G8 : (Go.bits .and .i64 f 8 != 0) = true := by simp only [bne, F8]; rfl
  have G32 : (Go.bits .and .i64 f 32 != 0) = true := by simp only [bne, F32]; rfl
  go_enter Try.func59, Try.ntmps59
  go_wp2_with fail
  refine (iso8601_readDigits.calls k s0 4 4 s1 true _ H0.out).mono ?_
  rintro e w' ⟨rfl, ⟨nd, rfl⟩⟩
  go_wp2_with fail
  refine (iso8601_readByte.calls s1 45 s2 true _ H1.out).mono ?_
  rintro e w' ⟨rfl, ⟨nd, rfl⟩⟩
  go_wp2_with fail
  refine (iso8601_readDigits.calls k s2 2 2 s3 true _ H2.out).mono ?_
  rintro e w' ⟨rfl, ⟨nd, rfl⟩⟩
  go_wp2_with fail
  refine (iso8601_readByte.calls s3 45 s4 true _ H3.out).mono ?_
  rintro e w' ⟨rfl, ⟨nd, rfl⟩⟩
  go_wp2_with fail
  refine (iso8601_readDigits.calls k s4 2 2 s5 true _ H4.out).mono ?_
  rintro e w' ⟨rfl, ⟨nd, rfl⟩⟩
  go_wp2_with fail
  refine (iso8601_readByte.calls s5 84 s6 false _ H5.out).mono ?_
  rintro e w' ⟨rfl, ⟨nd, rfl⟩⟩
  go_wp2_with fail
  refine (iso8601_readByte.calls s6 32 s7 true _ H6.out).mono ?_
  rintro e w' ⟨rfl, ⟨nd, rfl⟩⟩
  go_wp2_with fail
  refine (iso8601_readDigits.calls k s7 2 2 s8 true _ H7.out).mono ?_
  rintro e w' ⟨rfl, ⟨nd, rfl⟩⟩
  go_wp2_with fail
  refine (iso8601_readByte.calls s8 58 s9 true _ H8.out).mono ?_
  rintro e w' ⟨rfl, ⟨nd, rfl⟩⟩
  go_wp2_with fail
  refine (iso8601_readDigits.calls k s9 2 2 s10 true _ H9.out).mono ?_
  rintro e w' ⟨rfl, ⟨nd, rfl⟩⟩
  go_wp2_with fail
  refine (iso8601_readByte.calls s10 58 s11 true _ H10.out).mono ?_
  rintro e w' ⟨rfl, ⟨nd, rfl⟩⟩
  go_wp2_with fail
  refine (iso8601_readDigits.calls k s11 2 2 s12 true _ H11.out).mono ?_
  rintro e w' ⟨rfl, ⟨nd, rfl⟩⟩
  go_wp2_with fail
  refine (iso8601_readByte.calls s12 46 s13 false _ H12.out).mono ?_
  rintro e w' ⟨rfl, ⟨nd, rfl⟩⟩
  go_wp2_with fail
  refine (iso8601_readByte.calls s13 90 s14 false _ H13.out).mono ?_
  rintro e w' ⟨rfl, ⟨nd, rfl⟩⟩
  go_wp2_with fail
  refine (iso8601_readByte.calls s14 32 s15 false _ H14.out).mono ?_
  rintro e w' ⟨rfl, ⟨nd, rfl⟩⟩
  go_wp2_with fail
  refine (iso8601_readByte.calls s15 43 s16 false _ H15.out).mono ?_
  rintro e w' ⟨rfl, ⟨nd, rfl⟩⟩
  go_wp2_with fail
  refine (iso8601_readByte.calls s16 45 s17 true _ H16.out).mono ?_
  rintro e w' ⟨rfl, ⟨nd, rfl⟩⟩
  go_wp2_with fail
  refine (iso8601_readDigits.calls k s17 2 2 s18 true _ H17.out).mono ?_
  rintro e w' ⟨rfl, ⟨nd, rfl⟩⟩
  go_wp2_with fail
  refine (iso8601_readByte.calls s18 58 s19 false _ H18.out).mono ?_
  rintro e w' ⟨rfl, ⟨nd, rfl⟩⟩
  go_wp2_with fail
  refine (iso8601_readDigits.calls k s19 2 2 s20 true _ H19.out).mono ?_
  rintro e w' ⟨rfl, ⟨nd, rfl⟩⟩
  go_wp2_with fail
  go_ret
  exact ⟨rfl, by repeat (first | exact Drawn0.refl _ | apply Drawn0.step)⟩
set_option maxHeartbeats 2000000 in
set_option maxRecDepth 100000 in
theorem v_zn3bf (k : Nat) (s0 s1 s2 s3 s4 s5 s6 s7 s8 s9 s10 s11 s12 s13 s14 s15 s16 s17 s18 : ByteArray) (f : Int) (H0 : Aside0 (iso8601_readDigits.f k s0 4 4 = some (s1, true))) (H1 : Aside0 (iso8601_readByte.f s1 45 = some (s2, true))) (H2 : Aside0 (iso8601_readDigits.f k s2 2 2 = some (s3, true))) (H3 : Aside0 (iso8601_readByte.f s3 45 = some (s4, true))) (H4 : Aside0 (iso8601_readDigits.f k s4 2 2 = some (s5, true))) (Z5 : ((s5.size : Int) == 0) = false) (H5 : Aside0 (iso8601_readByte.f s5 84 = some (s6, false))) (F2 : (Go.bits .and .i64 f 2 == 0) = false) (H6 : Aside0 (iso8601_readByte.f s6 32 = some (s7, true))) (H7 : Aside0 (iso8601_readDigits.f k s7 2 2 = some (s8, true))) (H8 : Aside0 (iso8601_readByte.f s8 58 = some (s9, true))) (H9 : Aside0 (iso8601_readDigits.f k s9 2 2 = some (s10, true))) (H10 : Aside0 (iso8601_readByte.f s10 58 = some (s11, true))) (H11 : Aside0 (iso8601_readDigits.f k s11 2 2 = some (s12, true))) (H12 : Aside0 (iso8601_readByte.f s12 46 = some (s13, true))) (H13 : Aside0 (iso8601_readDigits.f k s13 1 9 = some (s14, true))) (Z14 : ((s14.size : Int) == 0) = true) (F16 : (Go.bits .and .i64 f 16 == 0) = true) (H14 : Aside0 (iso8601_readByte.f s14 90 = some (s15, false))) (H15 : Aside0 (iso8601_readByte.f s15 32 = some (s16, false))) (H16 : Aside0 (iso8601_readByte.f s16 43 = some (s17, false))) (H17 : Aside0 (iso8601_readByte.f s17 45 = some (s18, false))) (w : World) :
    Calls Try.prog 59 #[.string s0, .int .i64 f] w fun e w' => e = .returned (.bool false) ∧ Drawn0 w w' := by
  have G2 : (Go.bits .and .i64 f 2 != 0) = true := by simp only [bne, F2]; rfl
  have G16 : (Go.bits .and .i64 f 16 != 0) = false := by simp only [bne, F16]; rfl
  go_enter Try.func59, Try.ntmps59
  go_wp2_with fail
  refine (iso8601_readDigits.calls k s0 4 4 s1 true _ H0.out).mono ?_
  rintro e w' ⟨rfl, ⟨nd, rfl⟩⟩
  go_wp2_with fail
  refine (iso8601_readByte.calls s1 45 s2 true _ H1.out).mono ?_
  rintro e w' ⟨rfl, ⟨nd, rfl⟩⟩
  go_wp2_with fail
  refine (iso8601_readDigits.calls k s2 2 2 s3 true _ H2.out).mono ?_
  rintro e w' ⟨rfl, ⟨nd, rfl⟩⟩
  go_wp2_with fail
  refine (iso8601_readByte.calls s3 45 s4 true _ H3.out).mono ?_
  rintro e w' ⟨rfl, ⟨nd, rfl⟩⟩
  go_wp2_with fail
  refine (iso8601_readDigits.calls k s4 2 2 s5 true _ H4.out).mono ?_
  rintro e w' ⟨rfl, ⟨nd, rfl⟩⟩
  go_wp2_with fail
  refine (iso8601_readByte.calls s5 84 s6 false _ H5.out).mono ?_
  rintro e w' ⟨rfl, ⟨nd, rfl⟩⟩
  go_wp2_with fail
  refine (iso8601_readByte.calls s6 32 s7 true _ H6.out).mono ?_
  rintro e w' ⟨rfl, ⟨nd, rfl⟩⟩
  go_wp2_with fail
  refine (iso8601_readDigits.calls k s7 2 2 s8 true _ H7.out).mono ?_
  rintro e w' ⟨rfl, ⟨nd, rfl⟩⟩
  go_wp2_with fail
  refine (iso8601_readByte.calls s8 58 s9 true _ H8.out).mono ?_
  rintro e w' ⟨rfl, ⟨nd, rfl⟩⟩
  go_wp2_with fail
  refine (iso8601_readDigits.calls k s9 2 2 s10 true _ H9.out).mono ?_
  rintro e w' ⟨rfl, ⟨nd, rfl⟩⟩
  go_wp2_with fail
  refine (iso8601_readByte.calls s10 58 s11 true _ H10.out).mono ?_
  rintro e w' ⟨rfl, ⟨nd, rfl⟩⟩
  go_wp2_with fail
  refine (iso8601_readDigits.calls k s11 2 2 s12 true _ H11.out).mono ?_
  rintro e w' ⟨rfl, ⟨nd, rfl⟩⟩
  go_wp2_with fail
  refine (iso8601_readByte.calls s12 46 s13 true _ H12.out).mono ?_
  rintro e w' ⟨rfl, ⟨nd, rfl⟩⟩
  go_wp2_with fail
  refine (iso8601_readDigits.calls k s13 1 9 s14 true _ H13.out).mono ?_
  rintro e w' ⟨rfl, ⟨nd, rfl⟩⟩
  go_wp2_with fail
  refine (iso8601_readByte.calls s14 90 s15 false _ H14.out).mono ?_
  rintro e w' ⟨rfl, ⟨nd, rfl⟩⟩
  go_wp2_with fail
  refine (iso8601_readByte.calls s15 32 s16 false _ H15.out).mono ?_
  rintro e w' ⟨rfl, ⟨nd, rfl⟩⟩
  go_wp2_with fail
  refine (iso8601_readByte.calls s16 43 s17 false _ H16.out).mono ?_
  rintro e w' ⟨rfl, ⟨nd, rfl⟩⟩
  go_wp2_with fail
  refine (iso8601_readByte.calls s17 45 s18 false _ H17.out).mono ?_
  rintro e w' ⟨rfl, ⟨nd, rfl⟩⟩
  go_wp2_with fail
  go_ret
  exact ⟨rfl, by repeat (first | exact Drawn0.refl _ | apply Drawn0.step)⟩
set_option maxHeartbeats 2000000 in
set_option maxRecDepth 100000 in
theorem v_zqbf1p (k : Nat) (s0 s1 s2 s3 s4 s5 s6 s7 s8 s9 s10 s11 s12 s13 s14 s15 s16 s17 s18 s19 s20 : ByteArray) (f : Int) (H0 : Aside0 (iso8601_readDigits.f k s0 4 4 = some (s1, true))) (H1 : Aside0 (iso8601_readByte.f s1 45 = some (s2, true))) (H2 : Aside0 (iso8601_readDigits.f k s2 2 2 = some (s3, true))) (H3 : Aside0 (iso8601_readByte.f s3 45 = some (s4, true))) (H4 : Aside0 (iso8601_readDigits.f k s4 2 2 = some (s5, true))) (Z5 : ((s5.size : Int) == 0) = false) (H5 : Aside0 (iso8601_readByte.f s5 84 = some (s6, false))) (F2 : (Go.bits .and .i64 f 2 == 0) = false) (H6 : Aside0 (iso8601_readByte.f s6 32 = some (s7, true))) (H7 : Aside0 (iso8601_readDigits.f k s7 2 2 = some (s8, true))) (H8 : Aside0 (iso8601_readByte.f s8 58 = some (s9, true))) (H9 : Aside0 (iso8601_readDigits.f k s9 2 2 = some (s10, true))) (H10 : Aside0 (iso8601_readByte.f s10 58 = some (s11, true))) (H11 : Aside0 (iso8601_readDigits.f k s11 2 2 = some (s12, true))) (H12 : Aside0 (iso8601_readByte.f s12 46 = some (s13, true))) (H13 : Aside0 (iso8601_readDigits.f k s13 1 9 = some (s14, true))) (Z14 : ((s14.size : Int) == 0) = false) (H14 : Aside0 (iso8601_readByte.f s14 90 = some (s15, false))) (H15 : Aside0 (iso8601_readByte.f s15 32 = some (s16, false))) (H16 : Aside0 (iso8601_readByte.f s16 43 = some (s17, true))) (H17 : Aside0 (iso8601_readDigits.f k s17 2 2 = some (s18, true))) (H18 : Aside0 (iso8601_readByte.f s18 58 = some (s19, false))) (F32 : (Go.bits .and .i64 f 32 == 0) = false) (H19 : Aside0 (iso8601_readDigits.f k s19 2 2 = some (s20, true))) (Z20 : ((s20.size : Int) == 0) = true) (w : World) :
    Calls Try.prog 59 #[.string s0, .int .i64 f] w fun e w' => e = .returned (.bool true) ∧ Drawn0 w w' := by
  have G2 : (Go.bits .and .i64 f 2 != 0) = true := by simp only [bne, F2]; rfl
  have G32 : (Go.bits .and .i64 f 32 != 0) = true := by simp only [bne, F32]; rfl
  go_enter Try.func59, Try.ntmps59
  go_wp2_with fail
  refine (iso8601_readDigits.calls k s0 4 4 s1 true _ H0.out).mono ?_
  rintro e w' ⟨rfl, ⟨nd, rfl⟩⟩
  go_wp2_with fail
  refine (iso8601_readByte.calls s1 45 s2 true _ H1.out).mono ?_
  rintro e w' ⟨rfl, ⟨nd, rfl⟩⟩
  go_wp2_with fail
  refine (iso8601_readDigits.calls k s2 2 2 s3 true _ H2.out).mono ?_
  rintro e w' ⟨rfl, ⟨nd, rfl⟩⟩
  go_wp2_with fail
  refine (iso8601_readByte.calls s3 45 s4 true _ H3.out).mono ?_
  rintro e w' ⟨rfl, ⟨nd, rfl⟩⟩
  go_wp2_with fail
  refine (iso8601_readDigits.calls k s4 2 2 s5 true _ H4.out).mono ?_
  rintro e w' ⟨rfl, ⟨nd, rfl⟩⟩
  go_wp2_with fail
  refine (iso8601_readByte.calls s5 84 s6 false _ H5.out).mono ?_
  rintro e w' ⟨rfl, ⟨nd, rfl⟩⟩
  go_wp2_with fail
  refine (iso8601_readByte.calls s6 32 s7 true _ H6.out).mono ?_
  rintro e w' ⟨rfl, ⟨nd, rfl⟩⟩
  go_wp2_with fail
  refine (iso8601_readDigits.calls k s7 2 2 s8 true _ H7.out).mono ?_
  rintro e w' ⟨rfl, ⟨nd, rfl⟩⟩
  go_wp2_with fail
  refine (iso8601_readByte.calls s8 58 s9 true _ H8.out).mono ?_
  rintro e w' ⟨rfl, ⟨nd, rfl⟩⟩
  go_wp2_with fail
  refine (iso8601_readDigits.calls k s9 2 2 s10 true _ H9.out).mono ?_
  rintro e w' ⟨rfl, ⟨nd, rfl⟩⟩
  go_wp2_with fail
  refine (iso8601_readByte.calls s10 58 s11 true _ H10.out).mono ?_
  rintro e w' ⟨rfl, ⟨nd, rfl⟩⟩
  go_wp2_with fail
  refine (iso8601_readDigits.calls k s11 2 2 s12 true _ H11.out).mono ?_
  rintro e w' ⟨rfl, ⟨nd, rfl⟩⟩
  go_wp2_with fail
  refine (iso8601_readByte.calls s12 46 s13 true _ H12.out).mono ?_
  rintro e w' ⟨rfl, ⟨nd, rfl⟩⟩
  go_wp2_with fail
  refine (iso8601_readDigits.calls k s13 1 9 s14 true _ H13.out).mono ?_
  rintro e w' ⟨rfl, ⟨nd, rfl⟩⟩
  go_wp2_with fail
  refine (iso8601_readByte.calls s14 90 s15 false _ H14.out).mono ?_
  rintro e w' ⟨rfl, ⟨nd, rfl⟩⟩
  go_wp2_with fail
  refine (iso8601_readByte.calls s15 32 s16 false _ H15.out).mono ?_
  rintro e w' ⟨rfl, ⟨nd, rfl⟩⟩
  go_wp2_with fail
  refine (iso8601_readByte.calls s16 43 s17 true _ H16.out).mono ?_
  rintro e w' ⟨rfl, ⟨nd, rfl⟩⟩
  go_wp2_with fail
  refine (iso8601_readDigits.calls k s17 2 2 s18 true _ H17.out).mono ?_
  rintro e w' ⟨rfl, ⟨nd, rfl⟩⟩
  go_wp2_with fail
  refine (iso8601_readByte.calls s18 58 s19 false _ H18.out).mono ?_
  rintro e w' ⟨rfl, ⟨nd, rfl⟩⟩
  go_wp2_with fail
  refine (iso8601_readDigits.calls k s19 2 2 s20 true _ H19.out).mono ?_
  rintro e w' ⟨rfl, ⟨nd, rfl⟩⟩
  go_wp2_with fail
  go_ret
  exact ⟨rfl, by repeat (first | exact Drawn0.refl _ | apply Drawn0.step)⟩
set_option maxHeartbeats 2000000 in
set_option maxRecDepth 100000 in
theorem v_zqbf1m (k : Nat) (s0 s1 s2 s3 s4 s5 s6 s7 s8 s9 s10 s11 s12 s13 s14 s15 s16 s17 s18 s19 s20 s21 : ByteArray) (f : Int) (H0 : Aside0 (iso8601_readDigits.f k s0 4 4 = some (s1, true))) (H1 : Aside0 (iso8601_readByte.f s1 45 = some (s2, true))) (H2 : Aside0 (iso8601_readDigits.f k s2 2 2 = some (s3, true))) (H3 : Aside0 (iso8601_readByte.f s3 45 = some (s4, true))) (H4 : Aside0 (iso8601_readDigits.f k s4 2 2 = some (s5, true))) (Z5 : ((s5.size : Int) == 0) = false) (H5 : Aside0 (iso8601_readByte.f s5 84 = some (s6, false))) (F2 : (Go.bits .and .i64 f 2 == 0) = false) (H6 : Aside0 (iso8601_readByte.f s6 32 = some (s7, true))) (H7 : Aside0 (iso8601_readDigits.f k s7 2 2 = some (s8, true))) (H8 : Aside0 (iso8601_readByte.f s8 58 = some (s9, true))) (H9 : Aside0 (iso8601_readDigits.f k s9 2 2 = some (s10, true))) (H10 : Aside0 (iso8601_readByte.f s10 58 = some (s11, true))) (H11 : Aside0 (iso8601_readDigits.f k s11 2 2 = some (s12, true))) (H12 : Aside0 (iso8601_readByte.f s12 46 = some (s13, true))) (H13 : Aside0 (iso8601_readDigits.f k s13 1 9 = some (s14, true))) (Z14 : ((s14.size : Int) == 0) = false) (H14 : Aside0 (iso8601_readByte.f s14 90 = some (s15, false))) (H15 : Aside0 (iso8601_readByte.f s15 32 = some (s16, false))) (H16 : Aside0 (iso8601_readByte.f s16 43 = some (s17, false))) (H17 : Aside0 (iso8601_readByte.f s17 45 = some (s18, true))) (H18 : Aside0 (iso8601_readDigits.f k s18 2 2 = some (s19, true))) (H19 : Aside0 (iso8601_readByte.f s19 58 = some (s20, false))) (F32 : (Go.bits .and .i64 f 32 == 0) = false) (H20 : Aside0 (iso8601_readDigits.f k s20 2 2 = some (s21, true))) (Z21 : ((s21.size : Int) == 0) = true) (w : World) :
    Calls Try.prog 59 #[.string s0, .int .i64 f] w fun e w' => e = .returned (.bool true) ∧ Drawn0 w w' := by
  have G2 : (Go.bits .and .i64 f 2 != 0) = true := by simp only [bne, F2]; rfl
  have G32 : (Go.bits .and .i64 f 32 != 0) = true := by simp only [bne, F32]; rfl
  go_enter Try.func59, Try.ntmps59
  go_wp2_with fail
  refine (iso8601_readDigits.calls k s0 4 4 s1 true _ H0.out).mono ?_
  rintro e w' ⟨rfl, ⟨nd, rfl⟩⟩
  go_wp2_with fail
  refine (iso8601_readByte.calls s1 45 s2 true _ H1.out).mono ?_
  rintro e w' ⟨rfl, ⟨nd, rfl⟩⟩
  go_wp2_with fail
  refine (iso8601_readDigits.calls k s2 2 2 s3 true _ H2.out).mono ?_
  rintro e w' ⟨rfl, ⟨nd, rfl⟩⟩
  go_wp2_with fail
  refine (iso8601_readByte.calls s3 45 s4 true _ H3.out).mono ?_
  rintro e w' ⟨rfl, ⟨nd, rfl⟩⟩
  go_wp2_with fail
  refine (iso8601_readDigits.calls k s4 2 2 s5 true _ H4.out).mono ?_
  rintro e w' ⟨rfl, ⟨nd, rfl⟩⟩
  go_wp2_with fail
  refine (iso8601_readByte.calls s5 84 s6 false _ H5.out).mono ?_
  rintro e w' ⟨rfl, ⟨nd, rfl⟩⟩
  go_wp2_with fail
  refine (iso8601_readByte.calls s6 32 s7 true _ H6.out).mono ?_
  rintro e w' ⟨rfl, ⟨nd, rfl⟩⟩
  go_wp2_with fail
  refine (iso8601_readDigits.calls k s7 2 2 s8 true _ H7.out).mono ?_
  rintro e w' ⟨rfl, ⟨nd, rfl⟩⟩
  go_wp2_with fail
  refine (iso8601_readByte.calls s8 58 s9 true _ H8.out).mono ?_
  rintro e w' ⟨rfl, ⟨nd, rfl⟩⟩
  go_wp2_with fail
  refine (iso8601_readDigits.calls k s9 2 2 s10 true _ H9.out).mono ?_
  rintro e w' ⟨rfl, ⟨nd, rfl⟩⟩
  go_wp2_with fail
  refine (iso8601_readByte.calls s10 58 s11 true _ H10.out).mono ?_
  rintro e w' ⟨rfl, ⟨nd, rfl⟩⟩
  go_wp2_with fail
  refine (iso8601_readDigits.calls k s11 2 2 s12 true _ H11.out).mono ?_
  rintro e w' ⟨rfl, ⟨nd, rfl⟩⟩
  go_wp2_with fail
  refine (iso8601_readByte.calls s12 46 s13 true _ H12.out).mono ?_
  rintro e w' ⟨rfl, ⟨nd, rfl⟩⟩
  go_wp2_with fail
  refine (iso8601_readDigits.calls k s13 1 9 s14 true _ H13.out).mono ?_
  rintro e w' ⟨rfl, ⟨nd, rfl⟩⟩
  go_wp2_with fail
  refine (iso8601_readByte.calls s14 90 s15 false _ H14.out).mono ?_
  rintro e w' ⟨rfl, ⟨nd, rfl⟩⟩
  go_wp2_with fail
  refine (iso8601_readByte.calls s15 32 s16 false _ H15.out).mono ?_
  rintro e w' ⟨rfl, ⟨nd, rfl⟩⟩
  go_wp2_with fail
  refine (iso8601_readByte.calls s16 43 s17 false _ H16.out).mono ?_
  rintro e w' ⟨rfl, ⟨nd, rfl⟩⟩
  go_wp2_with fail
  refine (iso8601_readByte.calls s17 45 s18 true _ H17.out).mono ?_
  rintro e w' ⟨rfl, ⟨nd, rfl⟩⟩
  go_wp2_with fail
  refine (iso8601_readDigits.calls k s18 2 2 s19 true _ H18.out).mono ?_
  rintro e w' ⟨rfl, ⟨nd, rfl⟩⟩
  go_wp2_with fail
  refine (iso8601_readByte.calls s19 58 s20 false _ H19.out).mono ?_
  rintro e w' ⟨rfl, ⟨nd, rfl⟩⟩
  go_wp2_with fail
  refine (iso8601_readDigits.calls k s20 2 2 s21 true _ H20.out).mono ?_
  rintro e w' ⟨rfl, ⟨nd, rfl⟩⟩
  go_wp2_with fail
  go_ret
  exact ⟨rfl, by repeat (first | exact Drawn0.refl _ | apply Drawn0.step)⟩
end Go.Proofs.Ytmhngpihkaignaa.IoWalk
