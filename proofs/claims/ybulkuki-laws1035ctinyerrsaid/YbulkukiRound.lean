/-
  Seat b1035a: the walk of roundFastNormal (18), out of what its float operations give.
-/
import Derived.Test.YbulkukiLdexp
namespace Go.Proofs.Ybulkuki
open Go.RowKit Ieee

set_option maxRecDepth 100000 in
set_option maxHeartbeats 400000 in
theorem round_any (hi lo r e d y d2 y2 : Nat) (m : Int) (w : World) (hhi : hi < 18446744073709551616)
    (h1 : floatBits .mul .f64 r (rungOf hi) = some e) (h2 : floatBits .sub .f64 lo e = some d) (h3 : floatBits .add .f64 hi d = some y)
    (h4 : floatBits .add .f64 lo e = some d2) (h5 : floatBits .add .f64 hi d2 = some y2) (h6 : (FloatKind.f64.format.order y y2 != some .eq) = false) :
    Calls Yba.prog 18 #[.float .f64 hi, .float .f64 lo, .int .i64 m, .float .f64 r] w fun e w' => e = .returned (.tuple #[.float .f64 (sc y m), .bool true]) ∧ w' = w := by
  have k1 := fun w => run_float_arith (P := Yba.prog) w .mul 34 .f64 _ _ _ h1
  have k2 := fun w => run_float_arith (P := Yba.prog) w .sub 34 .f64 _ _ _ h2
  have k3 := fun w => run_float_arith (P := Yba.prog) w .add 34 .f64 _ _ _ h3
  have k4 := fun w => run_float_arith (P := Yba.prog) w .add 34 .f64 _ _ _ h4
  have k5 := fun w => run_float_arith (P := Yba.prog) w .add 34 .f64 _ _ _ h5
  clear h1 h2 h3 h4 h5
  go_enter Yba.func18, Yba.ntmps18
  go_wp2_with (first | (go_at_call 25; refine (abs_any hi _ hhi).mono ?_; rintro e w' ⟨rfl, rfl⟩) | (go_at_call 26; refine (scale_any y m _).mono ?_; rintro e w' ⟨rfl, rfl⟩))
  go_ret2
  exact ⟨rfl, rfl⟩

/-- A finite word: its exponent field is not full. -/
theorem fin_of_ex {x : Nat} (h : ex x ≠ 2047) : Fin64 x := by
  unfold ex at h
  unfold Fin64 rungOf
  omega

theorem ord_eq_self {s : Nat} (h : Fin64 s) : (FloatKind.f64.format.order s s == some .eq) = true := by
  rw [fmt64, order_self s h]
  rfl

set_option maxRecDepth 100000 in
set_option maxHeartbeats 400000 in
theorem exactSum_go (hi lo s : Nat) (m : Int) (w : World) (hhi : hi < 18446744073709551616) (hlo : lo < 18446744073709551616) (m0 : -4096 ≤ m) (m1 : m ≤ 4096)
    (fhi : ex hi ≠ 2047) (flo : ex lo ≠ 2047) (hs : double.add hi lo = some s) (sl : s < 18446744073709551616) (s1 : 1 ≤ ex s) (s2 : ex s ≤ 2046) (s3 : 1 ≤ ex s + m) (s4 : ex s + m ≤ 2046) (hne : sval hi + sval lo ≠ 0) :
    Calls Yba.prog 8 #[.float .f64 hi, .float .f64 lo, .int .i64 m] w fun e w' => e = .returned (.bool true) ∧ w' = w := by
  have F1 : Hid (Fin64 hi) := fin_of_ex fhi
  have F2 : Hid (Fin64 lo) := fin_of_ex flo
  have q1 : (ex hi == 2047) = false := beq_eq_false_iff_ne.2 fhi
  have q2 : (ex lo == 2047) = false := beq_eq_false_iff_ne.2 flo
  clear fhi flo
  have hN := norm_of s sl s1 s2
  have hS := sc_norm s m sl s3 s4
  have oe := ord_eq_self (s := sc s m) hS.2.2
  obtain ⟨d2, a2, f2, v2⟩ := add_zero lo F2.out hlo
  have a5 : double.add hi d2 = some s := by rw [← add_congr F1.out F2.out f2 v2.symm hne]; exact hs
  have a1 : double.mul 0 (rungOf hi) = some 0 := zero_mul_fin _ (by have := F1.out; unfold Fin64 at this ⊢; rw [rung_rung]; exact this) (neg_rung hi)
  have C : ∀ w : World, Calls Yba.prog 18 #[.float .f64 hi, .float .f64 lo, .int .i64 m, .float .f64 0] w fun e w' => e = .returned (.tuple #[.float .f64 (sc s m), .bool true]) ∧ w' = w :=
    fun w => round_any hi lo 0 0 lo s d2 s m w hhi a1 (sub_zero lo F2.out hlo) hs a2 a5 (ord_self hN.2.2)
  have k0 := fun w => run_float_arith (P := Yba.prog) w .add 34 .f64 hi lo s hs
  clear hne a1 a2 a5 hs v2 f2
  go_enter Yba.func8, Yba.ntmps8
  go_wp2_with (first | (go_at_call 17; refine (cexp_any _ _ ?_).mono ?_; (case refine_1 => first | exact hhi | exact hlo | exact sl); rintro e w' ⟨rfl, rfl⟩) | (go_at_call 18; refine (C _).mono ?_; rintro e w' ⟨rfl, rfl⟩) | (go_at_call 19; refine (Ldexp_norm s m _ hN m0 m1 s3 s4).mono ?_; rintro e w' ⟨rfl, rfl⟩))
  go_ret
  exact ⟨rfl, rfl⟩
end Go.Proofs.Ybulkuki
