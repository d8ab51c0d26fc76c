/-
  Seat b1035a: the walk of math.Ldexp (19) where the number and the result are normal: IsInf (30), IsNaN (31), normalize (32), ldexp (28).
-/
import Derived.Test.YbulkukiFwalk
namespace Go.Proofs.Ybulkuki
open Go.RowKit Ieee

theorem fmt64 : FloatKind.f64.format = double := rfl

/-- A normal word. -/
def Norm (s : Nat) : Prop := s < 18446744073709551616 ∧ 4503599627370496 ≤ rungOf s ∧ rungOf s < 9218868437227405312

theorem norm_of (s : Nat) (h : s < 18446744073709551616) (h1 : 1 ≤ ex s) (h2 : ex s ≤ 2046) : Norm s := by
  unfold ex at h1 h2
  unfold Norm rungOf
  omega

theorem rung_rung (s : Nat) : rungOf (rungOf s) = rungOf s := by unfold rungOf; omega
theorem neg_rung (s : Nat) : negOf (rungOf s) = false := by
  unfold negOf rungOf
  have : s % 9223372036854775808 / 9223372036854775808 = 0 := by omega
  rw [this]
  rfl

theorem ord_max {s : Nat} (h : Norm s) : (FloatKind.f64.format.order (rungOf s) 9218868437227405311 == some .gt) = false := by
  obtain ⟨h0, h1, h2⟩ := h
  rw [fmt64, order_pos _ _ (by unfold Fin64; rw [rung_rung]; exact h2) (by unfold Fin64 rungOf; decide) (neg_rung s) (by decide), rung_rung]
  apply cmp_not_gt
  have : val (rungOf s) ≤ val (rungOf 9218868437227405311) := val_mono (by show rungOf s ≤ 9218868437227405311; omega)
  omega
theorem ord_min {s : Nat} (h : Norm s) : (FloatKind.f64.format.order (rungOf s) 4503599627370496 == some .lt) = false := by
  obtain ⟨h0, h1, h2⟩ := h
  rw [fmt64, order_pos _ _ (by unfold Fin64; rw [rung_rung]; exact h2) (by unfold Fin64 rungOf; decide) (neg_rung s) (by decide), rung_rung]
  apply cmp_not_lt
  have : val (rungOf 4503599627370496) ≤ val (rungOf s) := val_mono (by show 4503599627370496 ≤ rungOf s; omega)
  omega
theorem ord_zero {s : Nat} (h : Norm s) : (FloatKind.f64.format.order s 0 == some .eq) = false := by
  obtain ⟨h0, h1, h2⟩ := h
  rw [fmt64, order_fin s 0 h2 fin_zero, sval_zero]
  apply cmp_not_eq
  intro he
  have := sval_eq_zero he
  omega
theorem ord_self {s : Nat} (h : Fin64 s) : (FloatKind.f64.format.order s s != some .eq) = false := by
  rw [fmt64, order_self s h]
  rfl

set_option maxRecDepth 100000 in
set_option maxHeartbeats 400000 in
theorem isInf_no (s : Nat) (w : World) (h : Norm s) :
    Calls Yba.prog 30 #[.float .f64 s, .int .i64 0] w fun e w' => e = .returned (.bool false) ∧ w' = w := by
  have o := ord_max h
  go_enter Yba.func30, Yba.ntmps30
  go_wp2_with (go_at_call 20; refine (Abs_any s _ h.1).mono ?_; rintro e w' ⟨rfl, rfl⟩)
  go_ret
  exact ⟨rfl, rfl⟩

set_option maxRecDepth 100000 in
set_option maxHeartbeats 400000 in
theorem isNaN_no (s : Nat) (w : World) (h : Fin64 s) :
    Calls Yba.prog 31 #[.float .f64 s] w fun e w' => e = .returned (.bool false) ∧ w' = w := by
  have o := ord_self h
  go_enter Yba.func31, Yba.ntmps31
  go_wp2
  go_ret
  exact ⟨rfl, rfl⟩

set_option maxRecDepth 100000 in
set_option maxHeartbeats 400000 in
theorem normalize_no (s : Nat) (w : World) (h : Norm s) :
    Calls Yba.prog 32 #[.float .f64 s] w fun e w' => e = .returned (.tuple #[.float .f64 s, .int .i64 0]) ∧ w' = w := by
  have o := ord_min h
  go_enter Yba.func32, Yba.ntmps32
  go_wp2_with (go_at_call 20; refine (Abs_any s _ h.1).mono ?_; rintro e w' ⟨rfl, rfl⟩)
  go_ret2
  exact ⟨rfl, rfl⟩

theorem ex_form2 (x : Nat) (h : x < 18446744073709551616) : bits .and .i64 ((x : Int) / 4503599627370496) 2047 = ex x := by
  have e : (x : Int) / 4503599627370496 = ((x / 4503599627370496 : Nat) : Int) := by omega
  have := (bits_nat .i64 63 (by decide) (fun n a b => by rw [IntKind.wrap_i64]; omega) (x / 4503599627370496) 2047 (by omega) (by decide)).1
  rw [show ((2047 : Nat) : Int) = 2047 from rfl] at this
  rw [e, this, show (2047 : Nat) = 2 ^ 11 - 1 from rfl, Nat.and_two_pow_sub_one_eq_mod]
  rfl

theorem sc_is (s : Nat) (m : Int) (hs : s < 18446744073709551616) (h1 : 1 ≤ ex s + m) (h2 : ex s + m ≤ 2046) :
    sc s m = s / 9223372036854775808 * 9223372036854775808 + (ex s + m).toNat * 4503599627370496 + s % 4503599627370496 := by
  unfold sc
  unfold ex at *
  omega

theorem sc_norm (s : Nat) (m : Int) (hs : s < 18446744073709551616) (h1 : 1 ≤ ex s + m) (h2 : ex s + m ≤ 2046) : Norm (sc s m) := by
  rw [sc_is s m hs h1 h2]
  unfold Norm rungOf
  have h3 : s / 9223372036854775808 ≤ 1 := by omega
  generalize s / 9223372036854775808 = S at *
  obtain ⟨E, hE⟩ : ∃ E : Nat, E = (ex s + m).toNat := ⟨_, rfl⟩
  rw [← hE]
  have h4 : S = 0 ∨ S = 1 := by omega
  rcases h4 with rfl | rfl <;> omega

theorem and_top (s : Nat) : s &&& 2 ^ 63 = 2 ^ 63 * (s / 2 ^ 63 % 2) := by
  rw [← Nat.toNat_testBit]
  apply Nat.eq_of_testBit_eq
  intro i
  rw [Nat.testBit_and, Nat.testBit_two_pow]
  by_cases hi : 63 = i
  · subst hi
    cases s.testBit 63
    · simp
    · decide
  · cases s.testBit 63
    · simp [hi]
    · simp only [Bool.toNat_true, Nat.mul_one, Nat.testBit_two_pow, hi, decide_false, Bool.and_false]

theorem ld_form (s : Nat) (m : Int) (hs : s < 18446744073709551616) (h1 : 1 ≤ ex s + m) (h2 : ex s + m ≤ 2046) :
    (bits .or .u64 (bits .andNot .u64 (s : Int) 9218868437227405312) ((m + (ex s - 1023) + 1023) * 4503599627370496)).toNat = sc s m := by
  have a1 := andNot_nat s 9218868437227405312 hs (by decide)
  rw [show ((9218868437227405312 : Nat) : Int) = 9218868437227405312 from rfl] at a1
  rw [a1, sc_is s m hs h1 h2]
  obtain ⟨E, hE⟩ : ∃ E : Nat, E = (ex s + m).toNat := ⟨_, rfl⟩
  have e1 : (m + (ex s - 1023) + 1023) * 4503599627370496 = ((2 ^ 52 * E : Nat) : Int) := by omega
  have a2 : s &&& (18446744073709551615 - 9218868437227405312) = 2 ^ 63 * (s / 9223372036854775808) ||| s % 4503599627370496 := by
    rw [show (18446744073709551615 - 9218868437227405312 : Nat) = 2 ^ 63 ||| (2 ^ 52 - 1) by decide, Nat.and_or_distrib_left, Nat.and_two_pow_sub_one_eq_mod, and_top]
    have : s / 2 ^ 63 % 2 = s / 9223372036854775808 := by omega
    rw [this]
  have f1 : s % 4503599627370496 < 2 ^ 52 := Nat.mod_lt _ (by decide)
  have e2 : 2 ^ 63 * (s / 9223372036854775808) ||| s % 4503599627370496 = 2 ^ 63 * (s / 9223372036854775808) + s % 4503599627370496 := (Nat.two_pow_add_eq_or_of_lt (by omega) _).symm
  have hlt : s &&& (18446744073709551615 - 9218868437227405312) < 18446744073709551616 := by rw [a2, e2]; omega
  rw [e1, ← hE, bits_or_u64_nat _ _ hlt (by omega), Int.toNat_natCast, a2, Nat.or_assoc, Nat.or_comm (s % 4503599627370496), ← Nat.two_pow_add_eq_or_of_lt f1, ← Nat.two_pow_add_eq_or_of_lt (by omega)]
  omega

set_option maxRecDepth 100000 in
set_option maxHeartbeats 400000 in
theorem ldexp_norm (s : Nat) (m : Int) (w : World) (h : Norm s) (m0 : -4096 ≤ m) (m1 : m ≤ 4096) (h1 : 1 ≤ ex s + m) (h2 : ex s + m ≤ 2046) :
    Calls Yba.prog 28 #[.float .f64 s, .int .i64 m] w fun e w' => e = .returned (.float .f64 (sc s m)) ∧ w' = w := by
  have o := ord_zero h
  have hb := f64bits
  have hf := f64frombits
  have hx := ex_form2 s h.1
  have e0 : 0 ≤ ex s := by unfold ex; omega
  have e1 : ex s ≤ 2047 := by unfold ex; omega
  have hs : s < 18446744073709551616 := h.1
  have hn := sc_norm s m hs h1 h2
  have hm : floatBits .mul .f64 4607182418800017408 (bits .or .u64 (bits .andNot .u64 (s : Int) 9218868437227405312) ((m + (ex s - 1023) + 1023) * 4503599627370496)).toNat = some (sc s m) := by
    rw [ld_form s m hs h1 h2]
    exact one_mul_normal _ hn.2.2 hn.1 hn.2.1
  have hmul := fun w => run_float_arith (P := Yba.prog) w .mul 34 .f64 4607182418800017408 _ _ hm
  clear hm hn
  go_enter Yba.func28, Yba.ntmps28
  go_wp2_with (first | (go_at_call 30; refine (isInf_no s _ h).mono ?_; rintro e w' ⟨rfl, rfl⟩) | (go_at_call 31; refine (isNaN_no s _ h.2.2).mono ?_; rintro e w' ⟨rfl, rfl⟩) | (go_at_call 32; refine (normalize_no s _ h).mono ?_; rintro e w' ⟨rfl, rfl⟩))
  go_ret
  exact ⟨rfl, rfl⟩

set_option maxRecDepth 100000 in
set_option maxHeartbeats 400000 in
theorem Ldexp_norm (s : Nat) (m : Int) (w : World) (h : Norm s) (m0 : -4096 ≤ m) (m1 : m ≤ 4096) (h1 : 1 ≤ ex s + m) (h2 : ex s + m ≤ 2046) :
    Calls Yba.prog 19 #[.float .f64 s, .int .i64 m] w fun e w' => e = .returned (.float .f64 (sc s m)) ∧ w' = w := by
  go_enter Yba.func19, Yba.ntmps19
  go_wp2_with (go_at_call 28; refine (ldexp_norm s m _ h m0 m1 h1 h2).mono ?_; rintro e w' ⟨rfl, rfl⟩)
  go_ret
  exact ⟨rfl, rfl⟩
end Go.Proofs.Ybulkuki
