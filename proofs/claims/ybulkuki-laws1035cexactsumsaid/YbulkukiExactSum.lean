/-
  Seat b1035a: the walk of LawS1035CExactSum (8), every way.
-/
import Derived.Test.YbulkukiRound
namespace Go.Proofs.Ybulkuki
open Go.RowKit Ieee

theorem ex_bd (x : Nat) : 0 ≤ ex x ∧ ex x ≤ 2047 := by unfold ex; omega

set_option maxRecDepth 100000 in
set_option maxHeartbeats 400000 in
theorem exactSum_far (hi lo : Nat) (m : Int) (w : World) (h : m < -4096 ∨ 4096 < m) :
    Calls Yba.prog 8 #[.float .f64 hi, .float .f64 lo, .int .i64 m] w fun e w' => e = .returned (.bool true) ∧ w' = w := by
  rcases h with h | h
  · go_enter Yba.func8, Yba.ntmps8
    go_wp2
    go_ret
    exact ⟨rfl, rfl⟩
  · have h' : ¬ m < -4096 := by omega
    go_enter Yba.func8, Yba.ntmps8
    go_wp2
    go_ret
    exact ⟨rfl, rfl⟩

set_option maxRecDepth 100000 in
set_option maxHeartbeats 400000 in
theorem exactSum_inf (hi lo : Nat) (m : Int) (w : World) (hhi : hi < 18446744073709551616) (hlo : lo < 18446744073709551616) (m0 : -4096 ≤ m) (m1 : m ≤ 4096) (h : ex hi = 2047 ∨ ex lo = 2047) :
    Calls Yba.prog 8 #[.float .f64 hi, .float .f64 lo, .int .i64 m] w fun e w' => e = .returned (.bool true) ∧ w' = w := by
  by_cases h1 : ex hi = 2047
  · have q1 : (ex hi == 2047) = true := beq_iff_eq.2 h1
    clear h h1
    go_enter Yba.func8, Yba.ntmps8
    go_wp2_with (go_at_call 17; refine (cexp_any _ _ ?_).mono ?_; (case refine_1 => first | exact hhi | exact hlo); rintro e w' ⟨rfl, rfl⟩)
    go_ret
    exact ⟨rfl, rfl⟩
  · have h2 : ex lo = 2047 := h.resolve_left h1
    have q1 : (ex hi == 2047) = false := beq_eq_false_iff_ne.2 h1
    have q2 : (ex lo == 2047) = true := beq_iff_eq.2 h2
    clear h h1 h2
    go_enter Yba.func8, Yba.ntmps8
    go_wp2_with (go_at_call 17; refine (cexp_any _ _ ?_).mono ?_; (case refine_1 => first | exact hhi | exact hlo); rintro e w' ⟨rfl, rfl⟩)
    go_ret
    exact ⟨rfl, rfl⟩

set_option maxRecDepth 100000 in
set_option maxHeartbeats 800000 in
theorem exactSum_out (hi lo s : Nat) (m : Int) (w : World) (hhi : hi < 18446744073709551616) (hlo : lo < 18446744073709551616) (m0 : -4096 ≤ m) (m1 : m ≤ 4096)
    (fhi : ex hi ≠ 2047) (flo : ex lo ≠ 2047) (hs : double.add hi lo = some s) (sl : s < 18446744073709551616) (h : ex s < 1 ∨ 2046 < ex s ∨ ex s + m < 1 ∨ 2046 < ex s + m) :
    Calls Yba.prog 8 #[.float .f64 hi, .float .f64 lo, .int .i64 m] w fun e w' => e = .returned (.bool true) ∧ w' = w := by
  have q1 : (ex hi == 2047) = false := beq_eq_false_iff_ne.2 fhi
  have q2 : (ex lo == 2047) = false := beq_eq_false_iff_ne.2 flo
  have k0 := fun w => run_float_arith (P := Yba.prog) w .add 34 .f64 hi lo s hs
  obtain ⟨b0, b1⟩ := ex_bd s
  clear fhi flo hs
  by_cases h1 : ex s < 1
  · clear h
    go_enter Yba.func8, Yba.ntmps8
    go_wp2_with (go_at_call 17; refine (cexp_any _ _ ?_).mono ?_; (case refine_1 => first | exact hhi | exact hlo | exact sl); rintro e w' ⟨rfl, rfl⟩)
    go_ret
    exact ⟨rfl, rfl⟩
  by_cases h2 : 2046 < ex s
  · clear h
    go_enter Yba.func8, Yba.ntmps8
    go_wp2_with (go_at_call 17; refine (cexp_any _ _ ?_).mono ?_; (case refine_1 => first | exact hhi | exact hlo | exact sl); rintro e w' ⟨rfl, rfl⟩)
    go_ret
    exact ⟨rfl, rfl⟩
  by_cases h3 : ex s + m < 1
  · clear h
    go_enter Yba.func8, Yba.ntmps8
    go_wp2_with (go_at_call 17; refine (cexp_any _ _ ?_).mono ?_; (case refine_1 => first | exact hhi | exact hlo | exact sl); rintro e w' ⟨rfl, rfl⟩)
    go_ret
    exact ⟨rfl, rfl⟩
  · have h4 : 2046 < ex s + m := by omega
    clear h
    go_enter Yba.func8, Yba.ntmps8
    go_wp2_with (go_at_call 17; refine (cexp_any _ _ ?_).mono ?_; (case refine_1 => first | exact hhi | exact hlo | exact sl); rintro e w' ⟨rfl, rfl⟩)
    go_ret
    exact ⟨rfl, rfl⟩

theorem exactSum_any (hi lo : Nat) (m : Int) (w : World) (hhi : hi < 18446744073709551616) (hlo : lo < 18446744073709551616) :
    Calls Yba.prog 8 #[.float .f64 hi, .float .f64 lo, .int .i64 m] w fun e w' => e = .returned (.bool true) ∧ Below w.heap.size w w' := by
  suffices h : Calls Yba.prog 8 #[.float .f64 hi, .float .f64 lo, .int .i64 m] w fun e w' => e = .returned (.bool true) ∧ w' = w from
    h.mono fun _ _ ⟨he, hw⟩ => ⟨he, by rw [hw]; exact Below.refl _ _⟩
  by_cases hm : m < -4096 ∨ 4096 < m
  · exact exactSum_far hi lo m w hm
  by_cases hf : ex hi = 2047 ∨ ex lo = 2047
  · exact exactSum_inf hi lo m w hhi hlo (by omega) (by omega) hf
  have f1 : ex hi ≠ 2047 := fun h => hf (.inl h)
  have f2 : ex lo ≠ 2047 := fun h => hf (.inr h)
  obtain ⟨s, hs, sl, hz⟩ := add_exists hi lo (fin_of_ex f1) (fin_of_ex f2)
  by_cases h : ex s < 1 ∨ 2046 < ex s ∨ ex s + m < 1 ∨ 2046 < ex s + m
  · exact exactSum_out hi lo s m w hhi hlo (by omega) (by omega) f1 f2 hs sl h
  · refine exactSum_go hi lo s m w hhi hlo (by omega) (by omega) f1 f2 hs sl (by omega) (by omega) (by omega) (by omega) ?_
    intro e
    have hr := hz e
    have : ex s = 0 := by
      unfold ex
      unfold rungOf at hr
      omega
    omega
end Go.Proofs.Ybulkuki
