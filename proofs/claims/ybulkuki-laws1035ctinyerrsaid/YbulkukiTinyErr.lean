/-
  Seat b1035a: the walks of zzs1035crel (22) and of LawS1035CTinyErr (10).
-/
import Derived.Test.YbulkukiTiny
namespace Go.Proofs.Ybulkuki
open Go.RowKit Ieee

theorem ex_bd' (x : Nat) : 0 ≤ ex x ∧ ex x ≤ 2047 := by unfold ex; omega

set_option maxRecDepth 100000 in
set_option maxHeartbeats 400000 in
theorem crel_any (r : Nat) (w : World) (h : r < 18446744073709551616) :
    Calls Yba.prog 22 #[.float .f64 r, .float .f64 4359484439294640128] w fun e w' => ∃ rr, e = .returned (.float .f64 rr) ∧ Small rr ∧ w' = w := by
  have fm : Fin64 4359484439294640128 := small_max.fin
  by_cases h1 : 9218868437227405312 < rungOf r
  · have n1 : (FloatKind.f64.format.order (rungOf r) (rungOf r) != some .eq) = true := by
      rw [fmt64, order_nan _ _ (by rw [rung_rung]; exact h1)]; rfl
    go_enter Yba.func22, Yba.ntmps22
    go_wp2_with (go_at_call 20; refine (Abs_any r _ h).mono ?_; rintro e w' ⟨rfl, rfl⟩)
    go_ret
    exact ⟨_, rfl, small_max, rfl⟩
  by_cases h2 : rungOf r = 9218868437227405312
  · have n1 : (FloatKind.f64.format.order (rungOf r) (rungOf r) != some .eq) = false := by
      rw [fmt64, order_inf_self _ (by rw [rung_rung]; exact h2)]; rfl
    have n2 : (FloatKind.f64.format.order (rungOf r) 4359484439294640128 == some .gt) = true := by
      rw [fmt64, order_inf _ _ (by rw [rung_rung]; exact h2) (neg_rung r) fm]; rfl
    clear h1 h2
    go_enter Yba.func22, Yba.ntmps22
    go_wp2_with (go_at_call 20; refine (Abs_any r _ h).mono ?_; rintro e w' ⟨rfl, rfl⟩)
    go_ret
    exact ⟨_, rfl, small_max, rfl⟩
  have hf : Fin64 (rungOf r) := by unfold Fin64; rw [rung_rung]; omega
  have n1 : (FloatKind.f64.format.order (rungOf r) (rungOf r) != some .eq) = false := ord_self hf
  by_cases h3 : val (rungOf 4359484439294640128) < val (rungOf r)
  · have n2 : (FloatKind.f64.format.order (rungOf r) 4359484439294640128 == some .gt) = true := by
      rw [fmt64, order_pos _ _ hf fm (neg_rung r) small_max.pos, rung_rung, cmp_gt_iff]
      exact decide_eq_true (by omega)
    clear h1 h2 h3
    go_enter Yba.func22, Yba.ntmps22
    go_wp2_with (go_at_call 20; refine (Abs_any r _ h).mono ?_; rintro e w' ⟨rfl, rfl⟩)
    go_ret
    exact ⟨_, rfl, small_max, rfl⟩
  · have n2 : (FloatKind.f64.format.order (rungOf r) 4359484439294640128 == some .gt) = false := by
      rw [fmt64, order_pos _ _ hf fm (neg_rung r) small_max.pos, rung_rung]
      exact cmp_not_gt (by omega)
    have hS : Small (rungOf r) := ⟨hf, neg_rung r, by rw [rung_rung]; exact Nat.le_trans (by omega) small_max.le⟩
    clear h1 h2 h3
    go_enter Yba.func22, Yba.ntmps22
    go_wp2_with (go_at_call 20; refine (Abs_any r _ h).mono ?_; rintro e w' ⟨rfl, rfl⟩)
    go_ret
    exact ⟨_, rfl, hS, rfl⟩

set_option maxRecDepth 100000 in
set_option maxHeartbeats 400000 in
theorem tinyErr_go (hi r : Nat) (m : Int) (w : World) (hhi : hi < 18446744073709551616) (hr : r < 18446744073709551616) (m0 : -4096 ≤ m) (m1 : m ≤ 4096)
    (e1 : 60 ≤ ex hi) (e2 : ex hi ≤ 2045) (e3 : 3 ≤ ex hi + m) (e4 : ex hi + m ≤ 2044) :
    Calls Yba.prog 10 #[.float .f64 hi, .int .i64 m, .float .f64 r] w fun e w' => e = .returned (.bool true) ∧ w' = w := by
  have hN := norm_of hi hhi (by omega) (by omega)
  have hS := sc_norm hi m hhi (by omega) (by omega)
  have oe := ord_eq_self (s := sc hi m) hS.2.2
  have C : ∀ (rr : Nat) (w : World), Small rr → Calls Yba.prog 18 #[.float .f64 hi, .float .f64 0, .int .i64 m, .float .f64 rr] w fun e w' => e = .returned (.tuple #[.float .f64 (sc hi m), .bool true]) ∧ w' = w := by
    intro rr w h
    obtain ⟨e, d, d2, a1, a2, a3, a4, a5⟩ := tiny_ops hi rr hhi e1 e2 h
    exact round_any hi 0 rr e d hi d2 hi m w hhi a1 a2 a3 a4 a5 (ord_self hN.2.2)
  go_enter Yba.func10, Yba.ntmps10
  go_wp2_with (go_at_call 17; refine (cexp_any _ _ hhi).mono ?_; rintro e w' ⟨rfl, rfl⟩)
  go_at_call 22
  refine (crel_any r _ hr).mono ?_
  rintro e w' ⟨rr, rfl, hs, rfl⟩
  go_wp2_with (first | (go_at_call 18; refine (C rr _ hs).mono ?_; rintro e w' ⟨rfl, rfl⟩) | (go_at_call 19; refine (Ldexp_norm hi m _ hN m0 m1 (by omega) (by omega)).mono ?_; rintro e w' ⟨rfl, rfl⟩))
  go_ret
  exact ⟨rfl, rfl⟩

set_option maxRecDepth 100000 in
set_option maxHeartbeats 400000 in
theorem tinyErr_far (hi r : Nat) (m : Int) (w : World) (h : m < -4096 ∨ 4096 < m) :
    Calls Yba.prog 10 #[.float .f64 hi, .int .i64 m, .float .f64 r] w fun e w' => e = .returned (.bool true) ∧ w' = w := by
  rcases h with h | h
  · go_enter Yba.func10, Yba.ntmps10
    go_wp2
    go_ret
    exact ⟨rfl, rfl⟩
  · have h' : ¬ m < -4096 := by omega
    go_enter Yba.func10, Yba.ntmps10
    go_wp2
    go_ret
    exact ⟨rfl, rfl⟩

set_option maxRecDepth 100000 in
set_option maxHeartbeats 800000 in
theorem tinyErr_out (hi r : Nat) (m : Int) (w : World) (hhi : hi < 18446744073709551616) (m0 : -4096 ≤ m) (m1 : m ≤ 4096) (h : ex hi < 60 ∨ 2045 < ex hi ∨ ex hi + m < 3 ∨ 2044 < ex hi + m) :
    Calls Yba.prog 10 #[.float .f64 hi, .int .i64 m, .float .f64 r] w fun e w' => e = .returned (.bool true) ∧ w' = w := by
  obtain ⟨b0, b1⟩ := ex_bd' hi
  by_cases h1 : ex hi < 60
  · clear h
    go_enter Yba.func10, Yba.ntmps10
    go_wp2_with (go_at_call 17; refine (cexp_any _ _ hhi).mono ?_; rintro e w' ⟨rfl, rfl⟩)
    go_ret
    exact ⟨rfl, rfl⟩
  by_cases h2 : 2045 < ex hi
  · clear h
    go_enter Yba.func10, Yba.ntmps10
    go_wp2_with (go_at_call 17; refine (cexp_any _ _ hhi).mono ?_; rintro e w' ⟨rfl, rfl⟩)
    go_ret
    exact ⟨rfl, rfl⟩
  by_cases h3 : ex hi + m < 3
  · clear h
    go_enter Yba.func10, Yba.ntmps10
    go_wp2_with (go_at_call 17; refine (cexp_any _ _ hhi).mono ?_; rintro e w' ⟨rfl, rfl⟩)
    go_ret
    exact ⟨rfl, rfl⟩
  · have h4 : 2044 < ex hi + m := by omega
    clear h
    go_enter Yba.func10, Yba.ntmps10
    go_wp2_with (go_at_call 17; refine (cexp_any _ _ hhi).mono ?_; rintro e w' ⟨rfl, rfl⟩)
    go_ret
    exact ⟨rfl, rfl⟩

theorem tinyErr_any (hi r : Nat) (m : Int) (w : World) (hhi : hi < 18446744073709551616) (hr : r < 18446744073709551616) :
    Calls Yba.prog 10 #[.float .f64 hi, .int .i64 m, .float .f64 r] w fun e w' => e = .returned (.bool true) ∧ Below w.heap.size w w' := by
  suffices h : Calls Yba.prog 10 #[.float .f64 hi, .int .i64 m, .float .f64 r] w fun e w' => e = .returned (.bool true) ∧ w' = w from
    h.mono fun _ _ ⟨he, hw⟩ => ⟨he, by rw [hw]; exact Below.refl _ _⟩
  by_cases hm : m < -4096 ∨ 4096 < m
  · exact tinyErr_far hi r m w hm
  by_cases h : ex hi < 60 ∨ 2045 < ex hi ∨ ex hi + m < 3 ∨ 2044 < ex hi + m
  · exact tinyErr_out hi r m w hhi (by omega) (by omega) h
  · exact tinyErr_go hi r m w hhi hr (by omega) (by omega) (by omega) (by omega) (by omega) (by omega)
end Go.Proofs.Ybulkuki
