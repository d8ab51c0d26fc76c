/-
  Seat b1035a: the walk of (fixed).shift (function 15).
-/
import Derived.Test.YbulkukiLimb
namespace Go.Proofs.Ybulkuki
open Go.RowKit

set_option maxRecDepth 100000 in
set_option maxHeartbeats 800000 in
theorem shift_near (x0 x1 x2 x3 x4 x5 x6 x7 s : Int) (w : World) (h : Fits x0 x1 x2 x3 x4 x5 x6 x7) (h0 : -256 < s) (h1 : s < 256) :
    Calls Yba.prog 15 #[.agg #[.int .u32 x0, .int .u32 x1, .int .u32 x2, .int .u32 x3, .int .u32 x4, .int .u32 x5, .int .u32 x6, .int .u32 x7], .int .i64 s] w fun e w' =>
      e = .returned (.agg #[.int .u32 (lim x0 x1 x2 x3 x4 x5 x6 x7 (0 - s)), .int .u32 (lim x0 x1 x2 x3 x4 x5 x6 x7 (32 - s)), .int .u32 (lim x0 x1 x2 x3 x4 x5 x6 x7 (64 - s)), .int .u32 (lim x0 x1 x2 x3 x4 x5 x6 x7 (96 - s)), .int .u32 (lim x0 x1 x2 x3 x4 x5 x6 x7 (128 - s)), .int .u32 (lim x0 x1 x2 x3 x4 x5 x6 x7 (160 - s)), .int .u32 (lim x0 x1 x2 x3 x4 x5 x6 x7 (192 - s)), .int .u32 (lim x0 x1 x2 x3 x4 x5 x6 x7 (224 - s))]) ∧ Below w.heap.size w w' := by
  go_enter Yba.func15, Yba.ntmps15
  go_wp2
  refine wp_loop_rounds 9 ?_
  rw [rounds_succ]
  go_wp2_with (go_at_call 23; refine (limbAt_any _ _ _ _ _ _ _ _ _ _ h).mono ?_; rintro e w' ⟨rfl, rfl⟩)
  rw [rounds_succ]
  go_wp2_with (go_at_call 23; refine (limbAt_any _ _ _ _ _ _ _ _ _ _ h).mono ?_; rintro e w' ⟨rfl, rfl⟩)
  rw [rounds_succ]
  go_wp2_with (go_at_call 23; refine (limbAt_any _ _ _ _ _ _ _ _ _ _ h).mono ?_; rintro e w' ⟨rfl, rfl⟩)
  rw [rounds_succ]
  go_wp2_with (go_at_call 23; refine (limbAt_any _ _ _ _ _ _ _ _ _ _ h).mono ?_; rintro e w' ⟨rfl, rfl⟩)
  rw [rounds_succ]
  go_wp2_with (go_at_call 23; refine (limbAt_any _ _ _ _ _ _ _ _ _ _ h).mono ?_; rintro e w' ⟨rfl, rfl⟩)
  rw [rounds_succ]
  go_wp2_with (go_at_call 23; refine (limbAt_any _ _ _ _ _ _ _ _ _ _ h).mono ?_; rintro e w' ⟨rfl, rfl⟩)
  rw [rounds_succ]
  go_wp2_with (go_at_call 23; refine (limbAt_any _ _ _ _ _ _ _ _ _ _ h).mono ?_; rintro e w' ⟨rfl, rfl⟩)
  rw [rounds_succ]
  go_wp2_with (go_at_call 23; refine (limbAt_any _ _ _ _ _ _ _ _ _ _ h).mono ?_; rintro e w' ⟨rfl, rfl⟩)
  rw [rounds_succ]
  go_wp2
  go_returns
  refine ⟨by simp, ?_⟩
  go_grown

theorem limbAt_far (x0 x1 x2 x3 x4 x5 x6 x7 p : Int) (w : World) (h : Fits x0 x1 x2 x3 x4 x5 x6 x7) (hp : p ≤ -32 ∨ 256 ≤ p) :
    Calls Yba.prog 23 #[.agg #[.int .u32 x0, .int .u32 x1, .int .u32 x2, .int .u32 x3, .int .u32 x4, .int .u32 x5, .int .u32 x6, .int .u32 x7], .int .i64 p] w fun e w' =>
      e = .returned (.int .u32 0) ∧ w' = w.alloc (.cells #[.int .u32 x0, .int .u32 x1, .int .u32 x2, .int .u32 x3, .int .u32 x4, .int .u32 x5, .int .u32 x6, .int .u32 x7] 24) :=
  (limbAt_any x0 x1 x2 x3 x4 x5 x6 x7 p w h).mono fun _ _ ⟨he, hw⟩ => ⟨by rw [he, lim_out hp], hw⟩

set_option maxRecDepth 100000 in
set_option maxHeartbeats 800000 in
theorem shift_far (x0 x1 x2 x3 x4 x5 x6 x7 s : Int) (w : World) (h : Fits x0 x1 x2 x3 x4 x5 x6 x7) (h0 : -9223372036854775808 ≤ s) (h1 : s ≤ 9223372036854775807) (hs : 256 ≤ s ∨ s ≤ -256) :
    Calls Yba.prog 15 #[.agg #[.int .u32 x0, .int .u32 x1, .int .u32 x2, .int .u32 x3, .int .u32 x4, .int .u32 x5, .int .u32 x6, .int .u32 x7], .int .i64 s] w fun e w' =>
      e = .returned (.agg #[.int .u32 0, .int .u32 0, .int .u32 0, .int .u32 0, .int .u32 0, .int .u32 0, .int .u32 0, .int .u32 0]) ∧ Below w.heap.size w w' := by
  go_enter Yba.func15, Yba.ntmps15
  go_wp2
  refine wp_loop_rounds 9 ?_
  rw [rounds_succ]
  go_wp2_with (go_at_call 23; refine (limbAt_far _ _ _ _ _ _ _ _ _ _ h ?_).mono ?_; (case refine_1 => (first | assumption | (simp only [wrap64]; omega))); rintro e w' ⟨rfl, rfl⟩)
  rw [rounds_succ]
  go_wp2_with (go_at_call 23; refine (limbAt_far _ _ _ _ _ _ _ _ _ _ h ?_).mono ?_; (case refine_1 => (first | assumption | (simp only [wrap64]; omega))); rintro e w' ⟨rfl, rfl⟩)
  rw [rounds_succ]
  go_wp2_with (go_at_call 23; refine (limbAt_far _ _ _ _ _ _ _ _ _ _ h ?_).mono ?_; (case refine_1 => (first | assumption | (simp only [wrap64]; omega))); rintro e w' ⟨rfl, rfl⟩)
  rw [rounds_succ]
  go_wp2_with (go_at_call 23; refine (limbAt_far _ _ _ _ _ _ _ _ _ _ h ?_).mono ?_; (case refine_1 => (first | assumption | (simp only [wrap64]; omega))); rintro e w' ⟨rfl, rfl⟩)
  rw [rounds_succ]
  go_wp2_with (go_at_call 23; refine (limbAt_far _ _ _ _ _ _ _ _ _ _ h ?_).mono ?_; (case refine_1 => (first | assumption | (simp only [wrap64]; omega))); rintro e w' ⟨rfl, rfl⟩)
  rw [rounds_succ]
  go_wp2_with (go_at_call 23; refine (limbAt_far _ _ _ _ _ _ _ _ _ _ h ?_).mono ?_; (case refine_1 => (first | assumption | (simp only [wrap64]; omega))); rintro e w' ⟨rfl, rfl⟩)
  rw [rounds_succ]
  go_wp2_with (go_at_call 23; refine (limbAt_far _ _ _ _ _ _ _ _ _ _ h ?_).mono ?_; (case refine_1 => (first | assumption | (simp only [wrap64]; omega))); rintro e w' ⟨rfl, rfl⟩)
  rw [rounds_succ]
  go_wp2_with (go_at_call 23; refine (limbAt_far _ _ _ _ _ _ _ _ _ _ h ?_).mono ?_; (case refine_1 => (first | assumption | (simp only [wrap64]; omega))); rintro e w' ⟨rfl, rfl⟩)
  rw [rounds_succ]
  go_wp2
  go_returns
  refine ⟨rfl, ?_⟩
  go_grown
end Go.Proofs.Ybulkuki
