/-
  Seat b1035a: the walk of (fixed).sub (function 13) where both operands are one value.
-/
import Derived.Test.YbulkukiZero
import Derived.BigQuiet
import Derived.Deep.QuietTactic
import Derived.Handy
import Derived.WalkLawsBesides
namespace Go.Proofs.Ybulkuki
open Go.RowKit

theorem setCell_drewN (w : World) (n : Nat) (a : Addr) (v : Value) : (w.drewN n).setCell a v = (w.setCell a v).drewN n := rfl
theorem alloc_drewN (w : World) (n : Nat) (o : Obj) : (w.drewN n).alloc o = (w.alloc o).drewN n := rfl
attribute [local go_sem] setCell_drewN alloc_drewN

set_option maxRecDepth 100000 in
set_option maxHeartbeats 400000 in
theorem sub_self (x0 x1 x2 x3 x4 x5 x6 x7 : Int) (w : World) (h0 : 0 ≤ x0 ∧ x0 ≤ 4294967295) (h1 : 0 ≤ x1 ∧ x1 ≤ 4294967295) (h2 : 0 ≤ x2 ∧ x2 ≤ 4294967295) (h3 : 0 ≤ x3 ∧ x3 ≤ 4294967295) (h4 : 0 ≤ x4 ∧ x4 ≤ 4294967295) (h5 : 0 ≤ x5 ∧ x5 ≤ 4294967295) (h6 : 0 ≤ x6 ∧ x6 ≤ 4294967295) (h7 : 0 ≤ x7 ∧ x7 ≤ 4294967295) :
    Calls Yba.prog 13 #[.agg #[.int .u32 x0, .int .u32 x1, .int .u32 x2, .int .u32 x3, .int .u32 x4, .int .u32 x5, .int .u32 x6, .int .u32 x7], .agg #[.int .u32 x0, .int .u32 x1, .int .u32 x2, .int .u32 x3, .int .u32 x4, .int .u32 x5, .int .u32 x6, .int .u32 x7]] w fun e w' =>
      e = .returned (.agg #[.int .u32 0, .int .u32 0, .int .u32 0, .int .u32 0, .int .u32 0, .int .u32 0, .int .u32 0, .int .u32 0]) ∧ Below w.heap.size w w' := by
  go_enter Yba.func13, Yba.ntmps13
  go_wp2
  refine wp_loop_rounds 9 ?_
  rw [rounds_succ]
  go_wp2
  go_quiet (fail)
  go_wp2
  rw [rounds_succ]
  go_wp2
  go_quiet (fail)
  go_wp2
  rw [rounds_succ]
  go_wp2
  go_quiet (fail)
  go_wp2
  rw [rounds_succ]
  go_wp2
  go_quiet (fail)
  go_wp2
  rw [rounds_succ]
  go_wp2
  go_quiet (fail)
  go_wp2
  rw [rounds_succ]
  go_wp2
  go_quiet (fail)
  go_wp2
  rw [rounds_succ]
  go_wp2
  go_quiet (fail)
  go_wp2
  rw [rounds_succ]
  go_wp2
  go_quiet (fail)
  go_wp2
  rw [rounds_succ]
  go_wp2
  go_returns
  refine ⟨rfl, ?_⟩
  refine below_drewN ?_ _
  go_grown
end Go.Proofs.Ybulkuki
