/-
  Seat b1035a: the walk of (fixed).isZero (function 11).
-/
import Derived.Test.YbulkukiRows
import Derived.WalkKit
import Derived.WalkSpells
import Derived.RowKit3
namespace Go.Proofs.Ybulkuki
open Go.RowKit

/-- No limb holds a set bit. -/
def zeroB (x0 x1 x2 x3 x4 x5 x6 x7 : Int) : Bool := decide (x0 = 0 ∧ x1 = 0 ∧ x2 = 0 ∧ x3 = 0 ∧ x4 = 0 ∧ x5 = 0 ∧ x6 = 0 ∧ x7 = 0)
theorem ret_bool {a b : Bool} (h : a = b) : Ending.returned (.bool a) = .returned (.bool b) := by rw [h]
theorem ret_int {k : IntKind} {a b : Int} (h : a = b) : Ending.returned (.int k a) = .returned (.int k b) := by rw [h]

set_option maxRecDepth 100000 in
set_option maxHeartbeats 400000 in
theorem isZero_any (x0 x1 x2 x3 x4 x5 x6 x7 : Int) (w : World) :
    Calls Yba.prog 11 #[.agg #[.int .u32 x0, .int .u32 x1, .int .u32 x2, .int .u32 x3, .int .u32 x4, .int .u32 x5, .int .u32 x6, .int .u32 x7]] w fun e w' =>
      e = .returned (.bool (zeroB x0 x1 x2 x3 x4 x5 x6 x7)) ∧ w' = w.alloc (.cells #[.int .u32 x0, .int .u32 x1, .int .u32 x2, .int .u32 x3, .int .u32 x4, .int .u32 x5, .int .u32 x6, .int .u32 x7] 24) := by
  have i0 : ∀ w : World, (Instr.index 24 (.agg #[.int .u32 x0, .int .u32 x1, .int .u32 x2, .int .u32 x3, .int .u32 x4, .int .u32 x5, .int .u32 x6, .int .u32 x7]) (.int .i64 0)).run Yba.prog w = .ok (.int .u32 x0) w := fun _ => by kernel_rfl
  have i1 : ∀ w : World, (Instr.index 24 (.agg #[.int .u32 x0, .int .u32 x1, .int .u32 x2, .int .u32 x3, .int .u32 x4, .int .u32 x5, .int .u32 x6, .int .u32 x7]) (.int .i64 1)).run Yba.prog w = .ok (.int .u32 x1) w := fun _ => by kernel_rfl
  have i2 : ∀ w : World, (Instr.index 24 (.agg #[.int .u32 x0, .int .u32 x1, .int .u32 x2, .int .u32 x3, .int .u32 x4, .int .u32 x5, .int .u32 x6, .int .u32 x7]) (.int .i64 2)).run Yba.prog w = .ok (.int .u32 x2) w := fun _ => by kernel_rfl
  have i3 : ∀ w : World, (Instr.index 24 (.agg #[.int .u32 x0, .int .u32 x1, .int .u32 x2, .int .u32 x3, .int .u32 x4, .int .u32 x5, .int .u32 x6, .int .u32 x7]) (.int .i64 3)).run Yba.prog w = .ok (.int .u32 x3) w := fun _ => by kernel_rfl
  have i4 : ∀ w : World, (Instr.index 24 (.agg #[.int .u32 x0, .int .u32 x1, .int .u32 x2, .int .u32 x3, .int .u32 x4, .int .u32 x5, .int .u32 x6, .int .u32 x7]) (.int .i64 4)).run Yba.prog w = .ok (.int .u32 x4) w := fun _ => by kernel_rfl
  have i5 : ∀ w : World, (Instr.index 24 (.agg #[.int .u32 x0, .int .u32 x1, .int .u32 x2, .int .u32 x3, .int .u32 x4, .int .u32 x5, .int .u32 x6, .int .u32 x7]) (.int .i64 5)).run Yba.prog w = .ok (.int .u32 x5) w := fun _ => by kernel_rfl
  have i6 : ∀ w : World, (Instr.index 24 (.agg #[.int .u32 x0, .int .u32 x1, .int .u32 x2, .int .u32 x3, .int .u32 x4, .int .u32 x5, .int .u32 x6, .int .u32 x7]) (.int .i64 6)).run Yba.prog w = .ok (.int .u32 x6) w := fun _ => by kernel_rfl
  have i7 : ∀ w : World, (Instr.index 24 (.agg #[.int .u32 x0, .int .u32 x1, .int .u32 x2, .int .u32 x3, .int .u32 x4, .int .u32 x5, .int .u32 x6, .int .u32 x7]) (.int .i64 7)).run Yba.prog w = .ok (.int .u32 x7) w := fun _ => by kernel_rfl
  go_enter Yba.func11, Yba.ntmps11
  go_wp2
  go_loop [2, 4, 6] (fun b _ i => ∃ k : Nat, k ≤ 8 ∧ i = .int .i64 k ∧ b = .bool false ∧ (1 ≤ k → x0 = 0) ∧ (2 ≤ k → x1 = 0) ∧ (3 ≤ k → x2 = 0) ∧ (4 ≤ k → x3 = 0) ∧ (5 ≤ k → x4 = 0) ∧ (6 ≤ k → x5 = 0) ∧ (7 ≤ k → x6 = 0) ∧ (8 ≤ k → x7 = 0)) (fun _ _ i => 8 - (intOf i).toNat)
  case atStart => exact ⟨0, by omega, rfl, rfl, by omega, by omega, by omega, by omega, by omega, by omega, by omega, by omega⟩
  case round =>
    obtain ⟨k, hk, rfl, rfl, z⟩ := hrel
    have Z : Hid _ := z
    clear z
    have hk9 : k = 0 ∨ k = 1 ∨ k = 2 ∨ k = 3 ∨ k = 4 ∨ k = 5 ∨ k = 6 ∨ k = 7 ∨ k = 8 := by omega
    rcases hk9 with rfl | rfl | rfl | rfl | rfl | rfl | rfl | rfl | rfl
    · by_cases h : x0 = 0
      · have hb : (x0 != 0) = false := by simp [h]
        have H : Hid (x0 = 0) := h
        clear h
        go_wp2
        go_round
        case rel => 
          have z := Z.out
          have h := H.out
          exact ⟨1, by omega, rfl, rfl, by omega, by omega, by omega, by omega, by omega, by omega, by omega, by omega⟩
        case measure => simp [intOf]
      · have hb : (x0 != 0) = true := by simp [h]
        have H : Hid (¬ x0 = 0) := h
        clear h
        go_wp2
        go_ret
        exact ⟨ret_bool (by have h := H.out; simp [zeroB, h]), rfl⟩
    · by_cases h : x1 = 0
      · have hb : (x1 != 0) = false := by simp [h]
        have H : Hid (x1 = 0) := h
        clear h
        go_wp2
        go_round
        case rel => 
          have z := Z.out
          have h := H.out
          exact ⟨2, by omega, rfl, rfl, by omega, by omega, by omega, by omega, by omega, by omega, by omega, by omega⟩
        case measure => simp [intOf]
      · have hb : (x1 != 0) = true := by simp [h]
        have H : Hid (¬ x1 = 0) := h
        clear h
        go_wp2
        go_ret
        exact ⟨ret_bool (by have h := H.out; simp [zeroB, h]), rfl⟩
    · by_cases h : x2 = 0
      · have hb : (x2 != 0) = false := by simp [h]
        have H : Hid (x2 = 0) := h
        clear h
        go_wp2
        go_round
        case rel => 
          have z := Z.out
          have h := H.out
          exact ⟨3, by omega, rfl, rfl, by omega, by omega, by omega, by omega, by omega, by omega, by omega, by omega⟩
        case measure => simp [intOf]
      · have hb : (x2 != 0) = true := by simp [h]
        have H : Hid (¬ x2 = 0) := h
        clear h
        go_wp2
        go_ret
        exact ⟨ret_bool (by have h := H.out; simp [zeroB, h]), rfl⟩
    · by_cases h : x3 = 0
      · have hb : (x3 != 0) = false := by simp [h]
        have H : Hid (x3 = 0) := h
        clear h
        go_wp2
        go_round
        case rel => 
          have z := Z.out
          have h := H.out
          exact ⟨4, by omega, rfl, rfl, by omega, by omega, by omega, by omega, by omega, by omega, by omega, by omega⟩
        case measure => simp [intOf]
      · have hb : (x3 != 0) = true := by simp [h]
        have H : Hid (¬ x3 = 0) := h
        clear h
        go_wp2
        go_ret
        exact ⟨ret_bool (by have h := H.out; simp [zeroB, h]), rfl⟩
    · by_cases h : x4 = 0
      · have hb : (x4 != 0) = false := by simp [h]
        have H : Hid (x4 = 0) := h
        clear h
        go_wp2
        go_round
        case rel => 
          have z := Z.out
          have h := H.out
          exact ⟨5, by omega, rfl, rfl, by omega, by omega, by omega, by omega, by omega, by omega, by omega, by omega⟩
        case measure => simp [intOf]
      · have hb : (x4 != 0) = true := by simp [h]
        have H : Hid (¬ x4 = 0) := h
        clear h
        go_wp2
        go_ret
        exact ⟨ret_bool (by have h := H.out; simp [zeroB, h]), rfl⟩
    · by_cases h : x5 = 0
      · have hb : (x5 != 0) = false := by simp [h]
        have H : Hid (x5 = 0) := h
        clear h
        go_wp2
        go_round
        case rel => 
          have z := Z.out
          have h := H.out
          exact ⟨6, by omega, rfl, rfl, by omega, by omega, by omega, by omega, by omega, by omega, by omega, by omega⟩
        case measure => simp [intOf]
      · have hb : (x5 != 0) = true := by simp [h]
        have H : Hid (¬ x5 = 0) := h
        clear h
        go_wp2
        go_ret
        exact ⟨ret_bool (by have h := H.out; simp [zeroB, h]), rfl⟩
    · by_cases h : x6 = 0
      · have hb : (x6 != 0) = false := by simp [h]
        have H : Hid (x6 = 0) := h
        clear h
        go_wp2
        go_round
        case rel => 
          have z := Z.out
          have h := H.out
          exact ⟨7, by omega, rfl, rfl, by omega, by omega, by omega, by omega, by omega, by omega, by omega, by omega⟩
        case measure => simp [intOf]
      · have hb : (x6 != 0) = true := by simp [h]
        have H : Hid (¬ x6 = 0) := h
        clear h
        go_wp2
        go_ret
        exact ⟨ret_bool (by have h := H.out; simp [zeroB, h]), rfl⟩
    · by_cases h : x7 = 0
      · have hb : (x7 != 0) = false := by simp [h]
        have H : Hid (x7 = 0) := h
        clear h
        go_wp2
        go_round
        case rel => 
          have z := Z.out
          have h := H.out
          exact ⟨8, by omega, rfl, rfl, by omega, by omega, by omega, by omega, by omega, by omega, by omega, by omega⟩
        case measure => simp [intOf]
      · have hb : (x7 != 0) = true := by simp [h]
        have H : Hid (¬ x7 = 0) := h
        clear h
        go_wp2
        go_ret
        exact ⟨ret_bool (by have h := H.out; simp [zeroB, h]), rfl⟩
    · go_wp2
      go_ret
      have z := Z.out
      exact ⟨ret_bool (by simp at z; obtain ⟨z0, z1, z2, z3, z4, z5, z6, z7⟩ := z; simp [zeroB, z0, z1, z2, z3, z4, z5, z6, z7]), rfl⟩
end Go.Proofs.Ybulkuki
