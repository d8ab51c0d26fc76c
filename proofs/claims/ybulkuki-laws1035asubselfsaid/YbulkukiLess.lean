/-
  Seat b1035a: the walk of (fixed).less (function 14) at the zero value.
-/
import Derived.Test.YbulkukiZero
import Derived.BigQuiet
import Derived.Deep.QuietTactic
import Derived.Handy
import Derived.WalkLawsBesides
namespace Go.Proofs.Ybulkuki
open Go.RowKit

set_option maxRecDepth 100000 in
set_option maxHeartbeats 400000 in
theorem less_zero (x0 x1 x2 x3 x4 x5 x6 x7 : Int) (w : World) (h0 : 0 ≤ x0 ∧ x0 ≤ 4294967295) (h1 : 0 ≤ x1 ∧ x1 ≤ 4294967295) (h2 : 0 ≤ x2 ∧ x2 ≤ 4294967295) (h3 : 0 ≤ x3 ∧ x3 ≤ 4294967295) (h4 : 0 ≤ x4 ∧ x4 ≤ 4294967295) (h5 : 0 ≤ x5 ∧ x5 ≤ 4294967295) (h6 : 0 ≤ x6 ∧ x6 ≤ 4294967295) (h7 : 0 ≤ x7 ∧ x7 ≤ 4294967295) :
    Calls Yba.prog 14 #[.agg #[.int .u32 0, .int .u32 0, .int .u32 0, .int .u32 0, .int .u32 0, .int .u32 0, .int .u32 0, .int .u32 0], .agg #[.int .u32 x0, .int .u32 x1, .int .u32 x2, .int .u32 x3, .int .u32 x4, .int .u32 x5, .int .u32 x6, .int .u32 x7]] w fun e w' =>
      e = .returned (.bool (!zeroB x0 x1 x2 x3 x4 x5 x6 x7)) ∧ Below w.heap.size w w' := by
  go_enter Yba.func14, Yba.ntmps14
  go_wp2
  go_loopw [4, 5] (fun b i wr => ∃ k n : Nat, k ≤ 8 ∧ i = .int .i64 ((k : Int) - 1) ∧ b = .bool false ∧ Hid ((k ≤ 0 → x0 = 0) ∧ (k ≤ 1 → x1 = 0) ∧ (k ≤ 2 → x2 = 0) ∧ (k ≤ 3 → x3 = 0) ∧ (k ≤ 4 → x4 = 0) ∧ (k ≤ 5 → x5 = 0) ∧ (k ≤ 6 → x6 = 0) ∧ (k ≤ 7 → x7 = 0)) ∧ wr = ((w.alloc (.cells #[.int .u32 0, .int .u32 0, .int .u32 0, .int .u32 0, .int .u32 0, .int .u32 0, .int .u32 0, .int .u32 0] 24)).alloc (.cells #[.int .u32 x0, .int .u32 x1, .int .u32 x2, .int .u32 x3, .int .u32 x4, .int .u32 x5, .int .u32 x6, .int .u32 x7] 24)).drewN n) (fun _ i _ => (intOf i + 1).toNat)
  case atStart => exact ⟨8, 0, by omega, rfl, rfl, ⟨by omega, by omega, by omega, by omega, by omega, by omega, by omega, by omega⟩, rfl⟩
  case round =>
    obtain ⟨k, n, hk, rfl, rfl, Z, rfl⟩ := hrel
    have hk9 : k = 0 ∨ k = 1 ∨ k = 2 ∨ k = 3 ∨ k = 4 ∨ k = 5 ∨ k = 6 ∨ k = 7 ∨ k = 8 := by omega
    rcases hk9 with rfl | rfl | rfl | rfl | rfl | rfl | rfl | rfl | rfl
    · go_wp2
      go_ret
      have z := Z.out
      exact ⟨ret_bool (by simp at z; obtain ⟨z0, z1, z2, z3, z4, z5, z6, z7⟩ := z; simp [zeroB, z0, z1, z2, z3, z4, z5, z6, z7]), by (repeat with_reducible refine below_drewN ?_ _); go_grown⟩
    · by_cases h : x0 = 0
      · have hb : ((0 : Int) != x0) = false := by simp [h]
        have H : Hid (x0 = 0) := h
        clear h
        go_wp2
        go_quiet (fail)
        go_wp2
        go_roundw
        case rel =>
          have z := Z.out
          have h := H.out
          exact ⟨0, _, by omega, rfl, rfl, ⟨by omega, by omega, by omega, by omega, by omega, by omega, by omega, by omega⟩, rfl⟩
        case measure => simp [intOf]
      · have hb : ((0 : Int) != x0) = true := by simp; omega
        have hl : decide ((0 : Int) < x0) = true := by simp; omega
        have H : Hid (¬ x0 = 0) := h
        clear h
        go_wp2
        go_quiet (fail)
        go_wp2
        go_quiet (fail)
        go_wp2
        go_ret
        exact ⟨ret_bool (by have h := H.out; simp [zeroB, h]), by (repeat with_reducible refine below_drewN ?_ _); go_grown⟩
    · by_cases h : x1 = 0
      · have hb : ((0 : Int) != x1) = false := by simp [h]
        have H : Hid (x1 = 0) := h
        clear h
        go_wp2
        go_quiet (fail)
        go_wp2
        go_roundw
        case rel =>
          have z := Z.out
          have h := H.out
          exact ⟨1, _, by omega, rfl, rfl, ⟨by omega, by omega, by omega, by omega, by omega, by omega, by omega, by omega⟩, rfl⟩
        case measure => simp [intOf]
      · have hb : ((0 : Int) != x1) = true := by simp; omega
        have hl : decide ((0 : Int) < x1) = true := by simp; omega
        have H : Hid (¬ x1 = 0) := h
        clear h
        go_wp2
        go_quiet (fail)
        go_wp2
        go_quiet (fail)
        go_wp2
        go_ret
        exact ⟨ret_bool (by have h := H.out; simp [zeroB, h]), by (repeat with_reducible refine below_drewN ?_ _); go_grown⟩
    · by_cases h : x2 = 0
      · have hb : ((0 : Int) != x2) = false := by simp [h]
        have H : Hid (x2 = 0) := h
        clear h
        go_wp2
        go_quiet (fail)
        go_wp2
        go_roundw
        case rel =>
          have z := Z.out
          have h := H.out
          exact ⟨2, _, by omega, rfl, rfl, ⟨by omega, by omega, by omega, by omega, by omega, by omega, by omega, by omega⟩, rfl⟩
        case measure => simp [intOf]
      · have hb : ((0 : Int) != x2) = true := by simp; omega
        have hl : decide ((0 : Int) < x2) = true := by simp; omega
        have H : Hid (¬ x2 = 0) := h
        clear h
        go_wp2
        go_quiet (fail)
        go_wp2
        go_quiet (fail)
        go_wp2
        go_ret
        exact ⟨ret_bool (by have h := H.out; simp [zeroB, h]), by (repeat with_reducible refine below_drewN ?_ _); go_grown⟩
    · by_cases h : x3 = 0
      · have hb : ((0 : Int) != x3) = false := by simp [h]
        have H : Hid (x3 = 0) := h
        clear h
        go_wp2
        go_quiet (fail)
        go_wp2
        go_roundw
        case rel =>
          have z := Z.out
          have h := H.out
          exact ⟨3, _, by omega, rfl, rfl, ⟨by omega, by omega, by omega, by omega, by omega, by omega, by omega, by omega⟩, rfl⟩
        case measure => simp [intOf]
      · have hb : ((0 : Int) != x3) = true := by simp; omega
        have hl : decide ((0 : Int) < x3) = true := by simp; omega
        have H : Hid (¬ x3 = 0) := h
        clear h
        go_wp2
        go_quiet (fail)
        go_wp2
        go_quiet (fail)
        go_wp2
        go_ret
        exact ⟨ret_bool (by have h := H.out; simp [zeroB, h]), by (repeat with_reducible refine below_drewN ?_ _); go_grown⟩
    · by_cases h : x4 = 0
      · have hb : ((0 : Int) != x4) = false := by simp [h]
        have H : Hid (x4 = 0) := h
        clear h
        go_wp2
        go_quiet (fail)
        go_wp2
        go_roundw
        case rel =>
          have z := Z.out
          have h := H.out
          exact ⟨4, _, by omega, rfl, rfl, ⟨by omega, by omega, by omega, by omega, by omega, by omega, by omega, by omega⟩, rfl⟩
        case measure => simp [intOf]
      · have hb : ((0 : Int) != x4) = true := by simp; omega
        have hl : decide ((0 : Int) < x4) = true := by simp; omega
        have H : Hid (¬ x4 = 0) := h
        clear h
        go_wp2
        go_quiet (fail)
        go_wp2
        go_quiet (fail)
        go_wp2
        go_ret
        exact ⟨ret_bool (by have h := H.out; simp [zeroB, h]), by (repeat with_reducible refine below_drewN ?_ _); go_grown⟩
    · by_cases h : x5 = 0
      · have hb : ((0 : Int) != x5) = false := by simp [h]
        have H : Hid (x5 = 0) := h
        clear h
        go_wp2
        go_quiet (fail)
        go_wp2
        go_roundw
        case rel =>
          have z := Z.out
          have h := H.out
          exact ⟨5, _, by omega, rfl, rfl, ⟨by omega, by omega, by omega, by omega, by omega, by omega, by omega, by omega⟩, rfl⟩
        case measure => simp [intOf]
      · have hb : ((0 : Int) != x5) = true := by simp; omega
        have hl : decide ((0 : Int) < x5) = true := by simp; omega
        have H : Hid (¬ x5 = 0) := h
        clear h
        go_wp2
        go_quiet (fail)
        go_wp2
        go_quiet (fail)
        go_wp2
        go_ret
        exact ⟨ret_bool (by have h := H.out; simp [zeroB, h]), by (repeat with_reducible refine below_drewN ?_ _); go_grown⟩
    · by_cases h : x6 = 0
      · have hb : ((0 : Int) != x6) = false := by simp [h]
        have H : Hid (x6 = 0) := h
        clear h
        go_wp2
        go_quiet (fail)
        go_wp2
        go_roundw
        case rel =>
          have z := Z.out
          have h := H.out
          exact ⟨6, _, by omega, rfl, rfl, ⟨by omega, by omega, by omega, by omega, by omega, by omega, by omega, by omega⟩, rfl⟩
        case measure => simp [intOf]
      · have hb : ((0 : Int) != x6) = true := by simp; omega
        have hl : decide ((0 : Int) < x6) = true := by simp; omega
        have H : Hid (¬ x6 = 0) := h
        clear h
        go_wp2
        go_quiet (fail)
        go_wp2
        go_quiet (fail)
        go_wp2
        go_ret
        exact ⟨ret_bool (by have h := H.out; simp [zeroB, h]), by (repeat with_reducible refine below_drewN ?_ _); go_grown⟩
    · by_cases h : x7 = 0
      · have hb : ((0 : Int) != x7) = false := by simp [h]
        have H : Hid (x7 = 0) := h
        clear h
        go_wp2
        go_quiet (fail)
        go_wp2
        go_roundw
        case rel =>
          have z := Z.out
          have h := H.out
          exact ⟨7, _, by omega, rfl, rfl, ⟨by omega, by omega, by omega, by omega, by omega, by omega, by omega, by omega⟩, rfl⟩
        case measure => simp [intOf]
      · have hb : ((0 : Int) != x7) = true := by simp; omega
        have hl : decide ((0 : Int) < x7) = true := by simp; omega
        have H : Hid (¬ x7 = 0) := h
        clear h
        go_wp2
        go_quiet (fail)
        go_wp2
        go_quiet (fail)
        go_wp2
        go_ret
        exact ⟨ret_bool (by have h := H.out; simp [zeroB, h]), by (repeat with_reducible refine below_drewN ?_ _); go_grown⟩
end Go.Proofs.Ybulkuki
