/-
  Seat b1035a: the walk of LawS1035BRoundTrip (function 7).
-/
import Derived.Test.YbulkukiBBits
namespace Go.Proofs.Ybulkuki
open Go.RowKit

theorem twice {x0 x1 x2 x3 x4 x5 x6 x7 r0 r1 r2 r3 r4 r5 r6 r7 y0 y1 y2 y3 y4 y5 y6 y7 k : Int} (k0 : 0 ≤ k) (h1 : ∀ j : Int, 0 ≤ j → j < 256 → bt r0 r1 r2 r3 r4 r5 r6 r7 j = bt x0 x1 x2 x3 x4 x5 x6 x7 (j - -k)) (h2 : ∀ j : Int, 0 ≤ j → j < 256 → bt y0 y1 y2 y3 y4 y5 y6 y7 j = bt r0 r1 r2 r3 r4 r5 r6 r7 (j - k)) (j : Int) (a : 0 ≤ j) (b : j < 256) :
    (k ≤ j → bt y0 y1 y2 y3 y4 y5 y6 y7 j = bt x0 x1 x2 x3 x4 x5 x6 x7 j) ∧ (j < k → bt y0 y1 y2 y3 y4 y5 y6 y7 j = 0) := by
  refine ⟨fun c => ?_, fun c => ?_⟩
  · rw [h2 j a b, h1 (j - k) (by omega) (by omega), show j - k - -k = j by omega]
  · rw [h2 j a b, bt_out (.inl (by omega))]

set_option maxRecDepth 100000 in
set_option maxHeartbeats 400000 in
theorem trip_any (x0 x1 x2 x3 x4 x5 x6 x7 t : Int) (w : World) (h : Fits x0 x1 x2 x3 x4 x5 x6 x7) (t0 : 0 ≤ t) (t1 : t ≤ 255) :
    Calls Yba.prog 7 #[.agg #[.int .u32 x0, .int .u32 x1, .int .u32 x2, .int .u32 x3, .int .u32 x4, .int .u32 x5, .int .u32 x6, .int .u32 x7], .int .u8 t] w fun e w' => e = .returned (.bool true) ∧ Below w.heap.size w w' := by
  go_enter Yba.func7, Yba.ntmps7
  go_wp2_with fail
  go_at_call 15
  refine (shift_bits x0 x1 x2 x3 x4 x5 x6 x7 (-t) _ h (by omega) (by omega)).mono ?_
  rintro e w1 ⟨r0, r1, r2, r3, r4, r5, r6, r7, rfl, hr, hb1, hw1⟩
  have H1 : Hid _ := hb1
  clear hb1
  obtain ⟨hc, hf⟩ := bcell hw1
  have hz := hw1.size
  simp at hz
  go_wp2_with fail
  go_at_call 15
  refine (shift_bits r0 r1 r2 r3 r4 r5 r6 r7 t _ hr (by omega) (by omega)).mono ?_
  rintro e w2 ⟨y0, y1, y2, y3, y4, y5, y6, y7, rfl, hq, hb2, hw2⟩
  have HT : Hid _ := twice t0 H1.out hb2
  clear hb2 H1
  have hz2 := hw2.size
  go_wp2
  have c0 : (w2.alloc (.cells #[.int .u32 y0, .int .u32 y1, .int .u32 y2, .int .u32 y3, .int .u32 y4, .int .u32 y5, .int .u32 y6, .int .u32 y7] 24)).cell? ⟨w.heap.size + 1, 0, none⟩ = some (.int .u32 x0) := by rw [World.cell?_alloc_past _ _ _ (by omega), (bcell hw2).1 _ _ (by omega), hc _ _ (by simp), World.cell?_alloc_at _ _ _ _ (by simp)]; rfl
  have c1 : (w2.alloc (.cells #[.int .u32 y0, .int .u32 y1, .int .u32 y2, .int .u32 y3, .int .u32 y4, .int .u32 y5, .int .u32 y6, .int .u32 y7] 24)).cell? ⟨w.heap.size + 1, 1, none⟩ = some (.int .u32 x1) := by rw [World.cell?_alloc_past _ _ _ (by omega), (bcell hw2).1 _ _ (by omega), hc _ _ (by simp), World.cell?_alloc_at _ _ _ _ (by simp)]; rfl
  have c2 : (w2.alloc (.cells #[.int .u32 y0, .int .u32 y1, .int .u32 y2, .int .u32 y3, .int .u32 y4, .int .u32 y5, .int .u32 y6, .int .u32 y7] 24)).cell? ⟨w.heap.size + 1, 2, none⟩ = some (.int .u32 x2) := by rw [World.cell?_alloc_past _ _ _ (by omega), (bcell hw2).1 _ _ (by omega), hc _ _ (by simp), World.cell?_alloc_at _ _ _ _ (by simp)]; rfl
  have c3 : (w2.alloc (.cells #[.int .u32 y0, .int .u32 y1, .int .u32 y2, .int .u32 y3, .int .u32 y4, .int .u32 y5, .int .u32 y6, .int .u32 y7] 24)).cell? ⟨w.heap.size + 1, 3, none⟩ = some (.int .u32 x3) := by rw [World.cell?_alloc_past _ _ _ (by omega), (bcell hw2).1 _ _ (by omega), hc _ _ (by simp), World.cell?_alloc_at _ _ _ _ (by simp)]; rfl
  have c4 : (w2.alloc (.cells #[.int .u32 y0, .int .u32 y1, .int .u32 y2, .int .u32 y3, .int .u32 y4, .int .u32 y5, .int .u32 y6, .int .u32 y7] 24)).cell? ⟨w.heap.size + 1, 4, none⟩ = some (.int .u32 x4) := by rw [World.cell?_alloc_past _ _ _ (by omega), (bcell hw2).1 _ _ (by omega), hc _ _ (by simp), World.cell?_alloc_at _ _ _ _ (by simp)]; rfl
  have c5 : (w2.alloc (.cells #[.int .u32 y0, .int .u32 y1, .int .u32 y2, .int .u32 y3, .int .u32 y4, .int .u32 y5, .int .u32 y6, .int .u32 y7] 24)).cell? ⟨w.heap.size + 1, 5, none⟩ = some (.int .u32 x5) := by rw [World.cell?_alloc_past _ _ _ (by omega), (bcell hw2).1 _ _ (by omega), hc _ _ (by simp), World.cell?_alloc_at _ _ _ _ (by simp)]; rfl
  have c6 : (w2.alloc (.cells #[.int .u32 y0, .int .u32 y1, .int .u32 y2, .int .u32 y3, .int .u32 y4, .int .u32 y5, .int .u32 y6, .int .u32 y7] 24)).cell? ⟨w.heap.size + 1, 6, none⟩ = some (.int .u32 x6) := by rw [World.cell?_alloc_past _ _ _ (by omega), (bcell hw2).1 _ _ (by omega), hc _ _ (by simp), World.cell?_alloc_at _ _ _ _ (by simp)]; rfl
  have c7 : (w2.alloc (.cells #[.int .u32 y0, .int .u32 y1, .int .u32 y2, .int .u32 y3, .int .u32 y4, .int .u32 y5, .int .u32 y6, .int .u32 y7] 24)).cell? ⟨w.heap.size + 1, 7, none⟩ = some (.int .u32 x7) := by rw [World.cell?_alloc_past _ _ _ (by omega), (bcell hw2).1 _ _ (by omega), hc _ _ (by simp), World.cell?_alloc_at _ _ _ _ (by simp)]; rfl
  have g0 : (w2.alloc (.cells #[.int .u32 y0, .int .u32 y1, .int .u32 y2, .int .u32 y3, .int .u32 y4, .int .u32 y5, .int .u32 y6, .int .u32 y7] 24)).cell? ⟨w2.heap.size, 0, none⟩ = some (.int .u32 y0) := by rw [World.cell?_alloc_at _ _ _ _ rfl]; rfl
  have g1 : (w2.alloc (.cells #[.int .u32 y0, .int .u32 y1, .int .u32 y2, .int .u32 y3, .int .u32 y4, .int .u32 y5, .int .u32 y6, .int .u32 y7] 24)).cell? ⟨w2.heap.size, 1, none⟩ = some (.int .u32 y1) := by rw [World.cell?_alloc_at _ _ _ _ rfl]; rfl
  have g2 : (w2.alloc (.cells #[.int .u32 y0, .int .u32 y1, .int .u32 y2, .int .u32 y3, .int .u32 y4, .int .u32 y5, .int .u32 y6, .int .u32 y7] 24)).cell? ⟨w2.heap.size, 2, none⟩ = some (.int .u32 y2) := by rw [World.cell?_alloc_at _ _ _ _ rfl]; rfl
  have g3 : (w2.alloc (.cells #[.int .u32 y0, .int .u32 y1, .int .u32 y2, .int .u32 y3, .int .u32 y4, .int .u32 y5, .int .u32 y6, .int .u32 y7] 24)).cell? ⟨w2.heap.size, 3, none⟩ = some (.int .u32 y3) := by rw [World.cell?_alloc_at _ _ _ _ rfl]; rfl
  have g4 : (w2.alloc (.cells #[.int .u32 y0, .int .u32 y1, .int .u32 y2, .int .u32 y3, .int .u32 y4, .int .u32 y5, .int .u32 y6, .int .u32 y7] 24)).cell? ⟨w2.heap.size, 4, none⟩ = some (.int .u32 y4) := by rw [World.cell?_alloc_at _ _ _ _ rfl]; rfl
  have g5 : (w2.alloc (.cells #[.int .u32 y0, .int .u32 y1, .int .u32 y2, .int .u32 y3, .int .u32 y4, .int .u32 y5, .int .u32 y6, .int .u32 y7] 24)).cell? ⟨w2.heap.size, 5, none⟩ = some (.int .u32 y5) := by rw [World.cell?_alloc_at _ _ _ _ rfl]; rfl
  have g6 : (w2.alloc (.cells #[.int .u32 y0, .int .u32 y1, .int .u32 y2, .int .u32 y3, .int .u32 y4, .int .u32 y5, .int .u32 y6, .int .u32 y7] 24)).cell? ⟨w2.heap.size, 6, none⟩ = some (.int .u32 y6) := by rw [World.cell?_alloc_at _ _ _ _ rfl]; rfl
  have g7 : (w2.alloc (.cells #[.int .u32 y0, .int .u32 y1, .int .u32 y2, .int .u32 y3, .int .u32 y4, .int .u32 y5, .int .u32 y6, .int .u32 y7] 24)).cell? ⟨w2.heap.size, 7, none⟩ = some (.int .u32 y7) := by rw [World.cell?_alloc_at _ _ _ _ rfl]; rfl
  have hB : Below w.heap.size w (w2.alloc (.cells #[.int .u32 y0, .int .u32 y1, .int .u32 y2, .int .u32 y3, .int .u32 y4, .int .u32 y5, .int .u32 y6, .int .u32 y7] 24)) := by
    have q1 := ((Below.refl w.heap.size w).alloc (Nat.le_refl _) (.cells #[.int .u32 x0, .int .u32 x1, .int .u32 x2, .int .u32 x3, .int .u32 x4, .int .u32 x5, .int .u32 x6, .int .u32 x7] 23)).alloc (by simp) (.cells #[.int .u32 x0, .int .u32 x1, .int .u32 x2, .int .u32 x3, .int .u32 x4, .int .u32 x5, .int .u32 x6, .int .u32 x7] 24)
    exact q1.trans ((hw1.mono (B' := w.heap.size) (by simp; omega)).trans ((hw2.mono (B' := w.heap.size) (by omega)).alloc (by omega) _))
  clear hw1 hw2 hc hf
  generalize (w2.alloc (.cells #[.int .u32 y0, .int .u32 y1, .int .u32 y2, .int .u32 y3, .int .u32 y4, .int .u32 y5, .int .u32 y6, .int .u32 y7] 24)) = W0 at *
  go_loopw [8] (fun i wr => ∃ k : Nat, k ≤ 256 ∧ i = .int .i64 k ∧ Below W0.heap.size W0 wr) (fun i _ => 256 - (intOf i).toNat)
  case atStart => exact ⟨0, by omega, rfl, Below.refl _ _⟩
  case round =>
    obtain ⟨k, hk, rfl, hw⟩ := hrel
    by_cases hlt : k < 256
    · have k0 := cell_later hw c0
      have l0 := cell_later hw g0
      have k1 := cell_later hw c1
      have l1 := cell_later hw g1
      have k2 := cell_later hw c2
      have l2 := cell_later hw g2
      have k3 := cell_later hw c3
      have l3 := cell_later hw g3
      have k4 := cell_later hw c4
      have l4 := cell_later hw g4
      have k5 := cell_later hw c5
      have l5 := cell_later hw g5
      have k6 := cell_later hw c6
      have l6 := cell_later hw g6
      have k7 := cell_later hw c7
      have l7 := cell_later hw g7
      have f1 : w.heap.size + 1 < wr.heap.size := World.block_lt_of_cell? _ _ k0
      have f2 : w2.heap.size < wr.heap.size := World.block_lt_of_cell? _ _ l0
      clear c0 g0 c1 g1 c2 g2 c3 g3 c4 g4 c5 g5 c6 g6 c7 g7
      by_cases hkt : t ≤ (k : Int)
      · have hne : (bt y0 y1 y2 y3 y4 y5 y6 y7 k != bt x0 x1 x2 x3 x4 x5 x6 x7 k) = false := by rw [(HT.out k (by omega) (by omega)).1 hkt]; simp
        go_wp2_with (go_at_call 16; refine (bbit_any _ _ _ _ _ _ _ _ _ _ ?_).mono ?_; (case refine_1 => (first | exact h | exact hq)); rintro e w' ⟨rfl, rfl⟩)
        go_roundw
        case rel => exact ⟨k + 1, by omega, by go_num, (hw.alloc hw.size _).alloc (by simp; have := hw.size; omega) _⟩
        case measure => simp [intOf]; omega
      · have hne : (bt y0 y1 y2 y3 y4 y5 y6 y7 k != 0) = false := by rw [(HT.out k (by omega) (by omega)).2 (by omega)]; simp
        go_wp2_with (go_at_call 16; refine (bbit_any _ _ _ _ _ _ _ _ _ _ ?_).mono ?_; (case refine_1 => (first | exact h | exact hq)); rintro e w' ⟨rfl, rfl⟩)
        go_roundw
        case rel => exact ⟨k + 1, by omega, by go_num, hw.alloc hw.size _⟩
        case measure => simp [intOf]; omega
    · go_wp2
      go_ret
      exact ⟨rfl, hB.trans (hw.mono hB.size)⟩
end Go.Proofs.Ybulkuki
