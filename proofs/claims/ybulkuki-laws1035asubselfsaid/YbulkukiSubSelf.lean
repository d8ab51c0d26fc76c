/-
  Seat b1035a: the walk of LawS1035ASubSelf (function 5).
-/
import Derived.Test.YbulkukiSub
import Derived.Test.YbulkukiLess
import Derived.Lib.QuietBelow
namespace Go.Proofs.Ybulkuki
open Go.RowKit
open Go.Sort (grow)

theorem bcell {W w1 : World} (hb : Below W.heap.size W w1) : (∀ b o, b < W.heap.size → w1.cell? ⟨b, o, none⟩ = W.cell? ⟨b, o, none⟩) ∧ (∀ b o, b < W.heap.size → w1.frozen? ⟨b, o, none⟩ = W.frozen? ⟨b, o, none⟩) :=
  ⟨fun b o h => hb.cell (p := ⟨b, o, none⟩) h, fun b o h => hb.frozen (p := ⟨b, o, none⟩) h⟩

theorem zeroB_0 : zeroB 0 0 0 0 0 0 0 0 = true := rfl

theorem isZero_below (x0 x1 x2 x3 x4 x5 x6 x7 : Int) (w : World) :
    Calls Yba.prog 11 #[.agg #[.int .u32 x0, .int .u32 x1, .int .u32 x2, .int .u32 x3, .int .u32 x4, .int .u32 x5, .int .u32 x6, .int .u32 x7]] w fun e w' =>
      e = .returned (.bool (zeroB x0 x1 x2 x3 x4 x5 x6 x7)) ∧ Below w.heap.size w w' :=
  (isZero_any x0 x1 x2 x3 x4 x5 x6 x7 w).mono fun _ _ ⟨he, hw⟩ => ⟨he, by rw [hw]; exact (Below.refl _ _).alloc (Nat.le_refl _) _⟩

set_option maxRecDepth 100000 in
set_option maxHeartbeats 400000 in
theorem subself_walk (x0 x1 x2 x3 x4 x5 x6 x7 : Int) (w : World) (h0 : 0 ≤ x0 ∧ x0 ≤ 4294967295) (h1 : 0 ≤ x1 ∧ x1 ≤ 4294967295) (h2 : 0 ≤ x2 ∧ x2 ≤ 4294967295) (h3 : 0 ≤ x3 ∧ x3 ≤ 4294967295) (h4 : 0 ≤ x4 ∧ x4 ≤ 4294967295) (h5 : 0 ≤ x5 ∧ x5 ≤ 4294967295) (h6 : 0 ≤ x6 ∧ x6 ≤ 4294967295) (h7 : 0 ≤ x7 ∧ x7 ≤ 4294967295) :
    Calls Yba.prog 5 #[.agg #[.int .u32 x0, .int .u32 x1, .int .u32 x2, .int .u32 x3, .int .u32 x4, .int .u32 x5, .int .u32 x6, .int .u32 x7]] w fun e w' =>
      e = .returned (.bool true) ∧ Below w.heap.size w w' := by
  have z0 := zeroB_0
  go_enter Yba.func5, Yba.ntmps5
  go_wp2_with fail
  go_at_call 13
  refine (sub_self x0 x1 x2 x3 x4 x5 x6 x7 _ h0 h1 h2 h3 h4 h5 h6 h7).mono ?_
  rintro e w1 ⟨rfl, hb⟩
  obtain ⟨hc, hf⟩ := bcell hb
  have hz := hb.size
  simp at hz
  go_wp2_with (go_at_call 11; refine (isZero_any _ _ _ _ _ _ _ _ _).mono ?_; rintro e w' ⟨rfl, rfl⟩)
  have c0 : ((w1.alloc (.cells #[.int .u32 0, .int .u32 0, .int .u32 0, .int .u32 0, .int .u32 0, .int .u32 0, .int .u32 0, .int .u32 0] 24)).alloc (.cells #[.int .u32 0, .int .u32 0, .int .u32 0, .int .u32 0, .int .u32 0, .int .u32 0, .int .u32 0, .int .u32 0] 24)).cell? ⟨w.heap.size + 1, 0, none⟩ = some (.int .u32 x0) := by rw [World.cell?_alloc_past _ _ _ (by simp; omega), World.cell?_alloc_past _ _ _ (by omega), hc _ _ (by simp), World.cell?_alloc_at _ _ _ _ (by simp)]; rfl
  have c1 : ((w1.alloc (.cells #[.int .u32 0, .int .u32 0, .int .u32 0, .int .u32 0, .int .u32 0, .int .u32 0, .int .u32 0, .int .u32 0] 24)).alloc (.cells #[.int .u32 0, .int .u32 0, .int .u32 0, .int .u32 0, .int .u32 0, .int .u32 0, .int .u32 0, .int .u32 0] 24)).cell? ⟨w.heap.size + 1, 1, none⟩ = some (.int .u32 x1) := by rw [World.cell?_alloc_past _ _ _ (by simp; omega), World.cell?_alloc_past _ _ _ (by omega), hc _ _ (by simp), World.cell?_alloc_at _ _ _ _ (by simp)]; rfl
  have c2 : ((w1.alloc (.cells #[.int .u32 0, .int .u32 0, .int .u32 0, .int .u32 0, .int .u32 0, .int .u32 0, .int .u32 0, .int .u32 0] 24)).alloc (.cells #[.int .u32 0, .int .u32 0, .int .u32 0, .int .u32 0, .int .u32 0, .int .u32 0, .int .u32 0, .int .u32 0] 24)).cell? ⟨w.heap.size + 1, 2, none⟩ = some (.int .u32 x2) := by rw [World.cell?_alloc_past _ _ _ (by simp; omega), World.cell?_alloc_past _ _ _ (by omega), hc _ _ (by simp), World.cell?_alloc_at _ _ _ _ (by simp)]; rfl
  have c3 : ((w1.alloc (.cells #[.int .u32 0, .int .u32 0, .int .u32 0, .int .u32 0, .int .u32 0, .int .u32 0, .int .u32 0, .int .u32 0] 24)).alloc (.cells #[.int .u32 0, .int .u32 0, .int .u32 0, .int .u32 0, .int .u32 0, .int .u32 0, .int .u32 0, .int .u32 0] 24)).cell? ⟨w.heap.size + 1, 3, none⟩ = some (.int .u32 x3) := by rw [World.cell?_alloc_past _ _ _ (by simp; omega), World.cell?_alloc_past _ _ _ (by omega), hc _ _ (by simp), World.cell?_alloc_at _ _ _ _ (by simp)]; rfl
  have c4 : ((w1.alloc (.cells #[.int .u32 0, .int .u32 0, .int .u32 0, .int .u32 0, .int .u32 0, .int .u32 0, .int .u32 0, .int .u32 0] 24)).alloc (.cells #[.int .u32 0, .int .u32 0, .int .u32 0, .int .u32 0, .int .u32 0, .int .u32 0, .int .u32 0, .int .u32 0] 24)).cell? ⟨w.heap.size + 1, 4, none⟩ = some (.int .u32 x4) := by rw [World.cell?_alloc_past _ _ _ (by simp; omega), World.cell?_alloc_past _ _ _ (by omega), hc _ _ (by simp), World.cell?_alloc_at _ _ _ _ (by simp)]; rfl
  have c5 : ((w1.alloc (.cells #[.int .u32 0, .int .u32 0, .int .u32 0, .int .u32 0, .int .u32 0, .int .u32 0, .int .u32 0, .int .u32 0] 24)).alloc (.cells #[.int .u32 0, .int .u32 0, .int .u32 0, .int .u32 0, .int .u32 0, .int .u32 0, .int .u32 0, .int .u32 0] 24)).cell? ⟨w.heap.size + 1, 5, none⟩ = some (.int .u32 x5) := by rw [World.cell?_alloc_past _ _ _ (by simp; omega), World.cell?_alloc_past _ _ _ (by omega), hc _ _ (by simp), World.cell?_alloc_at _ _ _ _ (by simp)]; rfl
  have c6 : ((w1.alloc (.cells #[.int .u32 0, .int .u32 0, .int .u32 0, .int .u32 0, .int .u32 0, .int .u32 0, .int .u32 0, .int .u32 0] 24)).alloc (.cells #[.int .u32 0, .int .u32 0, .int .u32 0, .int .u32 0, .int .u32 0, .int .u32 0, .int .u32 0, .int .u32 0] 24)).cell? ⟨w.heap.size + 1, 6, none⟩ = some (.int .u32 x6) := by rw [World.cell?_alloc_past _ _ _ (by simp; omega), World.cell?_alloc_past _ _ _ (by omega), hc _ _ (by simp), World.cell?_alloc_at _ _ _ _ (by simp)]; rfl
  have c7 : ((w1.alloc (.cells #[.int .u32 0, .int .u32 0, .int .u32 0, .int .u32 0, .int .u32 0, .int .u32 0, .int .u32 0, .int .u32 0] 24)).alloc (.cells #[.int .u32 0, .int .u32 0, .int .u32 0, .int .u32 0, .int .u32 0, .int .u32 0, .int .u32 0, .int .u32 0] 24)).cell? ⟨w.heap.size + 1, 7, none⟩ = some (.int .u32 x7) := by rw [World.cell?_alloc_past _ _ _ (by simp; omega), World.cell?_alloc_past _ _ _ (by omega), hc _ _ (by simp), World.cell?_alloc_at _ _ _ _ (by simp)]; rfl
  have g0 : ((w1.alloc (.cells #[.int .u32 0, .int .u32 0, .int .u32 0, .int .u32 0, .int .u32 0, .int .u32 0, .int .u32 0, .int .u32 0] 24)).alloc (.cells #[.int .u32 0, .int .u32 0, .int .u32 0, .int .u32 0, .int .u32 0, .int .u32 0, .int .u32 0, .int .u32 0] 24)).cell? ⟨w1.heap.size + 1, 0, none⟩ = some (.int .u32 0) := by rw [World.cell?_alloc_at _ _ _ _ (by simp)]; rfl
  have g1 : ((w1.alloc (.cells #[.int .u32 0, .int .u32 0, .int .u32 0, .int .u32 0, .int .u32 0, .int .u32 0, .int .u32 0, .int .u32 0] 24)).alloc (.cells #[.int .u32 0, .int .u32 0, .int .u32 0, .int .u32 0, .int .u32 0, .int .u32 0, .int .u32 0, .int .u32 0] 24)).cell? ⟨w1.heap.size + 1, 1, none⟩ = some (.int .u32 0) := by rw [World.cell?_alloc_at _ _ _ _ (by simp)]; rfl
  have g2 : ((w1.alloc (.cells #[.int .u32 0, .int .u32 0, .int .u32 0, .int .u32 0, .int .u32 0, .int .u32 0, .int .u32 0, .int .u32 0] 24)).alloc (.cells #[.int .u32 0, .int .u32 0, .int .u32 0, .int .u32 0, .int .u32 0, .int .u32 0, .int .u32 0, .int .u32 0] 24)).cell? ⟨w1.heap.size + 1, 2, none⟩ = some (.int .u32 0) := by rw [World.cell?_alloc_at _ _ _ _ (by simp)]; rfl
  have g3 : ((w1.alloc (.cells #[.int .u32 0, .int .u32 0, .int .u32 0, .int .u32 0, .int .u32 0, .int .u32 0, .int .u32 0, .int .u32 0] 24)).alloc (.cells #[.int .u32 0, .int .u32 0, .int .u32 0, .int .u32 0, .int .u32 0, .int .u32 0, .int .u32 0, .int .u32 0] 24)).cell? ⟨w1.heap.size + 1, 3, none⟩ = some (.int .u32 0) := by rw [World.cell?_alloc_at _ _ _ _ (by simp)]; rfl
  have g4 : ((w1.alloc (.cells #[.int .u32 0, .int .u32 0, .int .u32 0, .int .u32 0, .int .u32 0, .int .u32 0, .int .u32 0, .int .u32 0] 24)).alloc (.cells #[.int .u32 0, .int .u32 0, .int .u32 0, .int .u32 0, .int .u32 0, .int .u32 0, .int .u32 0, .int .u32 0] 24)).cell? ⟨w1.heap.size + 1, 4, none⟩ = some (.int .u32 0) := by rw [World.cell?_alloc_at _ _ _ _ (by simp)]; rfl
  have g5 : ((w1.alloc (.cells #[.int .u32 0, .int .u32 0, .int .u32 0, .int .u32 0, .int .u32 0, .int .u32 0, .int .u32 0, .int .u32 0] 24)).alloc (.cells #[.int .u32 0, .int .u32 0, .int .u32 0, .int .u32 0, .int .u32 0, .int .u32 0, .int .u32 0, .int .u32 0] 24)).cell? ⟨w1.heap.size + 1, 5, none⟩ = some (.int .u32 0) := by rw [World.cell?_alloc_at _ _ _ _ (by simp)]; rfl
  have g6 : ((w1.alloc (.cells #[.int .u32 0, .int .u32 0, .int .u32 0, .int .u32 0, .int .u32 0, .int .u32 0, .int .u32 0, .int .u32 0] 24)).alloc (.cells #[.int .u32 0, .int .u32 0, .int .u32 0, .int .u32 0, .int .u32 0, .int .u32 0, .int .u32 0, .int .u32 0] 24)).cell? ⟨w1.heap.size + 1, 6, none⟩ = some (.int .u32 0) := by rw [World.cell?_alloc_at _ _ _ _ (by simp)]; rfl
  have g7 : ((w1.alloc (.cells #[.int .u32 0, .int .u32 0, .int .u32 0, .int .u32 0, .int .u32 0, .int .u32 0, .int .u32 0, .int .u32 0] 24)).alloc (.cells #[.int .u32 0, .int .u32 0, .int .u32 0, .int .u32 0, .int .u32 0, .int .u32 0, .int .u32 0, .int .u32 0] 24)).cell? ⟨w1.heap.size + 1, 7, none⟩ = some (.int .u32 0) := by rw [World.cell?_alloc_at _ _ _ _ (by simp)]; rfl
  have hB : Below w.heap.size w ((w1.alloc (.cells #[.int .u32 0, .int .u32 0, .int .u32 0, .int .u32 0, .int .u32 0, .int .u32 0, .int .u32 0, .int .u32 0] 24)).alloc (.cells #[.int .u32 0, .int .u32 0, .int .u32 0, .int .u32 0, .int .u32 0, .int .u32 0, .int .u32 0, .int .u32 0] 24)) := by
    have h1 := ((Below.refl w.heap.size w).alloc (Nat.le_refl _) (.cells #[.int .u32 x0, .int .u32 x1, .int .u32 x2, .int .u32 x3, .int .u32 x4, .int .u32 x5, .int .u32 x6, .int .u32 x7] 23)).alloc (by simp) (.cells #[.int .u32 x0, .int .u32 x1, .int .u32 x2, .int .u32 x3, .int .u32 x4, .int .u32 x5, .int .u32 x6, .int .u32 x7] 24)
    exact h1.trans (((hb.mono (B' := w.heap.size) (by simp; omega)).alloc (by omega) _).alloc (by simp; omega) _)
  clear hb hc hf
  generalize ((w1.alloc (.cells #[.int .u32 0, .int .u32 0, .int .u32 0, .int .u32 0, .int .u32 0, .int .u32 0, .int .u32 0, .int .u32 0] 24)).alloc (.cells #[.int .u32 0, .int .u32 0, .int .u32 0, .int .u32 0, .int .u32 0, .int .u32 0, .int .u32 0, .int .u32 0] 24)) = W2 at *
  have k0 := cell_regrown c0
  have l0 := cell_regrown g0
  have k1 := cell_regrown c1
  have l1 := cell_regrown g1
  have k2 := cell_regrown c2
  have l2 := cell_regrown g2
  have k3 := cell_regrown c3
  have l3 := cell_regrown g3
  have k4 := cell_regrown c4
  have l4 := cell_regrown g4
  have k5 := cell_regrown c5
  have l5 := cell_regrown g5
  have k6 := cell_regrown c6
  have l6 := cell_regrown g6
  have k7 := cell_regrown c7
  have l7 := cell_regrown g7
  have cZ : ∀ d os, Calls Yba.prog 11 #[.agg #[.int .u32 x0, .int .u32 x1, .int .u32 x2, .int .u32 x3, .int .u32 x4, .int .u32 x5, .int .u32 x6, .int .u32 x7]] (grow (redrawn W2 d) os) fun e w'' => e = .returned (.bool (zeroB x0 x1 x2 x3 x4 x5 x6 x7)) ∧ ∃ p : Regrown, w'' = grow (redrawn W2 p.d) p.os := fun d os => Calls.regrown_of (isZero_below x0 x1 x2 x3 x4 x5 x6 x7 _)
  have cL : ∀ d os, Calls Yba.prog 14 #[.agg #[.int .u32 0, .int .u32 0, .int .u32 0, .int .u32 0, .int .u32 0, .int .u32 0, .int .u32 0, .int .u32 0], .agg #[.int .u32 x0, .int .u32 x1, .int .u32 x2, .int .u32 x3, .int .u32 x4, .int .u32 x5, .int .u32 x6, .int .u32 x7]] (grow (redrawn W2 d) os) fun e w'' => e = .returned (.bool (!zeroB x0 x1 x2 x3 x4 x5 x6 x7)) ∧ ∃ p : Regrown, w'' = grow (redrawn W2 p.d) p.os := fun d os => Calls.regrown_of (less_zero x0 x1 x2 x3 x4 x5 x6 x7 _ h0 h1 h2 h3 h4 h5 h6 h7)
  clear c0 g0 c1 g1 c2 g2 c3 g3 c4 g4 c5 g5 c6 g6 c7 g7
  refine wp_region_quiet_below (by kernel_rfl) (by kernel_rfl) ?_
  repeat (quiet_step (first | exact cZ _ _ | exact cL _ _))
  refine wpQuiet_nil ?_
  intro _ hw'
  obtain ⟨⟨dq, osq⟩, hw''⟩ := hw'
  subst hw''
  go_wp2
  go_ret
  exact ⟨ret_bool (by simp), hB.trans ((below_regrown W2 dq osq).mono hB.size)⟩
end Go.Proofs.Ybulkuki
