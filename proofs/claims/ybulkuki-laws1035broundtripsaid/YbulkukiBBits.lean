/-
  Seat b1035a: the walk of LawS1035BBits (function 6).
-/
import Derived.Test.YbulkukiShift
import Derived.Lib.QuietBelow
namespace Go.Proofs.Ybulkuki
open Go.RowKit
open Go.Sort (grow)

theorem bcell {W w1 : World} (hb : Below W.heap.size W w1) : (∀ b o, b < W.heap.size → w1.cell? ⟨b, o, none⟩ = W.cell? ⟨b, o, none⟩) ∧ (∀ b o, b < W.heap.size → w1.frozen? ⟨b, o, none⟩ = W.frozen? ⟨b, o, none⟩) :=
  ⟨fun b o h => hb.cell (p := ⟨b, o, none⟩) h, fun b o h => hb.frozen (p := ⟨b, o, none⟩) h⟩

/-- The shift, said by what it does to the bits. -/
theorem shift_bits (x0 x1 x2 x3 x4 x5 x6 x7 s : Int) (w : World) (h : Fits x0 x1 x2 x3 x4 x5 x6 x7) (h0 : -256 < s) (h1 : s < 256) :
    Calls Yba.prog 15 #[.agg #[.int .u32 x0, .int .u32 x1, .int .u32 x2, .int .u32 x3, .int .u32 x4, .int .u32 x5, .int .u32 x6, .int .u32 x7], .int .i64 s] w fun e w' =>
      ∃ r0 r1 r2 r3 r4 r5 r6 r7 : Int, e = .returned (.agg #[.int .u32 r0, .int .u32 r1, .int .u32 r2, .int .u32 r3, .int .u32 r4, .int .u32 r5, .int .u32 r6, .int .u32 r7]) ∧ Fits r0 r1 r2 r3 r4 r5 r6 r7 ∧ (∀ j : Int, 0 ≤ j → j < 256 → bt r0 r1 r2 r3 r4 r5 r6 r7 j = bt x0 x1 x2 x3 x4 x5 x6 x7 (j - s)) ∧ Below w.heap.size w w' :=
  (shift_near x0 x1 x2 x3 x4 x5 x6 x7 s w h h0 h1).mono fun _ _ ⟨he, hw⟩ => ⟨_, _, _, _, _, _, _, _, he, ⟨lim_bd .., lim_bd .., lim_bd .., lim_bd .., lim_bd .., lim_bd .., lim_bd .., lim_bd ..⟩, fun j a b => bt_shift h s j a b, hw⟩

set_option maxRecDepth 100000 in
set_option maxHeartbeats 400000 in
theorem bbits_far (x0 x1 x2 x3 x4 x5 x6 x7 s : Int) (w : World) (h : Fits x0 x1 x2 x3 x4 x5 x6 x7) (h0 : -9223372036854775808 ≤ s) (h1 : s ≤ 9223372036854775807) (hs : 256 ≤ s ∨ s ≤ -256) :
    Calls Yba.prog 6 #[.agg #[.int .u32 x0, .int .u32 x1, .int .u32 x2, .int .u32 x3, .int .u32 x4, .int .u32 x5, .int .u32 x6, .int .u32 x7], .int .i64 s] w fun e w' => e = .returned (.bool true) ∧ Below w.heap.size w w' := by
  have hbuild : ∀ w : World, (Instr.build 24 #[]).run Yba.prog w = .ok (.agg #[.int .u32 0, .int .u32 0, .int .u32 0, .int .u32 0, .int .u32 0, .int .u32 0, .int .u32 0, .int .u32 0]) w := fun _ => by kernel_rfl
  have heql : ∀ w : World, (binOp .eql 24 (.agg #[.int .u32 0, .int .u32 0, .int .u32 0, .int .u32 0, .int .u32 0, .int .u32 0, .int .u32 0, .int .u32 0]) (.agg #[.int .u32 0, .int .u32 0, .int .u32 0, .int .u32 0, .int .u32 0, .int .u32 0, .int .u32 0, .int .u32 0])).run Yba.prog w = .ok (.bool true) w := fun _ => by kernel_rfl
  rcases hs with hs | hs
  · go_enter Yba.func6, Yba.ntmps6
    go_wp2_with fail
    go_at_call 15
    refine (shift_far x0 x1 x2 x3 x4 x5 x6 x7 s _ h h0 h1 (.inl hs)).mono ?_
    rintro e w1 ⟨rfl, hb⟩
    have hz := hb.size
    simp at hz
    go_wp2
    go_ret
    exact ⟨rfl, (((Below.refl w.heap.size w).alloc (Nat.le_refl _) (.cells #[.int .u32 x0, .int .u32 x1, .int .u32 x2, .int .u32 x3, .int .u32 x4, .int .u32 x5, .int .u32 x6, .int .u32 x7] 23)).alloc (by simp) (.cells #[.int .u32 x0, .int .u32 x1, .int .u32 x2, .int .u32 x3, .int .u32 x4, .int .u32 x5, .int .u32 x6, .int .u32 x7] 24)).trans ((hb.mono (B' := w.heap.size) (by simp; omega)).alloc (by omega) _)⟩
  · have hlt : ¬ 256 ≤ s := by omega
    go_enter Yba.func6, Yba.ntmps6
    go_wp2_with fail
    go_at_call 15
    refine (shift_far x0 x1 x2 x3 x4 x5 x6 x7 s _ h h0 h1 (.inr hs)).mono ?_
    rintro e w1 ⟨rfl, hb⟩
    have hz := hb.size
    simp at hz
    go_wp2
    go_ret
    exact ⟨rfl, (((Below.refl w.heap.size w).alloc (Nat.le_refl _) (.cells #[.int .u32 x0, .int .u32 x1, .int .u32 x2, .int .u32 x3, .int .u32 x4, .int .u32 x5, .int .u32 x6, .int .u32 x7] 23)).alloc (by simp) (.cells #[.int .u32 x0, .int .u32 x1, .int .u32 x2, .int .u32 x3, .int .u32 x4, .int .u32 x5, .int .u32 x6, .int .u32 x7] 24)).trans ((hb.mono (B' := w.heap.size) (by simp; omega)).alloc (by omega) _)⟩

set_option maxRecDepth 100000 in
set_option maxHeartbeats 400000 in
theorem bbits_near (x0 x1 x2 x3 x4 x5 x6 x7 s : Int) (w : World) (h : Fits x0 x1 x2 x3 x4 x5 x6 x7) (h0 : -256 < s) (h1 : s < 256) :
    Calls Yba.prog 6 #[.agg #[.int .u32 x0, .int .u32 x1, .int .u32 x2, .int .u32 x3, .int .u32 x4, .int .u32 x5, .int .u32 x6, .int .u32 x7], .int .i64 s] w fun e w' => e = .returned (.bool true) ∧ Below w.heap.size w w' := by
  have hd1 : decide (256 ≤ s) = false := by simp; omega
  have hd2 : decide (s ≤ -256) = false := by simp; omega
  go_enter Yba.func6, Yba.ntmps6
  go_wp2_with fail
  go_at_call 15
  refine (shift_bits x0 x1 x2 x3 x4 x5 x6 x7 s _ h h0 h1).mono ?_
  rintro e w1 ⟨r0, r1, r2, r3, r4, r5, r6, r7, rfl, hr, hbt, hb⟩
  have HBT : Hid _ := hbt
  clear hbt
  obtain ⟨hc, hf⟩ := bcell hb
  have hz := hb.size
  simp at hz
  go_wp2
  have c0 : (w1.alloc (.cells #[.int .u32 r0, .int .u32 r1, .int .u32 r2, .int .u32 r3, .int .u32 r4, .int .u32 r5, .int .u32 r6, .int .u32 r7] 24)).cell? ⟨w.heap.size + 1, 0, none⟩ = some (.int .u32 x0) := by rw [World.cell?_alloc_past _ _ _ (by omega), hc _ _ (by simp), World.cell?_alloc_at _ _ _ _ (by simp)]; rfl
  have c1 : (w1.alloc (.cells #[.int .u32 r0, .int .u32 r1, .int .u32 r2, .int .u32 r3, .int .u32 r4, .int .u32 r5, .int .u32 r6, .int .u32 r7] 24)).cell? ⟨w.heap.size + 1, 1, none⟩ = some (.int .u32 x1) := by rw [World.cell?_alloc_past _ _ _ (by omega), hc _ _ (by simp), World.cell?_alloc_at _ _ _ _ (by simp)]; rfl
  have c2 : (w1.alloc (.cells #[.int .u32 r0, .int .u32 r1, .int .u32 r2, .int .u32 r3, .int .u32 r4, .int .u32 r5, .int .u32 r6, .int .u32 r7] 24)).cell? ⟨w.heap.size + 1, 2, none⟩ = some (.int .u32 x2) := by rw [World.cell?_alloc_past _ _ _ (by omega), hc _ _ (by simp), World.cell?_alloc_at _ _ _ _ (by simp)]; rfl
  have c3 : (w1.alloc (.cells #[.int .u32 r0, .int .u32 r1, .int .u32 r2, .int .u32 r3, .int .u32 r4, .int .u32 r5, .int .u32 r6, .int .u32 r7] 24)).cell? ⟨w.heap.size + 1, 3, none⟩ = some (.int .u32 x3) := by rw [World.cell?_alloc_past _ _ _ (by omega), hc _ _ (by simp), World.cell?_alloc_at _ _ _ _ (by simp)]; rfl
  have c4 : (w1.alloc (.cells #[.int .u32 r0, .int .u32 r1, .int .u32 r2, .int .u32 r3, .int .u32 r4, .int .u32 r5, .int .u32 r6, .int .u32 r7] 24)).cell? ⟨w.heap.size + 1, 4, none⟩ = some (.int .u32 x4) := by rw [World.cell?_alloc_past _ _ _ (by omega), hc _ _ (by simp), World.cell?_alloc_at _ _ _ _ (by simp)]; rfl
  have c5 : (w1.alloc (.cells #[.int .u32 r0, .int .u32 r1, .int .u32 r2, .int .u32 r3, .int .u32 r4, .int .u32 r5, .int .u32 r6, .int .u32 r7] 24)).cell? ⟨w.heap.size + 1, 5, none⟩ = some (.int .u32 x5) := by rw [World.cell?_alloc_past _ _ _ (by omega), hc _ _ (by simp), World.cell?_alloc_at _ _ _ _ (by simp)]; rfl
  have c6 : (w1.alloc (.cells #[.int .u32 r0, .int .u32 r1, .int .u32 r2, .int .u32 r3, .int .u32 r4, .int .u32 r5, .int .u32 r6, .int .u32 r7] 24)).cell? ⟨w.heap.size + 1, 6, none⟩ = some (.int .u32 x6) := by rw [World.cell?_alloc_past _ _ _ (by omega), hc _ _ (by simp), World.cell?_alloc_at _ _ _ _ (by simp)]; rfl
  have c7 : (w1.alloc (.cells #[.int .u32 r0, .int .u32 r1, .int .u32 r2, .int .u32 r3, .int .u32 r4, .int .u32 r5, .int .u32 r6, .int .u32 r7] 24)).cell? ⟨w.heap.size + 1, 7, none⟩ = some (.int .u32 x7) := by rw [World.cell?_alloc_past _ _ _ (by omega), hc _ _ (by simp), World.cell?_alloc_at _ _ _ _ (by simp)]; rfl
  have g0 : (w1.alloc (.cells #[.int .u32 r0, .int .u32 r1, .int .u32 r2, .int .u32 r3, .int .u32 r4, .int .u32 r5, .int .u32 r6, .int .u32 r7] 24)).cell? ⟨w1.heap.size, 0, none⟩ = some (.int .u32 r0) := by rw [World.cell?_alloc_at _ _ _ _ rfl]; rfl
  have g1 : (w1.alloc (.cells #[.int .u32 r0, .int .u32 r1, .int .u32 r2, .int .u32 r3, .int .u32 r4, .int .u32 r5, .int .u32 r6, .int .u32 r7] 24)).cell? ⟨w1.heap.size, 1, none⟩ = some (.int .u32 r1) := by rw [World.cell?_alloc_at _ _ _ _ rfl]; rfl
  have g2 : (w1.alloc (.cells #[.int .u32 r0, .int .u32 r1, .int .u32 r2, .int .u32 r3, .int .u32 r4, .int .u32 r5, .int .u32 r6, .int .u32 r7] 24)).cell? ⟨w1.heap.size, 2, none⟩ = some (.int .u32 r2) := by rw [World.cell?_alloc_at _ _ _ _ rfl]; rfl
  have g3 : (w1.alloc (.cells #[.int .u32 r0, .int .u32 r1, .int .u32 r2, .int .u32 r3, .int .u32 r4, .int .u32 r5, .int .u32 r6, .int .u32 r7] 24)).cell? ⟨w1.heap.size, 3, none⟩ = some (.int .u32 r3) := by rw [World.cell?_alloc_at _ _ _ _ rfl]; rfl
  have g4 : (w1.alloc (.cells #[.int .u32 r0, .int .u32 r1, .int .u32 r2, .int .u32 r3, .int .u32 r4, .int .u32 r5, .int .u32 r6, .int .u32 r7] 24)).cell? ⟨w1.heap.size, 4, none⟩ = some (.int .u32 r4) := by rw [World.cell?_alloc_at _ _ _ _ rfl]; rfl
  have g5 : (w1.alloc (.cells #[.int .u32 r0, .int .u32 r1, .int .u32 r2, .int .u32 r3, .int .u32 r4, .int .u32 r5, .int .u32 r6, .int .u32 r7] 24)).cell? ⟨w1.heap.size, 5, none⟩ = some (.int .u32 r5) := by rw [World.cell?_alloc_at _ _ _ _ rfl]; rfl
  have g6 : (w1.alloc (.cells #[.int .u32 r0, .int .u32 r1, .int .u32 r2, .int .u32 r3, .int .u32 r4, .int .u32 r5, .int .u32 r6, .int .u32 r7] 24)).cell? ⟨w1.heap.size, 6, none⟩ = some (.int .u32 r6) := by rw [World.cell?_alloc_at _ _ _ _ rfl]; rfl
  have g7 : (w1.alloc (.cells #[.int .u32 r0, .int .u32 r1, .int .u32 r2, .int .u32 r3, .int .u32 r4, .int .u32 r5, .int .u32 r6, .int .u32 r7] 24)).cell? ⟨w1.heap.size, 7, none⟩ = some (.int .u32 r7) := by rw [World.cell?_alloc_at _ _ _ _ rfl]; rfl
  have hB : Below w.heap.size w (w1.alloc (.cells #[.int .u32 r0, .int .u32 r1, .int .u32 r2, .int .u32 r3, .int .u32 r4, .int .u32 r5, .int .u32 r6, .int .u32 r7] 24)) := by
    have q1 := ((Below.refl w.heap.size w).alloc (Nat.le_refl _) (.cells #[.int .u32 x0, .int .u32 x1, .int .u32 x2, .int .u32 x3, .int .u32 x4, .int .u32 x5, .int .u32 x6, .int .u32 x7] 23)).alloc (by simp) (.cells #[.int .u32 x0, .int .u32 x1, .int .u32 x2, .int .u32 x3, .int .u32 x4, .int .u32 x5, .int .u32 x6, .int .u32 x7] 24)
    exact q1.trans ((hb.mono (B' := w.heap.size) (by simp; omega)).alloc (by omega) _)
  clear hb hc hf
  generalize (w1.alloc (.cells #[.int .u32 r0, .int .u32 r1, .int .u32 r2, .int .u32 r3, .int .u32 r4, .int .u32 r5, .int .u32 r6, .int .u32 r7] 24)) = W0 at *
  go_loopw [7] (fun i wr => ∃ k : Nat, k ≤ 256 ∧ i = .int .i64 k ∧ Below W0.heap.size W0 wr) (fun i _ => 256 - (intOf i).toNat)
  case atStart => exact ⟨0, by omega, rfl, Below.refl _ _⟩
  case round =>
    obtain ⟨k, hk, rfl, hw⟩ := hrel
    by_cases hlt : k < 256
    · have cR : ∀ d os, Calls Yba.prog 16 #[.agg #[.int .u32 r0, .int .u32 r1, .int .u32 r2, .int .u32 r3, .int .u32 r4, .int .u32 r5, .int .u32 r6, .int .u32 r7], .int .i64 k] (grow (redrawn wr d) os) fun e w'' => e = .returned (.int .u32 (bt r0 r1 r2 r3 r4 r5 r6 r7 k)) ∧ ∃ p : Regrown, w'' = grow (redrawn wr p.d) p.os := fun d os => Calls.regrown_of (bbit_below r0 r1 r2 r3 r4 r5 r6 r7 k _ hr)
      have cX : ∀ d os, Calls Yba.prog 16 #[.agg #[.int .u32 x0, .int .u32 x1, .int .u32 x2, .int .u32 x3, .int .u32 x4, .int .u32 x5, .int .u32 x6, .int .u32 x7], .int .i64 (k - s)] (grow (redrawn wr d) os) fun e w'' => e = .returned (.int .u32 (bt x0 x1 x2 x3 x4 x5 x6 x7 (k - s))) ∧ ∃ p : Regrown, w'' = grow (redrawn wr p.d) p.os := fun d os => Calls.regrown_of (bbit_below x0 x1 x2 x3 x4 x5 x6 x7 (k - s) _ h)
      have k0 := cell_regrown (cell_later hw c0)
      have l0 := cell_regrown (cell_later hw g0)
      have k1 := cell_regrown (cell_later hw c1)
      have l1 := cell_regrown (cell_later hw g1)
      have k2 := cell_regrown (cell_later hw c2)
      have l2 := cell_regrown (cell_later hw g2)
      have k3 := cell_regrown (cell_later hw c3)
      have l3 := cell_regrown (cell_later hw g3)
      have k4 := cell_regrown (cell_later hw c4)
      have l4 := cell_regrown (cell_later hw g4)
      have k5 := cell_regrown (cell_later hw c5)
      have l5 := cell_regrown (cell_later hw g5)
      have k6 := cell_regrown (cell_later hw c6)
      have l6 := cell_regrown (cell_later hw g6)
      have k7 := cell_regrown (cell_later hw c7)
      have l7 := cell_regrown (cell_later hw g7)
      have hwr : IntKind.i64.wrap ((k : Int) - s) = (k : Int) - s := by rw [IntKind.wrap_i64]; omega
      have hne : (bt r0 r1 r2 r3 r4 r5 r6 r7 k != bt x0 x1 x2 x3 x4 x5 x6 x7 (k - s)) = false := by rw [HBT.out k (by omega) (by omega)]; simp
      clear c0 g0 c1 g1 c2 g2 c3 g3 c4 g4 c5 g5 c6 g6 c7 g7
      go_wp2
      refine wp_region_quiet_below (by kernel_rfl) (by kernel_rfl) ?_
      repeat (quiet_step (first | (with_reducible exact cR _ _) | (with_reducible exact cX _ _)))
      refine wpQuiet_nil ?_
      intro _ hw'
      obtain ⟨⟨dq, osq⟩, hw''⟩ := hw'
      subst hw''
      go_wp2
      go_roundw
      case rel => exact ⟨k + 1, by omega, by go_num, hw.trans ((below_regrown wr dq osq).mono hw.size)⟩
      case measure => simp [intOf]; omega
    · go_wp2
      go_ret
      exact ⟨rfl, hB.trans (hw.mono hB.size)⟩

theorem bbits_any (x0 x1 x2 x3 x4 x5 x6 x7 s : Int) (w : World) (h : Fits x0 x1 x2 x3 x4 x5 x6 x7) (hs : -9223372036854775808 ≤ s ∧ s ≤ 9223372036854775807) :
    Calls Yba.prog 6 #[.agg #[.int .u32 x0, .int .u32 x1, .int .u32 x2, .int .u32 x3, .int .u32 x4, .int .u32 x5, .int .u32 x6, .int .u32 x7], .int .i64 s] w fun e w' => e = .returned (.bool true) ∧ Below w.heap.size w w' := by
  by_cases h0 : -256 < s ∧ s < 256
  · exact bbits_near x0 x1 x2 x3 x4 x5 x6 x7 s w h h0.1 h0.2
  · exact bbits_far x0 x1 x2 x3 x4 x5 x6 x7 s w h hs.1 hs.2 (by omega)
end Go.Proofs.Ybulkuki
