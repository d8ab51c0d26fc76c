/-
  Seat b1044aF: the walk of readEncryptionKey (7): a type and no length.
-/
import Derived.Test.YbulkupeFmtKey
namespace Go.Proofs.YbulkupeFmt
open Go.RowKit Go.Extern.Stop Go.Stop Go.Extern
set_option linter.unusedVariables false
attribute [local go_sem] setCell_drewN alloc_drewN call14 guard14 fmtA fmtAr fmtB fmtBr op3 op29 op30 op50

set_option maxRecDepth 100000 in
set_option maxHeartbeats 4000000 in
theorem key_type_known (F : Interp) (R B o len cap bm : Nat) (z0 z1 kl : Int) (lo : Bool) (w : World) (hF : F.answers w.tape)
    (h0 : w.cell? ⟨R, 0, none⟩ = some (.slice (some ⟨B, o, none⟩) len cap)) (h1 : w.cell? ⟨R, 1, none⟩ = some (.int .i64 0)) (h2 : w.cell? ⟨R, 2, none⟩ = some .nilIface)
    (f1 : w.frozen? ⟨R, 1, none⟩ = false) (f2 : w.frozen? ⟨R, 2, none⟩ = false) (hlt : R < w.heap.size) (hl : len ≤ 70000)
    (hg : w.cell? ⟨0, 0, none⟩ = some (.map (some bm))) (hgR : ¬ 0 = R) (hmR : ¬ bm = R) (hm : bm < w.heap.size)
    (hc : len ≤ cap) (hB : ¬ B = R) (hBl : B < w.heap.size)
    (b0 : w.cell? ⟨B, o, none⟩ = some (.int .u8 z0)) (b1 : w.cell? ⟨B, o + 1, none⟩ = some (.int .u8 z1)) (y0 : 0 ≤ z0 ∧ z0 ≤ 255) (y1 : 0 ≤ z1 ∧ z1 ≤ 255)
    (hlook : ∀ W : World, W.heap[bm]? = w.heap[bm]? → (Instr.lookup 39 (.map (some bm)) (.int .u16 (z0 * 256 + z1)) true).run Ybaf.prog W = .ok (.tuple #[.agg #[.int .i64 kl, .bool lo], .bool true]) W)
    (hs2 : 2 ≤ len) (hs : len < 4) (hkl : ((0 : Int) != kl) = true) :
    Calls Ybaf.prog 7 #[.pointer (some ⟨R, 0, none⟩)] w (KeyPost R w (z0 * 256 + z1) (.slice none 0 0) 2) := by
  have hF' := answers_open hF
  have h00 : 0 < w.heap.size := World.block_lt_of_cell? _ _ hg
  have lR1 : R < w.heap.size + 1 := by omega
  have lR2 : R < w.heap.size + 1 + 1 := by omega
  have lR3 : R < w.heap.size + 1 + 1 + 1 := by omega
  have lR4 : R < w.heap.size + 1 + 1 + 1 + 1 := by omega
  have lR5 : R < w.heap.size + 1 + 1 + 1 + 1 + 1 := by omega
  have lR6 : R < w.heap.size + 1 + 1 + 1 + 1 + 1 + 1 := by omega
  have lB1 : B < w.heap.size + 1 := by omega
  have lB2 : B < w.heap.size + 1 + 1 := by omega
  have lB3 : B < w.heap.size + 1 + 1 + 1 := by omega
  have lB4 : B < w.heap.size + 1 + 1 + 1 + 1 := by omega
  have lB5 : B < w.heap.size + 1 + 1 + 1 + 1 + 1 := by omega
  have lB6 : B < w.heap.size + 1 + 1 + 1 + 1 + 1 + 1 := by omega
  have l01 : 0 < w.heap.size + 1 := by omega
  have l02 : 0 < w.heap.size + 1 + 1 := by omega
  have l03 : 0 < w.heap.size + 1 + 1 + 1 := by omega
  have l04 : 0 < w.heap.size + 1 + 1 + 1 + 1 := by omega
  have l05 : 0 < w.heap.size + 1 + 1 + 1 + 1 + 1 := by omega
  have l06 : 0 < w.heap.size + 1 + 1 + 1 + 1 + 1 + 1 := by omega
  go_enter Ybaf.func7, Ybaf.ntmps7
  go_wp2_with fail
  go_at_call 12
  refine (u16_ok R B o len cap _ 0 z0 z1 _ ?_ ?_ ?_ ?_ ?_ (by omega) hl (by omega) hc hB ?_ ?_ ?_ y0 y1).mono ?_
  all_goals (try (first | (go_simp; done) | (simp; omega)))
  rintro e w1 ⟨rfl, k1, rfl⟩
  go_wp2_with fail
  go_at_call 8
  refine (offset_any R 2 _ ?_).mono ?_
  · go_simp
  rintro e w1 ⟨rfl, rfl⟩
  go_wp2_with fail
  go_at_call 12
  refine (u16_short R len cap (some ⟨B, o, none⟩) _ 2 _ ?_ ?_ ?_ ?_ ?_ (by omega) (by omega) hl (by omega)).mono ?_
  all_goals (try (first | (go_simp; done) | (simp; omega)))
  rintro e w1 ⟨rfl, k2, rfl⟩
  go_wp2_with fail
  rw [hlook _ (by repeat' (first | (with_reducible rfl) | (with_reducible refine keep_drewN ?_) | (with_reducible refine keep_alloc _ ?_ ?_) | (with_reducible refine keep_set _ hmR ?_) | (simp; omega)))]
  go_wp2_with fail
  go_at_call 13
  refine (refuse_err R (.pointer (some ⟨w.heap.size + 1 + 1 + 1, 0, none⟩)) _ _ _ _ ?h2).mono ?_
  case h2 => go_simp
  rintro e w1 ⟨rfl, rfl⟩
  go_wp2_with fail
  go_at_call 15
  refine (counted_err R (.pointer (some ⟨w.heap.size + 1 + 1 + 1, 0, none⟩)) _ _ _ _ ?h2).mono ?_
  case h2 => go_simp
  rintro e w1 ⟨rfl, rfl⟩
  go_wp2
  go_returns
  refine ⟨rfl, ?_, ?_⟩
  · repeat' (first | (with_reducible exact gb_refl _ _) | (with_reducible refine gb_drewN ?_) | (with_reducible refine gb_alloc _ ?_) | (with_reducible refine gb_set _ ?_))
  · first | (go_simp; done) | (go_simp; exact cell3 h1)

set_option maxRecDepth 100000 in
set_option maxHeartbeats 4000000 in
theorem key_type_unknown (F : Interp) (R B o len cap bm : Nat) (z0 z1 kl : Int) (lo : Bool) (w : World) (hF : F.answers w.tape)
    (h0 : w.cell? ⟨R, 0, none⟩ = some (.slice (some ⟨B, o, none⟩) len cap)) (h1 : w.cell? ⟨R, 1, none⟩ = some (.int .i64 0)) (h2 : w.cell? ⟨R, 2, none⟩ = some .nilIface)
    (f1 : w.frozen? ⟨R, 1, none⟩ = false) (f2 : w.frozen? ⟨R, 2, none⟩ = false) (hlt : R < w.heap.size) (hl : len ≤ 70000)
    (hg : w.cell? ⟨0, 0, none⟩ = some (.map (some bm))) (hgR : ¬ 0 = R) (hmR : ¬ bm = R) (hm : bm < w.heap.size)
    (hc : len ≤ cap) (hB : ¬ B = R) (hBl : B < w.heap.size)
    (b0 : w.cell? ⟨B, o, none⟩ = some (.int .u8 z0)) (b1 : w.cell? ⟨B, o + 1, none⟩ = some (.int .u8 z1)) (y0 : 0 ≤ z0 ∧ z0 ≤ 255) (y1 : 0 ≤ z1 ∧ z1 ≤ 255)
    (hlook : ∀ W : World, W.heap[bm]? = w.heap[bm]? → (Instr.lookup 39 (.map (some bm)) (.int .u16 (z0 * 256 + z1)) true).run Ybaf.prog W = .ok (.tuple #[.agg #[.int .i64 kl, .bool lo], .bool false]) W)
    (hs2 : 2 ≤ len) (hs : len < 4) :
    Calls Ybaf.prog 7 #[.pointer (some ⟨R, 0, none⟩)] w (KeyPost R w (z0 * 256 + z1) (.slice none 0 0) 2) := by
  have hF' := answers_open hF
  have h00 : 0 < w.heap.size := World.block_lt_of_cell? _ _ hg
  have lR1 : R < w.heap.size + 1 := by omega
  have lR2 : R < w.heap.size + 1 + 1 := by omega
  have lR3 : R < w.heap.size + 1 + 1 + 1 := by omega
  have lR4 : R < w.heap.size + 1 + 1 + 1 + 1 := by omega
  have lR5 : R < w.heap.size + 1 + 1 + 1 + 1 + 1 := by omega
  have lR6 : R < w.heap.size + 1 + 1 + 1 + 1 + 1 + 1 := by omega
  have lB1 : B < w.heap.size + 1 := by omega
  have lB2 : B < w.heap.size + 1 + 1 := by omega
  have lB3 : B < w.heap.size + 1 + 1 + 1 := by omega
  have lB4 : B < w.heap.size + 1 + 1 + 1 + 1 := by omega
  have lB5 : B < w.heap.size + 1 + 1 + 1 + 1 + 1 := by omega
  have lB6 : B < w.heap.size + 1 + 1 + 1 + 1 + 1 + 1 := by omega
  have l01 : 0 < w.heap.size + 1 := by omega
  have l02 : 0 < w.heap.size + 1 + 1 := by omega
  have l03 : 0 < w.heap.size + 1 + 1 + 1 := by omega
  have l04 : 0 < w.heap.size + 1 + 1 + 1 + 1 := by omega
  have l05 : 0 < w.heap.size + 1 + 1 + 1 + 1 + 1 := by omega
  have l06 : 0 < w.heap.size + 1 + 1 + 1 + 1 + 1 + 1 := by omega
  go_enter Ybaf.func7, Ybaf.ntmps7
  go_wp2_with fail
  go_at_call 12
  refine (u16_ok R B o len cap _ 0 z0 z1 _ ?_ ?_ ?_ ?_ ?_ (by omega) hl (by omega) hc hB ?_ ?_ ?_ y0 y1).mono ?_
  all_goals (try (first | (go_simp; done) | (simp; omega)))
  rintro e w1 ⟨rfl, k1, rfl⟩
  go_wp2_with fail
  go_at_call 8
  refine (offset_any R 2 _ ?_).mono ?_
  · go_simp
  rintro e w1 ⟨rfl, rfl⟩
  go_wp2_with fail
  go_at_call 12
  refine (u16_short R len cap (some ⟨B, o, none⟩) _ 2 _ ?_ ?_ ?_ ?_ ?_ (by omega) (by omega) hl (by omega)).mono ?_
  all_goals (try (first | (go_simp; done) | (simp; omega)))
  rintro e w1 ⟨rfl, k2, rfl⟩
  go_wp2_with fail
  rw [hlook _ (by repeat' (first | (with_reducible rfl) | (with_reducible refine keep_drewN ?_) | (with_reducible refine keep_alloc _ ?_ ?_) | (with_reducible refine keep_set _ hmR ?_) | (simp; omega)))]
  go_wp2_with fail
  go_at_call 15
  refine (counted_err R (.pointer (some ⟨w.heap.size + 1 + 1 + 1, 0, none⟩)) _ _ _ _ ?h2).mono ?_
  case h2 => go_simp
  rintro e w1 ⟨rfl, rfl⟩
  go_wp2
  go_returns
  refine ⟨rfl, ?_, ?_⟩
  · repeat' (first | (with_reducible exact gb_refl _ _) | (with_reducible refine gb_drewN ?_) | (with_reducible refine gb_alloc _ ?_) | (with_reducible refine gb_set _ ?_))
  · first | (go_simp; done) | (go_simp; exact cell3 h1)

end Go.Proofs.YbulkupeFmt
