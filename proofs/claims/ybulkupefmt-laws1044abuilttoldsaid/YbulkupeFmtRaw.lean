/-
  Seat b1044aF: the walk of LawS1044ARaw (3).
-/
import Derived.Test.YbulkupeFmtRek
namespace Go.Proofs.YbulkupeFmt
open Go.RowKit Go.Extern.Stop Go.Stop Go.Extern
set_option linter.unusedVariables false
attribute [local go_sem] setCell_drewN alloc_drewN

set_option maxRecDepth 100000 in
set_option maxHeartbeats 400000 in
theorem raw_long (a : Option Addr) (len cap : Nat) (w : World) (h : 70000 < len) :
    Calls Ybaf.prog 3 #[.slice a len cap] w fun e w' => e = .returned (.bool true) ∧ Below w.heap.size w w' := by
  have h' : (70000 : Int) < (len : Int) := by omega
  go_enter Ybaf.func3, Ybaf.ntmps3
  go_wp2
  go_ret
  exact ⟨rfl, Below.refl _ _⟩

set_option maxRecDepth 100000 in
set_option maxHeartbeats 1000000 in
theorem raw_nil (F : Interp) (bm : Nat) (w : World) (hF : F.answers w.tape) (hl : Laid w bm) :
    Calls Ybaf.prog 3 #[.slice none 0 0] w fun e w' => e = .returned (.bool true) ∧ Below w.heap.size w w' := by
  have hq := fun (w : World) (a : Option Addr) (n c : Nat) => run_eql_slice_nil (P := Ybaf.prog) w 22 5 a n c Ybaf.underlying22
  go_enter Ybaf.func3, Ybaf.ntmps3
  go_wp2_with fail
  go_at_call 5
  refine (clone_nil _).mono ?_
  rintro e w1 ⟨rfl, rfl⟩
  go_wp2_with fail
  go_at_call 6
  refine (newReader_any _ none 0 0 _ rfl).mono ?_
  rintro e w1' ⟨rfl, rfl⟩
  go_wp2_with fail
  go_at_call 7
  have hr := ready_of (bm := bm) (.slice none 0 0) (Below.refl w1.heap.size w1)
  generalize hR : w1.heap.size + 1 = R at *
  generalize hW : (w1.alloc (.cells #[.slice none 0 0, .int .i64 0, .nilIface] 27)).alloc (.cells #[.slice none 0 0, .int .i64 0, .nilIface] 27) = W at *
  refine (rek_none F w1 W R bm 0 0 none hF hl hr (by omega)).mono ?_
  rintro e w3 ⟨rfl, hd⟩
  clear hR hW
  have d1 := hd.c1
  have d2 := hd.lt
  have d3 := hd.bel
  have D : Hid (Done w1 W w3 R bm 0) := hd
  have RD : Hid (Ready w1 W R bm (.slice none 0 0)) := hr
  have LD : Hid (Laid w1 bm) := hl
  clear hd hr hl
  go_wp2_with (go_at_call 8; refine (offset_any R 0 _ ?_).mono ?_; (case refine_1 => go_simp); rintro e w' ⟨rfl, rfl⟩)
  go_ret
  exact ⟨rfl, d3.alloc d3.size _⟩

theorem news_of {w : World} {ad : Addr} {len : Nat} {zs : List Int} (hcell : ∀ i, i < len → w.cell? (ad.add i) = some (.int .u8 (zs.getD i 0))) (hz : zs.length = len) : ∀ j u, (zs.map (Value.int .u8))[j]? = some u → w.cell? (ad.add j) = some u := by
  intro j u hj
  have hlt : j < zs.length := by
    rcases Nat.lt_or_ge j zs.length with h | h
    · exact h
    · rw [List.getElem?_eq_none (by simpa using h)] at hj; cases hj
  rw [hcell j (by omega)]
  simp [List.getElem?_eq_getElem hlt] at hj
  subst hj
  simp [List.getD, List.getElem?_eq_getElem hlt]

theorem bytes_of {w w1 : World} {g len cap : Nat} {zs : List Int} {v : Value} (hob : OwnBytes w w1 g len cap (zs.map (Value.int .u8))) (hz : zs.length = len) (hrng : ∀ i, 0 ≤ zs.getD i 0 ∧ zs.getD i 0 ≤ 255) :
    Bytes ((w1.alloc (.cells #[v, .int .i64 0, .nilIface] 27)).alloc (.cells #[v, .int .i64 0, .nilIface] 27)) (w1.heap.size + 1) g len cap zs := by
  have hlt := hob.lt
  refine ⟨by omega, by simp; omega, hob.choose_spec.2.2.1, fun i hi => hob.cell hz _ ?_ i hi, hrng⟩
  exact keep_alloc _ (by simp; omega) (keep_alloc _ hlt rfl)

set_option maxRecDepth 100000 in
set_option maxHeartbeats 1000000 in
theorem raw_short (F : Interp) (ad : Addr) (len cap bm : Nat) (zs : List Int) (w : World) (hF : F.answers w.tape) (hl : Laid w bm) (hz : zs.length = len) (hm : len ≤ 70000)
    (hcell : ∀ i, i < len → w.cell? (ad.add i) = some (.int .u8 (zs.getD i 0))) (hrng : ∀ i, 0 ≤ zs.getD i 0 ∧ zs.getD i 0 ≤ 255) (h2 : len < 2) :
    Calls Ybaf.prog 3 #[.slice (some ad) len cap] w fun e w' => e = .returned (.bool true) ∧ Below w.heap.size w w' := by
  have hq := fun (w : World) (a : Option Addr) (n c : Nat) => run_eql_slice_nil (P := Ybaf.prog) w 22 5 a n c Ybaf.underlying22
  go_enter Ybaf.func3, Ybaf.ntmps3
  go_wp2_with fail
  go_at_call 5
  refine (clone_some ad len cap (zs.map (Value.int .u8)) _ (by simpa using hz) hm ?n1 (by simp [Value.oneCell'])).mono ?_
  case n1 => exact news_of hcell hz
  rintro e w1 ⟨g, cap', rfl, hob, hb⟩
  go_wp2_with fail
  go_at_call 6
  refine (newReader_any _ (some ⟨g, 0, none⟩) len cap' _ rfl).mono ?_
  rintro e w1' ⟨rfl, rfl⟩
  go_wp2_with fail
  go_at_call 7
  have hr := ready_of (bm := bm) (.slice (some ⟨g, 0, none⟩) len cap') hb
  have hB := bytes_of (v := .slice (some ⟨g, 0, none⟩) len cap') hob hz hrng
  generalize hR : w1.heap.size + 1 = R at *
  generalize hW : (w1.alloc (.cells #[.slice (some ⟨g, 0, none⟩) len cap', .int .i64 0, .nilIface] 27)).alloc (.cells #[.slice (some ⟨g, 0, none⟩) len cap', .int .i64 0, .nilIface] 27) = W at *
  refine (rek_none F w W R bm len cap' _ hF hl hr h2).mono ?_
  rintro e w3 ⟨rfl, hd⟩
  clear hR hW hob hb
  have d1 := hd.c1
  have d2 := hd.lt
  have d3 := hd.bel
  have D : Hid (Done w W w3 R bm (0)) := hd
  have RD : Hid (Ready w W R bm (.slice (some ⟨g, 0, none⟩) len cap')) := hr
  have BD : Hid (Bytes W R g len cap' zs) := hB
  have LD : Hid (Laid w bm) := hl
  clear hd hr hB hl
  go_wp2_with (go_at_call 8; refine (offset_any R 0 _ ?_).mono ?_; (case refine_1 => go_simp); rintro e w' ⟨rfl, rfl⟩)
  go_ret
  exact ⟨rfl, d3.alloc d3.size _⟩

set_option maxRecDepth 100000 in
set_option maxHeartbeats 1000000 in
theorem raw_type (F : Interp) (b off len cap bm : Nat) (zs : List Int) (w : World) (hF : F.answers w.tape) (hl : Laid w bm) (hz : zs.length = len) (hm : len ≤ 70000)
    (hcell : ∀ i, i < len → w.cell? ((⟨b, off, none⟩ : Addr).add i) = some (.int .u8 (zs.getD i 0))) (hcell' : ∀ i, i < len → w.cell? ⟨b, off + i, none⟩ = some (.int .u8 (zs.getD i 0))) (hrng : ∀ i, 0 ≤ zs.getD i 0 ∧ zs.getD i 0 ≤ 255) (h2 : 2 ≤ len) (h4 : len < 4) :
    Calls Ybaf.prog 3 #[.slice (some ⟨b, off, none⟩) len cap] w fun e w' => e = .returned (.bool true) ∧ Below w.heap.size w w' := by
  have hq := fun (w : World) (a : Option Addr) (n c : Nat) => run_eql_slice_nil (P := Ybaf.prog) w 22 5 a n c Ybaf.underlying22
  go_enter Ybaf.func3, Ybaf.ntmps3
  go_wp2_with fail
  go_at_call 5
  refine (clone_some ⟨b, off, none⟩ len cap (zs.map (Value.int .u8)) _ (by simpa using hz) hm ?n1 (by simp [Value.oneCell'])).mono ?_
  case n1 => exact news_of hcell hz
  rintro e w1 ⟨g, cap', rfl, hob, hb⟩
  go_wp2_with fail
  go_at_call 6
  refine (newReader_any _ (some ⟨g, 0, none⟩) len cap' _ rfl).mono ?_
  rintro e w1' ⟨rfl, rfl⟩
  go_wp2_with fail
  go_at_call 7
  have hr := ready_of (bm := bm) (.slice (some ⟨g, 0, none⟩) len cap') hb
  have hB := bytes_of (v := .slice (some ⟨g, 0, none⟩) len cap') hob hz hrng
  generalize hR : w1.heap.size + 1 = R at *
  generalize hW : (w1.alloc (.cells #[.slice (some ⟨g, 0, none⟩) len cap', .int .i64 0, .nilIface] 27)).alloc (.cells #[.slice (some ⟨g, 0, none⟩) len cap', .int .i64 0, .nilIface] 27) = W at *
  refine (rek_type F w W R bm g len cap' zs hF hl hr hB h2 h4).mono ?_
  rintro e w3 ⟨rfl, hd⟩
  clear hR hW hob hb
  have d1 := hd.c1
  have d2 := hd.lt
  have d3 := hd.bel
  have D : Hid (Done w W w3 R bm (2)) := hd
  have RD : Hid (Ready w W R bm (.slice (some ⟨g, 0, none⟩) len cap')) := hr
  have BD : Hid (Bytes W R g len cap' zs) := hB
  have LD : Hid (Laid w bm) := hl
  clear hd hr hB hl
  have hbl : b < w3.heap.size := by have q1 := World.block_lt_of_cell? _ _ (hcell' 0 (by omega)); have q2 := d3.size; simp at q1; omega
  have e0 : w3.cell? ⟨b, off, none⟩ = some (.int .u8 (zs.getD 0 0)) := cell_later d3 (hcell' 0 (by omega))
  have r0 := hrng 0
  have e1 : w3.cell? ⟨b, off + 1, none⟩ = some (.int .u8 (zs.getD 1 0)) := cell_later d3 (hcell' 1 (by omega))
  have r1 := hrng 1
  have ht : ty zs = zs.getD 0 0 * 256 + zs.getD 1 0 := rfl
  rw [ht]
  clear hcell hcell' hrng ht
  generalize zs.getD 0 0 = z0 at *
  generalize zs.getD 1 0 = z1 at *
  go_wp2_with (first | (go_at_call 9; refine (abe_any b off len cap 0 z0 z1 _ (by omega) (by omega) hm r0 r1 ?_ ?_).mono ?_; (case refine_1 => go_simp); (case refine_2 => go_simp); rintro e w' ⟨rfl, k1, rfl⟩) | (go_at_call 8; refine (offset_any R 2 _ ?_).mono ?_; (case refine_1 => go_simp); rintro e w' ⟨rfl, rfl⟩))
  go_ret
  exact ⟨rfl, below_drewN (d3.alloc d3.size _) _⟩
end Go.Proofs.YbulkupeFmt
