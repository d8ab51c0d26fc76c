/-
  Seat b1044aF: the walk of binary.BigEndian.AppendUint16 (11); a new row that is filled cell by cell.
-/
import Derived.Test.YbulkupeFmtRek
namespace Go.Proofs.YbulkupeFmt
open Go.RowKit Go.Extern.Stop Go.Stop Go.Extern
set_option linter.unusedVariables false
attribute [local go_sem] setCell_drewN alloc_drewN

theorem hid_mk {p : Prop} (h : p) : Hid p := h

set_option maxRecDepth 100000 in
set_option maxHeartbeats 400000 in
theorem append16 (base n : Nat) (v : Value) (xs : List Value) (t : Int) (w : World) (hown : w.ownsRow base 5 1 v n xs) (hbase : base ≤ w.heap.size) (hn : n ≤ 70000) (t0 : 0 ≤ t) (t1 : t ≤ 65535) :
    Calls Ybaf.prog 11 #[.agg #[], v, .int .u16 t] w fun e w' => ∃ v', e = .returned v' ∧ w'.ownsRow base 5 1 v' (n + 2) (xs ++ [.int .u8 (t / 256), .int .u8 (t % 256)]) ∧ Below base w w' := by
  obtain ⟨i0, hi, hz0, hz1, hz2⟩ := info5
  have y0 : 0 ≤ t / 256 := by omega
  have y1 : t / 256 ≤ 255 := by omega
  have hb0 : Below base w ((w.alloc (.cells #[] 43)).alloc (.cells #[.int .u8 (t / 256), .int .u8 (t % 256)] 5)) := ((Below.refl base w).alloc hbase _).alloc (by simp; omega) _
  have hlt := hown.lt
  go_enter Ybaf.func11, Ybaf.ntmps11
  go_wp2_with (at_builtin; refine wpList_append_own _ rfl _ _ 22 rfl base 5 i0 (.int .u8 0) 1 1 Ybaf.underlying22 hi hz0 hz1 hz2 rfl (by decide) v n xs rfl ((hown.alloc _).alloc _) ⟨w.heap.size + 1, 0, none⟩ 2 2 [.int .u8 (t / 256), .int .u8 (t % 256)] rfl rfl ?c1 ?c2 (by unfold maxLen; omega) (by omega) (by simp; omega) ?_)
  case c1 => intro j u hj; match j, hj with | 0, hj => simp at hj; subst hj; simp [Addr.add] | 1, hj => simp at hj; subst hj; simp [Addr.add]
  case c2 => intro u hu; simp at hu; rcases hu with rfl | rfl <;> rfl
  intro v' w' ho hgr hnil
  have hb : Below base w w' := hb0.grown hgr (by simp; omega) (fun k hk => (hlt k hk).1)
  clear hgr hnil
  go_wp2
  go_ret
  exact ⟨v', rfl, ho, hb⟩

/-- A row of n bytes in block G, laid by the call; whatever bytes they are. -/
structure Filled (w wr : World) (G n : Nat) (zs : List Int) : Prop where
  len : zs.length = n
  rng : ∀ i, 0 ≤ zs.getD i 0 ∧ zs.getD i 0 ≤ 255
  blk : wr.heap[G]? = some (.cells (zs.map (Value.int .u8)).toArray 5 (0, 0))
  bel : Below w.heap.size w wr
  ge : w.heap.size ≤ G

theorem filled_start (w : World) (o : Obj) (n : Nat) : Filled w ((w.alloc o).alloc (.cells (madeCells #[.int .u8 0] n) 5)) (w.heap.size + 1) n (List.replicate n 0) := by
  refine ⟨by simp, fun i => ?_, ?_, ((Below.refl _ _).alloc (Nat.le_refl _) _).alloc (by simp) _, by omega⟩
  · by_cases hi : i < n
    · simp [List.getD, hi]
    · simp [List.getD, hi]
  · have h1 := (MapKept.heap_alloc (w.alloc o) (.cells (madeCells #[.int .u8 0] n) 5)).1
    simp only [World.size_alloc] at h1
    rw [h1]
    congr 2
    apply Array.ext'
    rw [toList_madeCells_one]
    simp

theorem Filled.lt {w wr : World} {G n : Nat} {zs : List Int} (h : Filled w wr G n zs) : G < wr.heap.size := (Array.getElem?_eq_some_iff.1 h.blk).1

theorem Filled.cell {w wr : World} {G n : Nat} {zs : List Int} (h : Filled w wr G n zs) (W : World) (hW : W.heap[G]? = wr.heap[G]?) (k : Nat) (hk : k < n) : W.cell? ⟨G, k, none⟩ = some (.int .u8 (zs.getD k 0)) := by
  have e : W.cell? ⟨G, k, none⟩ = (zs.map (Value.int .u8)).toArray[k]? := by simp [World.cell?, hW, h.blk]
  have hl := h.len
  rw [e]
  simp [List.getD, List.getElem?_eq_getElem (show k < zs.length by omega)]

theorem Filled.frozen {w wr : World} {G n : Nat} {zs : List Int} (h : Filled w wr G n zs) (k : Nat) : wr.frozen? ⟨G, k, none⟩ = false := by
  simp [World.frozen?, h.blk]

theorem Filled.put {w wr : World} {G n : Nat} {zs : List Int} (h : Filled w wr G n zs) (k : Nat) (z : Int) (hk : k < n) (hz : 0 ≤ z ∧ z ≤ 255) : Filled w (wr.setCell ⟨G, k, none⟩ (.int .u8 z)) G n (zs.set k z) := by
  refine ⟨by simpa using h.len, fun i => ?_, ?_, h.bel.setCell h.ge _, h.ge⟩
  · have := h.rng i
    by_cases hi : k = i
    · subst hi
      by_cases hk2 : k < zs.length
      · simp [List.getD, hk2]; exact hz
      · have := h.len; omega
    · simpa [List.getD, List.getElem?_set_ne hi] using this
  · simp only [World.setCell, Array.getElem?_modify]
    rw [if_pos trivial, h.blk]
    simp [List.map_set]
end Go.Proofs.YbulkupeFmt
