/-
  Seat b1044aF: the world in which readEncryptionKey is called, and the world that it leaves.
-/
import Derived.Test.YbulkupeFmtSmall
import Derived.Test.YbulkupeFmtKey1
import Derived.Test.YbulkupeFmtKey2
import Derived.Test.YbulkupeFmtKey3
import Derived.Test.YbulkupeFmtKey4known
import Derived.Test.YbulkupeFmtKey4unknown
import Derived.Test.YbulkupeFmtKey6
import Derived.Test.YbulkupeFmtMap
namespace Go.Proofs.YbulkupeFmt
open Go.RowKit Go.Extern.Stop Go.Stop Go.Extern
set_option linter.unusedVariables false

/-- A reader in a new block R over the slice v; the map where it was; all that was there as it was. -/
structure Ready (w W : World) (R bm : Nat) (v : Value) : Prop where
  c0 : W.cell? ⟨R, 0, none⟩ = some v
  c1 : W.cell? ⟨R, 1, none⟩ = some (.int .i64 0)
  c2 : W.cell? ⟨R, 2, none⟩ = some .nilIface
  f1 : W.frozen? ⟨R, 1, none⟩ = false
  f2 : W.frozen? ⟨R, 2, none⟩ = false
  lt : R < W.heap.size
  ge : w.heap.size ≤ R
  bel : Below w.heap.size w W

/-- What is asked of the first world: the variable's cell leads to the map, which answers. -/
structure Laid (w : World) (bm : Nat) : Prop where
  g : w.cell? ⟨0, 0, none⟩ = some (.map (some bm))
  lt : bm < w.heap.size
  look : ∀ W' : World, W'.heap[bm]? = w.heap[bm]? → ∀ t : Int, 0 ≤ t → t ≤ 65535 →
      (Instr.lookup 39 (.map (some bm)) (.int .u16 t) true).run Ybaf.prog W' = .ok (.tuple #[.agg #[.int .i64 (ckl t), .bool (clo t)], .bool (ckn t)]) W'

theorem ready_of {w w1 : World} {bm : Nat} (v : Value) (hb : Below w.heap.size w w1) :
    Ready w ((w1.alloc (.cells #[v, .int .i64 0, .nilIface] 27)).alloc (.cells #[v, .int .i64 0, .nilIface] 27)) (w1.heap.size + 1) bm v := by
  have hs := hb.size
  have hk : ∀ i, ((w1.alloc (.cells #[v, .int .i64 0, .nilIface] 27)).alloc (.cells #[v, .int .i64 0, .nilIface] 27)).cell? ⟨w1.heap.size + 1, i, none⟩ = #[v, .int .i64 0, .nilIface][i]? := fun i => World.cell?_alloc_at _ _ _ _ (by simp)
  have hf : ∀ i, ((w1.alloc (.cells #[v, .int .i64 0, .nilIface] 27)).alloc (.cells #[v, .int .i64 0, .nilIface] 27)).frozen? ⟨w1.heap.size + 1, i, none⟩ = false := fun i => World.frozen?_alloc_at _ _ _ _ (by simp)
  exact ⟨hk 0, hk 1, hk 2, hf 1, hf 2, by simp, by omega, (hb.alloc hs _).alloc (by simp; omega) _⟩

theorem OwnBytes.lt {w w' : World} {g len cap : Nat} {news : List Value} (h : OwnBytes w w' g len cap news) : g < w'.heap.size := by
  obtain ⟨cur, h1, h2, _⟩ := h
  exact (Array.getElem?_eq_some_iff.1 h2).1

theorem OwnBytes.cell {w w' : World} {g len cap : Nat} {zs : List Int} (h : OwnBytes w w' g len cap (zs.map (Value.int .u8))) (hl : zs.length = len) (W : World) (hW : W.heap[g]? = w'.heap[g]?) (i : Nat) (hi : i < len) :
    W.cell? ⟨g, i, none⟩ = some (.int .u8 (zs.getD i 0)) := by
  obtain ⟨cur, h1, h2, h3, h4, h5, h6⟩ := h
  rw [h2] at hW
  have e : W.cell? ⟨g, i, none⟩ = cur[i]? := by simp [World.cell?, hW]
  rw [e]
  have : (cur.toList.take len)[i]? = some (.int .u8 (zs.getD i 0)) := by
    rw [h6]
    simp [List.getD, List.getElem?_eq_getElem (show i < zs.length by omega)]
  rw [List.getElem?_take_of_lt hi] at this
  simpa using this

/-- What is known of the world behind readEncryptionKey. -/
structure Done (w W w3 : World) (R bm : Nat) (off : Int) : Prop where
  c1 : w3.cell? ⟨R, 1, none⟩ = some (.int .i64 off)
  lt : R < w3.heap.size
  bel : Below w.heap.size w w3
  size : W.heap.size ≤ w3.heap.size
  kept : ∀ k, k < W.heap.size → ¬ k = R → w3.heap[k]? = W.heap[k]?
  tape : w3.tape = w.tape
  neb : ¬ bm = R

theorem done_of {w W w3 : World} {R bm : Nat} {v : Value} {off : Int} (hl : Laid w bm) (h : Ready w W R bm v) (hg : W.grownBy w3 (some R)) (hc : w3.cell? ⟨R, 1, none⟩ = some (.int .i64 off)) : Done w W w3 R bm off := by
  have h1 := h.lt
  have h2 := h.ge
  have h3 := hg.size
  have h4 := hl.lt
  refine ⟨hc, by omega, h.bel.trans ?_, h3, fun k hk hne => hg.block k hk (fun e => hne (Option.some.inj e)), hg.tape.trans h.bel.tape, by omega⟩
  exact ⟨hg.os, hg.tape, hg.output, hg.size, fun k hk => hg.block k (by omega) (fun e => by have := Option.some.inj e; omega)⟩
end Go.Proofs.YbulkupeFmt
