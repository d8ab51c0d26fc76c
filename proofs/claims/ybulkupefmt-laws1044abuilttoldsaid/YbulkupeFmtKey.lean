/-
  Seat b1044aF: the walk of readEncryptionKey (7), way by way.
-/
import Derived.Test.YbulkupeFmtRead
import Derived.Maps.OwnOps
namespace Go.Proofs.YbulkupeFmt
open Go.RowKit Go.Extern.Stop Go.Stop Go.Extern
set_option linter.unusedVariables false
attribute [local go_sem] setCell_drewN alloc_drewN call14 guard14 fmtA fmtAr fmtB fmtBr op3 op29 op30 op50

/-! ### A look-up whose answer is known -/
theorem wpList_look {P : Program} {w : World} {ops : Array Oper} {rest : List Oper} {o : Oper} {a : Act} {Q : Exit → Act → World → Prop} (hg : o.guard = none) (m x : Operand) (t : TypeId) (hop : o.op = Op.lookup t m x true)
    (mv kv v : Value) (hm : a.eval m = mv) (hx : a.eval x = kv) (hrun : (Instr.lookup t mv kv true).run P w = .ok v w) (hK : wpList P ops Q rest (a.put o.dst v) w) : wpList P ops Q (o :: rest) a w := by
  refine wpList_plain hg fun K' hK' => ?_
  unfold Oper.wp
  simp [execOp, hop, hm, hx, hrun, Result.andThen]
  exact hK' _ _ hK

/-! ### Worlds that keep a block -/
theorem keep_alloc {w W : World} {bm : Nat} (o : Obj) (hlt : bm < W.heap.size) (h : W.heap[bm]? = w.heap[bm]?) : (W.alloc o).heap[bm]? = w.heap[bm]? :=
  (Below.heap_alloc W o bm hlt).trans h
theorem keep_set {w W : World} {bm R i : Nat} (v : Value) (hne : ¬ bm = R) (h : W.heap[bm]? = w.heap[bm]?) : (W.setCell ⟨R, i, none⟩ v).heap[bm]? = w.heap[bm]? := by
  rw [← h]
  simp only [World.setCell, Array.getElem?_modify]
  rw [if_neg (fun e => hne e.symm)]
theorem keep_drewN {w W : World} {bm n : Nat} (h : W.heap[bm]? = w.heap[bm]?) : (W.drewN n).heap[bm]? = w.heap[bm]? := h

/-! ### Worlds in which one old block alone has turned -/
theorem gb_refl (w : World) (row : Option Nat) : w.grownBy w row := ⟨rfl, rfl, rfl, Nat.le_refl _, fun _ _ _ => rfl⟩
theorem gb_alloc {w W : World} {row : Option Nat} (o : Obj) (h : w.grownBy W row) : w.grownBy (W.alloc o) row :=
  ⟨h.os, h.tape, h.output, Nat.le_trans h.size (by simp), fun k hk hr => (Below.heap_alloc W o k (Nat.lt_of_lt_of_le hk h.size)).trans (h.block k hk hr)⟩
theorem gb_set {w W : World} {R i : Nat} (v : Value) (h : w.grownBy W (some R)) : w.grownBy (W.setCell ⟨R, i, none⟩ v) (some R) :=
  ⟨h.os, h.tape, h.output, by simpa using h.size, fun k hk hr => keep_set v (fun e => hr (by rw [e])) (h.block k hk hr)⟩
theorem gb_drewN {w W : World} {row : Option Nat} {n : Nat} (h : w.grownBy W row) : w.grownBy (W.drewN n) row := ⟨h.os, h.tape, h.output, h.size, h.block⟩

set_option maxRecDepth 100000 in
set_option maxHeartbeats 400000 in
theorem offset_any (R : Nat) (off : Int) (w : World) (h1 : w.cell? ⟨R, 1, none⟩ = some (.int .i64 off)) :
    Calls Ybaf.prog 8 #[.pointer (some ⟨R, 0, none⟩)] w fun e w' => e = .returned (.int .i64 off) ∧ w' = w := by
  go_enter Ybaf.func8, Ybaf.ntmps8
  go_wp2
  go_ret
  exact ⟨rfl, rfl⟩

/-- What readEncryptionKey leaves: the key, the reader's offset; nothing else that was there has turned. -/
def KeyPost (R : Nat) (w : World) (t : Int) (key : Value) (off : Int) (e : Ending) (w' : World) : Prop :=
  e = .returned (.agg #[.int .u16 t, key]) ∧ w.grownBy w' (some R) ∧ w'.cell? ⟨R, 1, none⟩ = some (.int .i64 off)


theorem cell3 {w : World} {a : Addr} {u v1 v2 v3 : Value} (h : w.cell? a = some u) : (((w.setCell a v1).setCell a v2).setCell a v3).cell? a = some v3 :=
  World.cell?_setCell_same _ _ _ (World.cell?_setCell_same _ _ _ (World.cell?_setCell_same _ _ _ h))
end Go.Proofs.YbulkupeFmt
