/-
  Seat b1035a: an argument of type [8]uint32, opened and shut.
-/
import Derived.Test.YbulkukiRows
import Derived.WalkKit
import Derived.ProofKit
import Derived.OpenShut
namespace Go.Proofs.Ybulkuki
open Go.ChangeShapes Go.WideShapes Go.ChangeAt Go.RowKit

theorem Yba.cells22 : Yba.prog.cellsOf 22 = 1 := by kernel_rfl
theorem Yba.cells23 : Yba.prog.cellsOf 23 = 8 := by kernel_rfl

theorem list8 {α : Type} (l : List α) (h : l.length = 8) : ∃ c0 c1 c2 c3 c4 c5 c6 c7, l = [c0, c1, c2, c3, c4, c5, c6, c7] := by
  match l, h with
  | [c0, c1, c2, c3, c4, c5, c6, c7], _ => exact ⟨c0, c1, c2, c3, c4, c5, c6, c7, rfl⟩

theorem open_arr8 {H : Type} {enc : TypeId × Value → H} {W : World} {r : Reach} {b0 base : Nat} {sp : Nat → Bool} {held : Bool} {v : Value} {d : DataW H} {p : List MemPlace}
    (hval : Value.okWide Yba.prog W r b0 23 v) (h : DataW.Trod enc Yba.prog W base sp held 23 v d p) :
    ∃ x0 x1 x2 x3 x4 x5 x6 x7 : Int, v = .agg #[.int .u32 x0, .int .u32 x1, .int .u32 x2, .int .u32 x3, .int .u32 x4, .int .u32 x5, .int .u32 x6, .int .u32 x7] ∧ d = .agg [.lit (.int .u32 x0), .lit (.int .u32 x1), .lit (.int .u32 x2), .lit (.int .u32 x3), .lit (.int .u32 x4), .lit (.int .u32 x5), .lit (.int .u32 x6), .lit (.int .u32 x7)] ∧ p = [] ∧ (Lit.int .u32 x0).wf = true ∧ (Lit.int .u32 x1).wf = true ∧ (Lit.int .u32 x2).wf = true ∧ (Lit.int .u32 x3).wf = true ∧ (Lit.int .u32 x4).wf = true ∧ (Lit.int .u32 x5).wf = true ∧ (Lit.int .u32 x6).wf = true ∧ (Lit.int .u32 x7).wf = true := by
  obtain ⟨cs, rfl, hsz, _⟩ : ∃ cs, v = .agg cs ∧ cs.size = Yba.prog.cellsOf 23 ∧ Row.okWide Yba.prog W r b0 23 cs := by
    simpa [Value.okWide, Yba.underlying23] using hval
  rw [Yba.cells23] at hsz
  obtain ⟨l⟩ := cs
  obtain ⟨c0, c1, c2, c3, c4, c5, c6, c7, rfl⟩ := list8 l (by simpa using hsz)
  obtain ⟨fuel, hf⟩ := h
  obtain ⟨ys, m, _, hx, _, hl, hel⟩ := DataW.trod_array Yba.underlying23 hf
  obtain ⟨y0, y1, y2, y3, y4, y5, y6, y7, rfl⟩ := list8 ys hl
  simp only [Yba.cells22, Nat.mul_one, Value.cells] at hel
  have e0 := hel 0 (by omega)
  have e1 := hel 1 (by omega)
  have e2 := hel 2 (by omega)
  have e3 := hel 3 (by omega)
  have e4 := hel 4 (by omega)
  have e5 := hel 5 (by omega)
  have e6 := hel 6 (by omega)
  have e7 := hel 7 (by omega)
  simp only [List.drop, List.take, List.getElem?_cons_zero] at e0
  simp only [List.drop, List.take, List.getElem?_cons_zero, List.getElem?_cons_succ] at e1
  simp only [List.drop, List.take, List.getElem?_cons_zero, List.getElem?_cons_succ] at e2
  simp only [List.drop, List.take, List.getElem?_cons_zero, List.getElem?_cons_succ] at e3
  simp only [List.drop, List.take, List.getElem?_cons_zero, List.getElem?_cons_succ] at e4
  simp only [List.drop, List.take, List.getElem?_cons_zero, List.getElem?_cons_succ] at e5
  simp only [List.drop, List.take, List.getElem?_cons_zero, List.getElem?_cons_succ] at e6
  simp only [List.drop, List.take, List.getElem?_cons_zero, List.getElem?_cons_succ] at e7
  obtain ⟨x0, q0, rfl, w0⟩ := DataW.trod_int Yba.underlying22 e0
  obtain ⟨x1, q1, rfl, w1⟩ := DataW.trod_int Yba.underlying22 e1
  obtain ⟨x2, q2, rfl, w2⟩ := DataW.trod_int Yba.underlying22 e2
  obtain ⟨x3, q3, rfl, w3⟩ := DataW.trod_int Yba.underlying22 e3
  obtain ⟨x4, q4, rfl, w4⟩ := DataW.trod_int Yba.underlying22 e4
  obtain ⟨x5, q5, rfl, w5⟩ := DataW.trod_int Yba.underlying22 e5
  obtain ⟨x6, q6, rfl, w6⟩ := DataW.trod_int Yba.underlying22 e6
  obtain ⟨x7, q7, rfl, w7⟩ := DataW.trod_int Yba.underlying22 e7
  simp at q0 q1 q2 q3 q4 q5 q6 q7
  subst q0 q1 q2 q3 q4 q5 q6 q7
  simp at hx
  exact ⟨x0, x1, x2, x3, x4, x5, x6, x7, rfl, hx.1, hx.2, w0, w1, w2, w3, w4, w5, w6, w7⟩

theorem shut_arr8 {H : Type} {enc : TypeId × Value → H} {W : World} {base : Nat} {sp : Nat → Bool} {held : Bool} {x0 x1 x2 x3 x4 x5 x6 x7 : Int} (w0 : (Lit.int .u32 x0).wf = true) (w1 : (Lit.int .u32 x1).wf = true) (w2 : (Lit.int .u32 x2).wf = true) (w3 : (Lit.int .u32 x3).wf = true) (w4 : (Lit.int .u32 x4).wf = true) (w5 : (Lit.int .u32 x5).wf = true) (w6 : (Lit.int .u32 x6).wf = true) (w7 : (Lit.int .u32 x7).wf = true) :
    DataW.Trod enc Yba.prog W base sp held 23 (.agg #[.int .u32 x0, .int .u32 x1, .int .u32 x2, .int .u32 x3, .int .u32 x4, .int .u32 x5, .int .u32 x6, .int .u32 x7]) (.agg [.lit (.int .u32 x0), .lit (.int .u32 x1), .lit (.int .u32 x2), .lit (.int .u32 x3), .lit (.int .u32 x4), .lit (.int .u32 x5), .lit (.int .u32 x6), .lit (.int .u32 x7)]) [] :=
  ⟨2, by simp [DataW.trod, Value.cells, Yba.underlying23, Yba.underlying22, Yba.cells23, Yba.cells22, w0, w1, w2, w3, w4, w5, w6, w7, show List.range 8 = [0, 1, 2, 3, 4, 5, 6, 7] from rfl]⟩
end Go.Proofs.Ybulkuki
