/-
  Seat b1044aF: the encoding as a plain list; the key that was read and the row that was built.
-/
import Derived.Test.YbulkupeFmtApp
import Derived.Test.YbulkupeFmtRaw
namespace Go.Proofs.YbulkupeFmt
open Go.RowKit Go.Extern.Stop Go.Stop Go.Extern
set_option linter.unusedVariables false

/-- The encoding: type, length, key, tail. -/
def enc4 (t n : Int) (zs ts : List Int) : List Int := t / 256 :: t % 256 :: n / 256 :: n % 256 :: (zs ++ ts)

theorem enc4_ty (t n : Int) (zs ts : List Int) : ty (enc4 t n zs ts) = t := by
  simp [ty, enc4]
  omega
theorem enc4_ln (t n : Int) (zs ts : List Int) : ln (enc4 t n zs ts) = n := by
  simp [ln, enc4]
  omega
theorem getD_rng {l : List Int} (h : ∀ x ∈ l, 0 ≤ x ∧ x ≤ 255) (i : Nat) : 0 ≤ l.getD i 0 ∧ l.getD i 0 ≤ 255 := by
  by_cases hi : i < l.length
  · have := h l[i] (List.getElem_mem hi)
    simpa [List.getD, List.getElem?_eq_getElem hi] using this
  · simp [List.getD, List.getElem?_eq_none (Nat.le_of_not_lt hi)]
theorem mem_rng {l : List Int} (h : ∀ i, 0 ≤ l.getD i 0 ∧ l.getD i 0 ≤ 255) : ∀ x ∈ l, 0 ≤ x ∧ x ≤ 255 := by
  intro x hx
  obtain ⟨i, hi, rfl⟩ := List.getElem_of_mem hx
  have := h i
  simpa [List.getD, List.getElem?_eq_getElem hi] using this
theorem enc4_rng (t n : Int) (zs ts : List Int) (t0 : 0 ≤ t) (t1 : t ≤ 65535) (n0 : 0 ≤ n) (n1 : n ≤ 65535) (hz : ∀ i, 0 ≤ zs.getD i 0 ∧ zs.getD i 0 ≤ 255) (ht : ∀ i, 0 ≤ ts.getD i 0 ∧ ts.getD i 0 ≤ 255) (i : Nat) : 0 ≤ (enc4 t n zs ts).getD i 0 ∧ (enc4 t n zs ts).getD i 0 ≤ 255 := by
  apply getD_rng
  intro x hx
  simp only [enc4, List.mem_cons, List.mem_append] at hx
  rcases hx with rfl | rfl | rfl | rfl | hx | hx
  · omega
  · omega
  · omega
  · omega
  · exact mem_rng hz x hx
  · exact mem_rng ht x hx
theorem enc4_key (t n : Int) (zs ts : List Int) (i : Nat) (hi : i < zs.length) : (enc4 t n zs ts).getD (4 + i) 0 = zs.getD i 0 := by
  have e : 4 + i = i + 1 + 1 + 1 + 1 := by omega
  rw [e]
  simp [enc4, List.getD, List.getElem?_append_left hi]

/-- An owned row that is not empty: its block. -/
theorem own_of_row {w wr W : World} {v : Value} {n : Nat} {xs : List Value} (ho : W.ownsRow wr.heap.size 5 1 v n xs) (hle : w.heap.size ≤ wr.heap.size) (hn : 1 ≤ n) : ∃ g cap, v = .slice (some ⟨g, 0, none⟩) n cap ∧ OwnBytes w W g n cap xs := by
  obtain ⟨_, ⟨e, h0⟩ | ⟨g, cap, cur, e, h1, h2, h3, h4, h5, h6⟩⟩ := ho
  · omega
  · exact ⟨g, cap, e, cur, by omega, h2, by omega, h4, by omega, by simpa using h6⟩

/-- The key that was read and the row that was built are the same. -/
theorem eq_built {w wr W w5 : World} {R bm g len cap G n ad : Nat} {zs ts : List Int} {t : Int} {q : Int} (D : Done w W w5 R bm q) (BD : Bytes W R g len cap (enc4 t n zs ts)) (hf : Filled w wr G n zs) (hG : w5.heap[G]? = wr.heap[G]?) (hGl : G < w5.heap.size)
    (hlen : 4 + n ≤ len) (had : (n : Int) ≠ 0 → ad = 4) (W' : World) (hW' : ∀ k, k < w5.heap.size → W'.heap[k]? = w5.heap[k]?) :
    Calls Ybaf.prog 10 #[.slice (some ⟨g, ad, none⟩) n n, .slice (some ⟨G, 0, none⟩) n n] W' fun e w'' => e = .returned (.bool true) ∧ w'' = W' := by
  have hl := hf.len
  refine equal_any g ad G 0 n n n zs W' hl (fun i hi => ?_) (fun i hi => ?_)
  · rw [had (by omega)]
    have h1 := BD.cell (4 + i) (by omega)
    rw [enc4_key t n zs ts i (by omega)] at h1
    rw [World.cell?_of_block (w := w5) (hW' g (Nat.lt_of_lt_of_le BD.lt D.size)), World.cell?_of_block (w := W) (D.kept g BD.lt BD.ne)]
    exact h1
  · rw [Nat.zero_add]
    exact hf.cell W' ((hW' G hGl).trans hG) i hi
end Go.Proofs.YbulkupeFmt
