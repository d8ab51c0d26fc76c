/-
  Seat b1044aF: what the listed map gives the walks: its cell, and each look-up.
-/
import Derived.Test.YbulkupeFmtRows
import Derived.WalkKit
import Derived.ProofKit
import Derived.LaidMore
import Derived.OpenShut
import Derived.Maps.Keyed
namespace Go.Proofs.YbulkupeFmt
open Go.ChangeShapes Go.WideShapes Go.ChangeAt Go.WideMaps Go.WideElems Go.RowKit

/-- Is the crypto type known; its key's length; do LeaseSets alone carry it. -/
def ckn (t : Int) : Bool := t == 0 || t == 4 || t == 5 || t == 6 || t == 7
def ckl (t : Int) : Int := if t = 0 then 256 else if t = 4 ∨ t = 5 ∨ t = 6 ∨ t = 7 then 32 else 0
def clo (t : Int) : Bool := t == 5 || t == 6 || t == 7

theorem gMap : Ybaf.prog.globalNamed (Rows.lawS1044ARawSpec.vars.getD 0 "") = some 0 := by kernel_rfl
theorem tMap : (Ybaf.prog.globals[0]?).map (·.type) = some 39 := by kernel_rfl
theorem cells3 : Ybaf.prog.cellsOf 3 = 1 := by kernel_rfl
theorem cells4 : Ybaf.prog.cellsOf 4 = 1 := by kernel_rfl
theorem cells37 : Ybaf.prog.cellsOf 37 = 2 := by kernel_rfl
theorem zero37 (w : World) : (zeroValue 37).run Ybaf.prog w = .ok (.agg #[.int .i64 0, .bool false]) w := by kernel_rfl
theorem under37 : ∃ f0 f1 : Field, Ybaf.prog.underlying 37 = some (.struct #[f0, f1]) ∧ f0.type = 3 ∧ f1.type = 4 ∧ f0.offset = 0 ∧ f1.offset = 1 := ⟨_, _, Ybaf.underlying37, rfl, rfl, rfl, rfl⟩

/-- An element, off its reading. -/
theorem elem37 {H : Type} {enc : TypeId × Value → H} {W : World} {base : Nat} {sp : Nat → Bool} {held : Bool} {n : Nat} {v : Value} {z : DataW H × List MemPlace} {k : Int} {b : Bool}
    (h : elemAt enc Ybaf.prog W base sp held n 37 v = some z) (hz : z.1 = .agg [.lit (.int .i64 k), .lit (.bool b)]) : v = .agg #[.int .i64 k, .bool b] := by
  obtain ⟨f0, f1, hu, t0, t1, o0, o1⟩ := under37
  unfold elemAt at h
  split at h
  · rename_i hf
    obtain ⟨y0, y1, m, hx, hl, h0, h1⟩ := trod_struct2 hu h
    rw [t0, o0, cells3] at h0
    rw [t1, o1, cells4] at h1
    rw [cells37] at hl
    obtain ⟨a0, e0, rfl, _⟩ := DataW.trod_int Ybaf.underlying3 h0
    obtain ⟨a1, e1, rfl⟩ := DataW.trod_bool Ybaf.underlying4 h1
    rw [hx] at hz
    simp at hz
    obtain ⟨rfl, rfl⟩ := hz
    cases v <;> simp [Value.formed, hu, Value.cells] at hf e0 e1 hl
    rename_i cs
    obtain ⟨l⟩ := cs
    match l, e0, e1, hl with
    | [c0, c1], e0, e1, _ =>
      simp at e0 e1
      rw [e0, e1]
  · cases h

theorem at_known (t : Int) (h : ckn t = true) (zd : DataW Unit) : (Rows.laid_example_com_garlicwire_garlicwire_netdb_cryptoTypes : DataW Unit).atKey (.int .u16 t) zd = .agg [.lit (.int .i64 (ckl t)), .lit (.bool (clo t))] := by
  simp [ckn] at h
  rcases h with (((rfl | rfl) | rfl) | rfl) | rfl <;> rfl
theorem at_unknown (t : Int) (h : ckn t = false) (zd : DataW Unit) : (Rows.laid_example_com_garlicwire_garlicwire_netdb_cryptoTypes : DataW Unit).atKey (.int .u16 t) zd = zd := by
  simp [ckn] at h
  obtain ⟨⟨⟨⟨h0, h4⟩, h5⟩, h6⟩, h7⟩ := h
  have e : ∀ k : Int, k ≠ t → Lit.sameKey (.int .u16 k) (.int .u16 t) = false := by
    intro k hk
    simp [Lit.sameKey, hk]
  simp [Rows.laid_example_com_garlicwire_garlicwire_netdb_cryptoTypes, DataW.atKey, e 0 (fun q => h0 q.symm), e 4 (fun q => h4 q.symm), e 5 (fun q => h5 q.symm), e 6 (fun q => h6 q.symm), e 7 (fun q => h7 q.symm)]

/-- What the condition gives the walks. -/
theorem of_laid {W : World} (h : laidMetH Ybaf.prog Rows.lawS1044ARawRow.laid W) :
    ∃ bm, W.cell? ⟨0, 0, none⟩ = some (.map (some bm)) ∧ bm < W.heap.size ∧ ¬ bm = 0 ∧ ∀ W' : World, W'.heap[bm]? = W.heap[bm]? → ∀ t : Int, 0 ≤ t → t ≤ 65535 →
      (Instr.lookup 39 (.map (some bm)) (.int .u16 t) true).run Ybaf.prog W' = .ok (.tuple #[.agg #[.int .i64 (ckl t), .bool (clo t)], .bool (ckn t)]) W' := by
  rw [MakeChecks.laidMetH_plain _ _ _ (by kernel_rfl)] at h
  obtain ⟨ps, ⟨g0, t0, cs0, f0, p0, q0, hg0, ht0, hv0, hd0, _, _⟩, _, _⟩ := h
  obtain rfl := Option.some.inj (gMap.symm.trans hg0)
  obtain rfl := Option.some.inj (tMap.symm.trans ht0)
  rcases open_map Ybaf.underlying39 hd0 with ⟨_, hx⟩ | ⟨bm, es, clock, m, rfl, hcs, hb, _, F, hx⟩
  · simp [Rows.laid_example_com_garlicwire_garlicwire_netdb_cryptoTypes] at hx
  simp only [Prod.mk.injEq] at hx
  have hcell : W.cell? ⟨0, 0, none⟩ = some (.map (some bm)) := by
    have := World.var?_cell hg0 hv0 0
    rw [Array.eq_one_of_toList hcs] at this
    simpa using this
  refine ⟨bm, hcell, ?_, ?_, ?_⟩
  · exact (Array.getElem?_eq_some_iff.1 hb).1
  · rintro rfl
    simp [World.cell?, hb] at hcell
  · intro W' hk t h0 h1
    have hkey : keyOf Ybaf.prog 30 (.int .u16 t) = some (.int .u16 t) := Maps.keyOf_int_mk Ybaf.underlying30 (by simp [Lit.wf, IntKind.min, IntKind.max, IntKind.signed, IntKind.bits]; omega)
    rcases Maps.fit_look (w := W') true (Maps.int_keyed Ybaf.underlying30) Ybaf.underlying39 (zero37 W') (hk.trans hb) F hkey with ⟨hrun, _, hat⟩ | ⟨e0, y, _, _, hrun, hR, hat, _⟩
    · have hat0 := hat .nil
      rw [← hx.1] at hat0
      cases hc : ckn t with
      | true => rw [at_known t hc] at hat0; cases hat0
      | false =>
        have k1 : ckl t = 0 := by
          unfold ckn at hc
          unfold ckl
          simp at hc
          rw [if_neg (by omega), if_neg (by omega)]
        have k2 : clo t = false := by
          unfold ckn at hc
          unfold clo
          simp at hc ⊢
          omega
        rw [k1, k2]
        exact hrun
    · have hat0 := hat .nil
      rw [← hx.1] at hat0
      cases hc : ckn t with
      | true =>
        rw [at_known t hc] at hat0
        have := elem37 hR hat0.symm
        rw [this] at hrun
        exact hrun
      | false =>
        rw [at_unknown t hc] at hat0
        have hat1 := hat (.lit (.bool true))
        rw [← hx.1, at_unknown t hc, ← hat0] at hat1
        cases hat1
end Go.Proofs.YbulkupeFmt
