/-
  Seat b1044aF: the walks of bytes.Clone (5), wire.NewReader (6), zzs1044abe (9), bytes.Equal (10).
-/
import Derived.Test.YbulkupeFmtKey
import Derived.Lib.LazyBuf
import Derived.Laws.BytesArg
namespace Go.Proofs.YbulkupeFmt
open Go.RowKit
set_option linter.unusedVariables false
attribute [local go_sem] setCell_drewN alloc_drewN

set_option maxRecDepth 100000 in
set_option maxHeartbeats 400000 in
theorem clone_nil (w : World) : Calls Ybaf.prog 5 #[.slice none 0 0] w fun e w' => e = .returned (.slice none 0 0) ∧ w' = w := by
  have hq := fun (w : World) => run_eql_slice_nil (P := Ybaf.prog) w 22 5 none 0 0 Ybaf.underlying22
  go_enter Ybaf.func5, Ybaf.ntmps5
  go_wp2
  go_ret
  exact ⟨rfl, rfl⟩

/-- A slice of the call's own: a new block whose first cells are the bytes 'news'. -/
def OwnBytes (w w' : World) (g len cap : Nat) (news : List Value) : Prop :=
  ∃ cur, w.heap.size ≤ g ∧ w'.heap[g]? = some (.cells cur 5 (0, 0)) ∧ len ≤ cap ∧ cap ≤ maxLen ∧ cur.size = cap ∧ cur.toList.take len = news

theorem info5' : (Ybaf.prog.info? 5).map (fun i => (i.zero, i.size, i.bytes)) = some (some (.int .u8 0), 1, 1) := by kernel_rfl
theorem info5 : ∃ i, Ybaf.prog.info? 5 = some i ∧ i.zero = some (.int .u8 0) ∧ i.size = 1 ∧ i.bytes = 1 := by
  have h := info5'
  cases hi : Ybaf.prog.info? 5 with
  | none => rw [hi] at h; cases h
  | some i =>
    rw [hi] at h
    simp only [Option.map_some, Option.some.injEq, Prod.mk.injEq] at h
    exact ⟨i, rfl, h.1, h.2.1, h.2.2⟩

set_option maxRecDepth 100000 in
set_option maxHeartbeats 400000 in
theorem clone_some (ad : Addr) (len cap : Nat) (news : List Value) (w : World) (hl : news.length = len) (hm : len ≤ 70000) (hnews : ∀ j u, news[j]? = some u → w.cell? (ad.add j) = some u) (hone : ∀ u ∈ news, u.oneCell' = true) :
    Calls Ybaf.prog 5 #[.slice (some ad) len cap] w fun e w' => ∃ g cap', e = .returned (.slice (some ⟨g, 0, none⟩) len cap') ∧ OwnBytes w w' g len cap' news ∧ Below w.heap.size w w' := by
  have hq := fun (w : World) => run_eql_slice_nil (P := Ybaf.prog) w 22 5 (some ad) len cap Ybaf.underlying22
  obtain ⟨i0, hi, hz0, hz1, hz2⟩ := info5
  have hbs : ∀ w : World, (Instr.buildSlice 22 0 #[]).run Ybaf.prog w = .ok (.slice (some ⟨w.heap.size, 0, none⟩) 0 0) (w.alloc (.cells #[] 5)) := fun _ => by kernel_rfl
  have hown : (w.alloc (.cells #[] 5)).ownsRow w.heap.size 5 1 (.slice (some ⟨w.heap.size, 0, none⟩) 0 0) 0 [] := by
    refine ⟨rfl, .inr ⟨w.heap.size, 0, #[], rfl, Nat.le_refl _, ?_, Nat.le_refl _, by unfold maxLen; omega, rfl, rfl⟩⟩
    exact (MapKept.heap_alloc w _).1
  have hb1 : Below w.heap.size w (w.alloc (.cells #[] 5)) := (Below.refl _ _).alloc (Nat.le_refl _) _
  go_enter Ybaf.func5, Ybaf.ntmps5
  go_wp2_with (at_builtin; refine wpList_append_own _ rfl _ _ 22 rfl w.heap.size 5 i0 (.int .u8 0) 1 1 Ybaf.underlying22 hi hz0 hz1 hz2 rfl (by decide) _ _ _ rfl hown ad len cap news rfl (by omega) ?c1 hone (by unfold maxLen; omega) (by omega) (by simp) ?_)
  case c1 => intro j u hj; exact cell_later hb1 (hnews j u hj)
  intro v' w' ho hgr hnil
  have hex : ∃ g cap', v' = .slice (some ⟨g, 0, none⟩) len cap' ∧ OwnBytes w w' g len cap' news := by
    obtain ⟨_, ⟨e, _⟩ | ⟨g, cap', cur, e, h1, h2, h3, h4, h5, h6⟩⟩ := ho
    · exact absurd e (by simpa using hnil)
    · exact ⟨g, cap', by simpa using e, cur, h1, h2, by omega, h4, by omega, by simpa using h6⟩
  have hb : Below w.heap.size w w' := hb1.grown hgr (by simp) (fun k hk => by simp [Value.ownBlock] at hk; omega)
  obtain ⟨g, cap', hv, hob⟩ := hex
  rw [hv]
  clear ho hgr hnil hv
  go_wp2
  go_ret
  exact ⟨g, cap', rfl, hob, hb⟩

set_option maxRecDepth 100000 in
set_option maxHeartbeats 400000 in
theorem newReader_any (v : Value) (a : Option Addr) (len cap : Nat) (w : World) (hv : v = .slice a len cap) :
    Calls Ybaf.prog 6 #[v] w fun e w' => e = .returned (.agg #[v, .int .i64 0, .nilIface]) ∧ w' = w.alloc (.cells #[v, .int .i64 0, .nilIface] 27) := by
  subst hv
  go_enter Ybaf.func6, Ybaf.ntmps6
  go_wp2
  go_returns
  exact ⟨rfl, rfl⟩

theorem or_i64 (z0 z1 : Int) (h0 : 0 ≤ z0 ∧ z0 ≤ 255) (h1 : 0 ≤ z1 ∧ z1 ≤ 255) : bits .or .i64 (z0 * 256) z1 = z0 * 256 + z1 := by
  obtain ⟨a, rfl⟩ := Int.eq_ofNat_of_zero_le h0.1
  obtain ⟨b, rfl⟩ := Int.eq_ofNat_of_zero_le h1.1
  have e : (a : Int) * 256 = ((2 ^ 8 * a : Nat) : Int) := by omega
  rw [e, (bits_nat .i64 63 (by decide) (fun n a b => by rw [IntKind.wrap_i64]; omega) (2 ^ 8 * a) b (by omega) (by omega)).2, ← Nat.two_pow_add_eq_or_of_lt (by omega)]
  omega

set_option maxRecDepth 100000 in
set_option maxHeartbeats 400000 in
theorem abe_any (b o len cap : Nat) (i z0 z1 : Int) (w : World) (i0 : 0 ≤ i) (i1 : i + 1 < len) (hl : len ≤ 70000) (y0 : 0 ≤ z0 ∧ z0 ≤ 255) (y1 : 0 ≤ z1 ∧ z1 ≤ 255)
    (c0 : w.cell? ⟨b, o + i.toNat, none⟩ = some (.int .u8 z0)) (c1 : w.cell? ⟨b, o + (i + 1).toNat, none⟩ = some (.int .u8 z1)) :
    Calls Ybaf.prog 9 #[.slice (some ⟨b, o, none⟩) len cap, .int .i64 i] w fun e w' => e = .returned (.int .i64 (z0 * 256 + z1)) ∧ ∃ k, w' = w.drewN k := by
  have h1 : i < len := by omega
  go_enter Ybaf.func9, Ybaf.ntmps9
  go_wp2
  go_quiet (fail)
  go_wp2
  go_ret
  exact ⟨ret_int (or_i64 z0 z1 y0 y1), _, rfl⟩

set_option maxRecDepth 100000 in
set_option maxHeartbeats 400000 in
theorem equal_any (b o b' o' n c c' : Nat) (xs : List Int) (w : World) (hx : xs.length = n) (h1 : ∀ i, i < n → w.cell? ⟨b, o + i, none⟩ = some (.int .u8 (xs.getD i 0))) (h2 : ∀ i, i < n → w.cell? ⟨b', o' + i, none⟩ = some (.int .u8 (xs.getD i 0))) :
    Calls Ybaf.prog 10 #[.slice (some ⟨b, o, none⟩) n c, .slice (some ⟨b', o', none⟩) n c'] w fun e w' => e = .returned (.bool true) ∧ w' = w := by
  have k1 := run_convert_bytes_arg (P := Ybaf.prog) w 22 5 Ybaf.underlying22 Ybaf.underlying5 b o n c xs hx h1 9 Ybaf.underlying9
  have k2 := run_convert_bytes_arg (P := Ybaf.prog) w 22 5 Ybaf.underlying22 Ybaf.underlying5 b' o' n c' xs hx h2 9 Ybaf.underlying9
  clear h1 h2
  go_enter Ybaf.func10, Ybaf.ntmps10
  go_wp2
  go_ret
  exact ⟨by simp, rfl⟩
end Go.Proofs.YbulkupeFmt
