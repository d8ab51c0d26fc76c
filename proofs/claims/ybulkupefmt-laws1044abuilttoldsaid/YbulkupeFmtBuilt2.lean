/-
  Seat b1044aF: the walk of LawS1044ABuilt (4): the tail is not nil.
-/
import Derived.Test.YbulkupeFmtEnc
import Derived.Deep.OwnRows
import Derived.Laws.AppendOwnNone
namespace Go.Proofs.YbulkupeFmt
open Go.RowKit Go.Extern.Stop Go.Stop Go.Extern

set_option linter.unusedVariables false
attribute [local go_sem] setCell_drewN alloc_drewN

set_option maxRecDepth 100000 in
set_option maxHeartbeats 1000000 in
theorem built_known (F : Interp) (t : Int) (ak : Option Addr) (lk ck kn bm : Nat) (ks : List Int) (ad2 : Addr) (lt ct : Nat) (ts : List Int) (w : World) (hF : F.answers w.tape) (hl : Laid w bm) (t0 : 0 ≤ t) (t1 : t ≤ 65535)
    (hk4 : lk ≤ 4096) (hkey : lk = 0 ∨ ∃ b o, ak = some ⟨b, o, none⟩ ∧ ∀ i, i < lk → w.cell? ⟨b, o + i, none⟩ = some (.int .u8 (ks.getD i 0))) (hkr : ∀ i, 0 ≤ ks.getD i 0 ∧ ks.getD i 0 ≤ 255)
    (htl : ts.length = lt) (ht4 : lt ≤ 4096) (htc : ∀ i, i < lt → w.cell? (ad2.add i) = some (.int .u8 (ts.getD i 0))) (htr : ∀ i, 0 ≤ ts.getD i 0 ∧ ts.getD i 0 ≤ 255)
    (hk : ckn t = true) (hkn : ckl t = (kn : Int)) (hn : kn ≤ 4096) :
    Calls Ybaf.prog 4 #[.int .u16 t, .slice ak lk ck, .slice (some ad2) lt ct] w fun e w' => e = .returned (.bool true) ∧ Below w.heap.size w w' := by
  have hq2 := fun (w : World) (a : Option Addr) (n c : Nat) => run_neq_slice_nil (P := Ybaf.prog) w 22 5 a n c Ybaf.underlying22
  have hlo := hl.look w rfl t t0 t1
  rw [hk] at hlo
  rw [hkn] at hlo
  have hg := hl.g
  generalize clo t = cl at *
  have hmk := fun (W : World) => run_make_row' (P := Ybaf.prog) 22 5 (.int .u8 0) 1 Ybaf.underlying22 info5' rfl .i64 .i64 kn (by omega) (by omega) W
  have HK : Hid _ := hk
  have HL : Hid (Laid w bm) := hl
  clear hk hl
  have HKN : Hid _ := hkn
  clear hkn
  have db1 : decide ((4096 : Int) < (lk : Int)) = false := by simp; omega
  have db2 : decide ((kn : Int) < 0) = false := by simp
  have db3 : decide ((65535 : Int) < (kn : Int)) = false := by simp; omega
  have db4 : decide ((4096 : Int) < (lt : Int)) = false := by simp; omega
  go_enter Ybaf.func4, Ybaf.ntmps4
  go_wp2
  have hst := filled_start w (.cells #[.int .i64 (kn : Int), .bool cl] 37) kn
  generalize hG : w.heap.size + 1 = G at *
  generalize hW0 : (w.alloc (.cells #[.int .i64 (kn : Int), .bool cl] 37)).alloc (.cells (madeCells #[.int .u8 0] kn) 5) = W0 at *
  clear hG hW0 hmk hlo
  go_loopw [11] (fun i wr => ∃ (k : Nat) (zs : List Int), k ≤ kn ∧ i = .int .i64 k ∧ Filled w wr G kn zs) (fun i _ => kn - (intOf i).toNat)
  case atStart => exact ⟨0, _, Nat.zero_le _, rfl, hst⟩
  case round =>
    obtain ⟨k, zs, hk, rfl, hf⟩ := hrel
    by_cases hlt : k < kn
    · have c1 := hf.cell wr rfl k hlt
      have c2 := hf.frozen k
      have c3 := hf.lt
      have HF : Hid (Filled w wr G kn zs) := hf
      clear hf
      by_cases h0 : lk = 0
      · subst h0
        go_wp2
        go_roundw
        case rel => exact ⟨k + 1, _, by omega, by go_num, HF.out.put k _ hlt (by omega)⟩
        case measure => simp [intOf]; omega
      · obtain ⟨b, o, hb, hcell⟩ : ∃ b o, ak = some ⟨b, o, none⟩ ∧ ∀ i, i < lk → w.cell? ⟨b, o + i, none⟩ = some (.int .u8 (ks.getD i 0)) := hkey.resolve_left h0
        subst hb
        have hm : k % lk < lk := Nat.mod_lt _ (by omega)
        have kc : wr.cell? ⟨b, o + k % lk, none⟩ = some (.int .u8 (ks.getD (k % lk) 0)) := cell_later HF.out.bel (hcell _ hm)
        have kb : b < w.heap.size := World.block_lt_of_cell? _ _ (hcell 0 (by omega))
        have kr := hkr (k % lk)
        generalize ks.getD (k % lk) 0 = z at *
        have m0 : (0 : Int) ≤ (k : Int) % (lk : Int) := by omega
        have m1 : (k : Int) % (lk : Int) < (lk : Int) := by omega
        have m2 : ((k : Int) % (lk : Int)).toNat = k % lk := by omega
        have p0 : (0 : Int) < (lk : Int) := by omega
        clear hcell hkr
        go_wp2
        go_roundw
        case rel => exact ⟨k + 1, _, by omega, by go_num, HF.out.put k _ hlt (by omega)⟩
        case measure => simp [intOf]; omega
    · have hk' : kn = k := by omega
      subst hk'
      clear hlt hk
      obtain ⟨i0, hi, hz0, hz1, hz2⟩ := info5
      have hfl := hf.lt
      have HF : Hid (Filled w wr G kn zs) := hf
      clear hf
      go_wp2_with fail
      go_at_call 11
      refine (append16 wr.heap.size 0 (.slice none 0 0) [] t _ (World.ownsRow_nil _ _ _ _) (Nat.le_refl _) (by omega) t0 t1).mono ?_
      rintro e w1 ⟨v1, rfl, ho1, hb1⟩
      simp only [Nat.zero_add, List.nil_append] at ho1
      go_wp2_with fail
      go_at_call 11
      refine (append16 wr.heap.size 2 v1 _ (kn : Int) w1 ho1 hb1.size (by omega) (by omega) (by omega)).mono ?_
      rintro e w2 ⟨v2, rfl, ho2, hb2⟩
      have hB2 : Below wr.heap.size wr w2 := hb1.trans hb2
      have hnG : ∀ j u, (zs.map (Value.int .u8))[j]? = some u → w2.cell? ((⟨G, 0, none⟩ : Addr).add j) = some u := by
        refine news_of (len := kn) (fun i hi => ?_) HF.out.len
        have hadd : (⟨G, 0, none⟩ : Addr).add i = ⟨G, i, none⟩ := by unfold Addr.add; split <;> simp_all
        rw [hadd]
        exact HF.out.cell w2 (hB2.block G hfl) i hi
      have hlz := HF.out.len
      clear hb1 hb2 ho1
      go_wp2_with (at_builtin; refine wpList_append_own _ rfl _ _ 22 rfl wr.heap.size 5 i0 (.int .u8 0) 1 1 Ybaf.underlying22 hi hz0 hz1 hz2 rfl (by decide) v2 4 _ rfl ho2 ⟨G, 0, none⟩ kn kn (zs.map (Value.int .u8)) rfl (by simpa using hlz) hnG (ints_oneCell .u8 zs) (by unfold maxLen; omega) (by omega) hB2.size ?_; intro v3 w3 ho3 hg3 hn3; refine Hid.out ?_)
      refine hid_mk ?_
      have hB3 : Below wr.heap.size wr w3 := hB2.grown hg3 hB2.size (fun k hk => (ho2.lt k hk).1)
      clear hg3 hn3 hnG
      have hnT : ∀ j u, (ts.map (Value.int .u8))[j]? = some u → w3.cell? (ad2.add j) = some u := by
        intro j u hj
        exact cell_later hB3 (cell_later HF.out.bel (news_of htc htl j u hj))
      go_wp2_with (at_builtin; refine wpList_append_own _ rfl _ _ 22 rfl wr.heap.size 5 i0 (.int .u8 0) 1 1 Ybaf.underlying22 hi hz0 hz1 hz2 rfl (by decide) v3 (4 + kn) _ rfl ho3 ad2 lt ct (ts.map (Value.int .u8)) rfl (by simpa using htl) hnT (ints_oneCell .u8 ts) (by unfold maxLen; omega) (by omega) hB3.size ?_; intro v4 w4 ho4 hg4 hn4; refine Hid.out ?_)
      refine hid_mk ?_
      have hB4 : Below wr.heap.size wr w4 := hB3.grown hg4 hB3.size (fun k hk => (ho3.lt k hk).1)
      clear hg4 hn4 hnT
      obtain ⟨g, cap', hv, hob⟩ := own_of_row (w := w) ho4 HF.out.bel.size (by omega)
      have hbw : Below w.heap.size w w4 := HF.out.bel.trans (hB4.mono HF.out.bel.size)
      have hob' : OwnBytes w w4 g (4 + kn + lt) cap' ((enc4 t (kn : Int) zs ts).map (Value.int .u8)) := by simpa [enc4] using hob
      have hlenL : (enc4 t (kn : Int) zs ts).length = 4 + kn + lt := by simp [enc4]; omega
      have hrL := enc4_rng t (kn : Int) zs ts t0 t1 (by omega) (by omega) HF.out.rng htr
      clear hob ho2 ho3 ho4
      rw [hv]
      clear hv
      go_wp2_with fail
      go_at_call 6
      refine (newReader_any _ (some ⟨g, 0, none⟩) (4 + kn + lt) cap' _ rfl).mono ?_
      rintro e w1' ⟨rfl, rfl⟩
      go_wp2_with fail
      go_at_call 7
      have hr := ready_of (bm := bm) (.slice (some ⟨g, 0, none⟩) (4 + kn + lt) cap') hbw
      have hB := bytes_of (v := .slice (some ⟨g, 0, none⟩) (4 + kn + lt) cap') hob' hlenL hrL
      have hGW : ((w4.alloc (.cells #[.slice (some ⟨g, 0, none⟩) (4 + kn + lt) cap', .int .i64 0, .nilIface] 27)).alloc (.cells #[.slice (some ⟨g, 0, none⟩) (4 + kn + lt) cap', .int .i64 0, .nilIface] 27)).heap[G]? = wr.heap[G]? := by
        have q1 := hB4.size
        exact keep_alloc _ (by simp; omega) (keep_alloc _ (by omega) (hB4.block G hfl))
      have hGR : ¬ G = w4.heap.size + 1 := by have q1 := hB4.size; omega
      have hGlt : G < ((w4.alloc (.cells #[.slice (some ⟨g, 0, none⟩) (4 + kn + lt) cap', .int .i64 0, .nilIface] 27)).alloc (.cells #[.slice (some ⟨g, 0, none⟩) (4 + kn + lt) cap', .int .i64 0, .nilIface] 27)).heap.size := by have q1 := hB4.size; simp; omega
      generalize hR : w4.heap.size + 1 = R at *
      generalize hW : (w4.alloc (.cells #[.slice (some ⟨g, 0, none⟩) (4 + kn + lt) cap', .int .i64 0, .nilIface] 27)).alloc (.cells #[.slice (some ⟨g, 0, none⟩) (4 + kn + lt) cap', .int .i64 0, .nilIface] 27) = W at *
      refine (rek_ok F w W R bm g (4 + kn + lt) cap' (enc4 t (kn : Int) zs ts) hF HL.out hr hB (by omega) (by omega) (fun q => ?_) (by rw [enc4_ln]; omega)).mono ?_
      · rw [enc4_ln, enc4_ty]
        rw [enc4_ty] at q
        exact HKN.out.symm
      rintro e w5 ⟨ad, rfl, had, hd⟩
      rw [enc4_ln] at had hd
      rw [enc4_ty, enc4_ln]
      have hG5 : w5.heap[G]? = wr.heap[G]? := (hd.kept G hGlt hGR).trans hGW
      have hGl5 : G < w5.heap.size := Nat.lt_of_lt_of_le hGlt hd.size
      have HEQ : Hid _ := eq_built hd hB HF.out hG5 hGl5 (by omega) had
      have d1 := hd.c1
      have d2 := hd.lt
      have d3 := hd.bel
      clear hR hW hob' hbw hB4 hr hB hd hGW hGR hGlt hB2 hB3 hrL hlenL hfl
      simp only [Int.toNat_natCast]
      go_wp2_with (first | (go_at_call 10; refine (HEQ.out _ (fun k hk => keep_alloc _ hk rfl)).mono ?_; rintro e w' ⟨rfl, rfl⟩) | (go_at_call 8; refine (offset_any R (4 + (kn : Int)) _ ?_).mono ?_; (case refine_1 => go_simp); rintro e w' ⟨rfl, rfl⟩))
      go_ret
      exact ⟨rfl, d3.alloc d3.size _⟩


set_option maxRecDepth 100000 in
set_option maxHeartbeats 1000000 in
theorem built_unknown (F : Interp) (t : Int) (ak : Option Addr) (lk ck kn bm : Nat) (ks : List Int) (ad2 : Addr) (lt ct : Nat) (ts : List Int) (w : World) (hF : F.answers w.tape) (hl : Laid w bm) (t0 : 0 ≤ t) (t1 : t ≤ 65535)
    (hk4 : lk ≤ 4096) (hkey : lk = 0 ∨ ∃ b o, ak = some ⟨b, o, none⟩ ∧ ∀ i, i < lk → w.cell? ⟨b, o + i, none⟩ = some (.int .u8 (ks.getD i 0))) (hkr : ∀ i, 0 ≤ ks.getD i 0 ∧ ks.getD i 0 ≤ 255)
    (htl : ts.length = lt) (ht4 : lt ≤ 4096) (htc : ∀ i, i < lt → w.cell? (ad2.add i) = some (.int .u8 (ts.getD i 0))) (htr : ∀ i, 0 ≤ ts.getD i 0 ∧ ts.getD i 0 ≤ 255)
    (hk : ckn t = false) (hkn : lk = kn) (hn : kn ≤ 4096) :
    Calls Ybaf.prog 4 #[.int .u16 t, .slice ak lk ck, .slice (some ad2) lt ct] w fun e w' => e = .returned (.bool true) ∧ Below w.heap.size w w' := by
  have hq2 := fun (w : World) (a : Option Addr) (n c : Nat) => run_neq_slice_nil (P := Ybaf.prog) w 22 5 a n c Ybaf.underlying22
  have hlo := hl.look w rfl t t0 t1
  rw [hk] at hlo
  subst hkn
  have hg := hl.g
  generalize clo t = cl at *
  have hmk := fun (W : World) => run_make_row' (P := Ybaf.prog) 22 5 (.int .u8 0) 1 Ybaf.underlying22 info5' rfl .i64 .i64 lk (by omega) (by omega) W
  generalize ckl t = ckt at *
  have HK : Hid _ := hk
  have HL : Hid (Laid w bm) := hl
  clear hk hl
  have db1 : decide ((4096 : Int) < (lk : Int)) = false := by simp; omega
  have db2 : decide ((lk : Int) < 0) = false := by simp
  have db3 : decide ((65535 : Int) < (lk : Int)) = false := by simp; omega
  have db4 : decide ((4096 : Int) < (lt : Int)) = false := by simp; omega
  go_enter Ybaf.func4, Ybaf.ntmps4
  go_wp2
  have hst := filled_start w (.cells #[.int .i64 ckt, .bool cl] 37) lk
  generalize hG : w.heap.size + 1 = G at *
  generalize hW0 : (w.alloc (.cells #[.int .i64 ckt, .bool cl] 37)).alloc (.cells (madeCells #[.int .u8 0] lk) 5) = W0 at *
  clear hG hW0 hmk hlo
  go_loopw [11] (fun i wr => ∃ (k : Nat) (zs : List Int), k ≤ lk ∧ i = .int .i64 k ∧ Filled w wr G lk zs) (fun i _ => lk - (intOf i).toNat)
  case atStart => exact ⟨0, _, Nat.zero_le _, rfl, hst⟩
  case round =>
    obtain ⟨k, zs, hk, rfl, hf⟩ := hrel
    by_cases hlt : k < lk
    · have c1 := hf.cell wr rfl k hlt
      have c2 := hf.frozen k
      have c3 := hf.lt
      have HF : Hid (Filled w wr G lk zs) := hf
      clear hf
      by_cases h0 : lk = 0
      · exact absurd hlt (by omega)
      · obtain ⟨b, o, hb, hcell⟩ : ∃ b o, ak = some ⟨b, o, none⟩ ∧ ∀ i, i < lk → w.cell? ⟨b, o + i, none⟩ = some (.int .u8 (ks.getD i 0)) := hkey.resolve_left h0
        subst hb
        have hm : k % lk < lk := Nat.mod_lt _ (by omega)
        have kc : wr.cell? ⟨b, o + k % lk, none⟩ = some (.int .u8 (ks.getD (k % lk) 0)) := cell_later HF.out.bel (hcell _ hm)
        have kb : b < w.heap.size := World.block_lt_of_cell? _ _ (hcell 0 (by omega))
        have kr := hkr (k % lk)
        generalize ks.getD (k % lk) 0 = z at *
        have m0 : (0 : Int) ≤ (k : Int) % (lk : Int) := by omega
        have m1 : (k : Int) % (lk : Int) < (lk : Int) := by omega
        have m2 : ((k : Int) % (lk : Int)).toNat = k % lk := by omega
        have p0 : (0 : Int) < (lk : Int) := by omega
        clear hcell hkr
        go_wp2
        go_roundw
        case rel => exact ⟨k + 1, _, by omega, by go_num, HF.out.put k _ hlt (by omega)⟩
        case measure => simp [intOf]; omega
    · have hk' : lk = k := by omega
      subst hk'
      clear hlt hk
      obtain ⟨i0, hi, hz0, hz1, hz2⟩ := info5
      have hfl := hf.lt
      have HF : Hid (Filled w wr G lk zs) := hf
      clear hf
      go_wp2_with fail
      go_at_call 11
      refine (append16 wr.heap.size 0 (.slice none 0 0) [] t _ (World.ownsRow_nil _ _ _ _) (Nat.le_refl _) (by omega) t0 t1).mono ?_
      rintro e w1 ⟨v1, rfl, ho1, hb1⟩
      simp only [Nat.zero_add, List.nil_append] at ho1
      go_wp2_with fail
      go_at_call 11
      refine (append16 wr.heap.size 2 v1 _ (lk : Int) w1 ho1 hb1.size (by omega) (by omega) (by omega)).mono ?_
      rintro e w2 ⟨v2, rfl, ho2, hb2⟩
      have hB2 : Below wr.heap.size wr w2 := hb1.trans hb2
      have hnG : ∀ j u, (zs.map (Value.int .u8))[j]? = some u → w2.cell? ((⟨G, 0, none⟩ : Addr).add j) = some u := by
        refine news_of (len := lk) (fun i hi => ?_) HF.out.len
        have hadd : (⟨G, 0, none⟩ : Addr).add i = ⟨G, i, none⟩ := by unfold Addr.add; split <;> simp_all
        rw [hadd]
        exact HF.out.cell w2 (hB2.block G hfl) i hi
      have hlz := HF.out.len
      clear hb1 hb2 ho1
      go_wp2_with (at_builtin; refine wpList_append_own _ rfl _ _ 22 rfl wr.heap.size 5 i0 (.int .u8 0) 1 1 Ybaf.underlying22 hi hz0 hz1 hz2 rfl (by decide) v2 4 _ rfl ho2 ⟨G, 0, none⟩ lk lk (zs.map (Value.int .u8)) rfl (by simpa using hlz) hnG (ints_oneCell .u8 zs) (by unfold maxLen; omega) (by omega) hB2.size ?_; intro v3 w3 ho3 hg3 hn3; refine Hid.out ?_)
      refine hid_mk ?_
      have hB3 : Below wr.heap.size wr w3 := hB2.grown hg3 hB2.size (fun k hk => (ho2.lt k hk).1)
      clear hg3 hn3 hnG
      have hnT : ∀ j u, (ts.map (Value.int .u8))[j]? = some u → w3.cell? (ad2.add j) = some u := by
        intro j u hj
        exact cell_later hB3 (cell_later HF.out.bel (news_of htc htl j u hj))
      go_wp2_with (at_builtin; refine wpList_append_own _ rfl _ _ 22 rfl wr.heap.size 5 i0 (.int .u8 0) 1 1 Ybaf.underlying22 hi hz0 hz1 hz2 rfl (by decide) v3 (4 + lk) _ rfl ho3 ad2 lt ct (ts.map (Value.int .u8)) rfl (by simpa using htl) hnT (ints_oneCell .u8 ts) (by unfold maxLen; omega) (by omega) hB3.size ?_; intro v4 w4 ho4 hg4 hn4; refine Hid.out ?_)
      refine hid_mk ?_
      have hB4 : Below wr.heap.size wr w4 := hB3.grown hg4 hB3.size (fun k hk => (ho3.lt k hk).1)
      clear hg4 hn4 hnT
      obtain ⟨g, cap', hv, hob⟩ := own_of_row (w := w) ho4 HF.out.bel.size (by omega)
      have hbw : Below w.heap.size w w4 := HF.out.bel.trans (hB4.mono HF.out.bel.size)
      have hob' : OwnBytes w w4 g (4 + lk + lt) cap' ((enc4 t (lk : Int) zs ts).map (Value.int .u8)) := by simpa [enc4] using hob
      have hlenL : (enc4 t (lk : Int) zs ts).length = 4 + lk + lt := by simp [enc4]; omega
      have hrL := enc4_rng t (lk : Int) zs ts t0 t1 (by omega) (by omega) HF.out.rng htr
      clear hob ho2 ho3 ho4
      rw [hv]
      clear hv
      go_wp2_with fail
      go_at_call 6
      refine (newReader_any _ (some ⟨g, 0, none⟩) (4 + lk + lt) cap' _ rfl).mono ?_
      rintro e w1' ⟨rfl, rfl⟩
      go_wp2_with fail
      go_at_call 7
      have hr := ready_of (bm := bm) (.slice (some ⟨g, 0, none⟩) (4 + lk + lt) cap') hbw
      have hB := bytes_of (v := .slice (some ⟨g, 0, none⟩) (4 + lk + lt) cap') hob' hlenL hrL
      have hGW : ((w4.alloc (.cells #[.slice (some ⟨g, 0, none⟩) (4 + lk + lt) cap', .int .i64 0, .nilIface] 27)).alloc (.cells #[.slice (some ⟨g, 0, none⟩) (4 + lk + lt) cap', .int .i64 0, .nilIface] 27)).heap[G]? = wr.heap[G]? := by
        have q1 := hB4.size
        exact keep_alloc _ (by simp; omega) (keep_alloc _ (by omega) (hB4.block G hfl))
      have hGR : ¬ G = w4.heap.size + 1 := by have q1 := hB4.size; omega
      have hGlt : G < ((w4.alloc (.cells #[.slice (some ⟨g, 0, none⟩) (4 + lk + lt) cap', .int .i64 0, .nilIface] 27)).alloc (.cells #[.slice (some ⟨g, 0, none⟩) (4 + lk + lt) cap', .int .i64 0, .nilIface] 27)).heap.size := by have q1 := hB4.size; simp; omega
      generalize hR : w4.heap.size + 1 = R at *
      generalize hW : (w4.alloc (.cells #[.slice (some ⟨g, 0, none⟩) (4 + lk + lt) cap', .int .i64 0, .nilIface] 27)).alloc (.cells #[.slice (some ⟨g, 0, none⟩) (4 + lk + lt) cap', .int .i64 0, .nilIface] 27) = W at *
      refine (rek_ok F w W R bm g (4 + lk + lt) cap' (enc4 t (lk : Int) zs ts) hF HL.out hr hB (by omega) (by omega) (fun q => ?_) (by rw [enc4_ln]; omega)).mono ?_
      · rw [enc4_ln, enc4_ty]
        rw [enc4_ty] at q
        rw [HK.out] at q; cases q
      rintro e w5 ⟨ad, rfl, had, hd⟩
      rw [enc4_ln] at had hd
      rw [enc4_ty, enc4_ln]
      have hG5 : w5.heap[G]? = wr.heap[G]? := (hd.kept G hGlt hGR).trans hGW
      have hGl5 : G < w5.heap.size := Nat.lt_of_lt_of_le hGlt hd.size
      have HEQ : Hid _ := eq_built hd hB HF.out hG5 hGl5 (by omega) had
      have d1 := hd.c1
      have d2 := hd.lt
      have d3 := hd.bel
      clear hR hW hob' hbw hB4 hr hB hd hGW hGR hGlt hB2 hB3 hrL hlenL hfl
      simp only [Int.toNat_natCast]
      go_wp2_with (first | (go_at_call 10; refine (HEQ.out _ (fun k hk => keep_alloc _ hk rfl)).mono ?_; rintro e w' ⟨rfl, rfl⟩) | (go_at_call 8; refine (offset_any R (4 + (lk : Int)) _ ?_).mono ?_; (case refine_1 => go_simp); rintro e w' ⟨rfl, rfl⟩))
      go_ret
      exact ⟨rfl, d3.alloc d3.size _⟩

end Go.Proofs.YbulkupeFmt
