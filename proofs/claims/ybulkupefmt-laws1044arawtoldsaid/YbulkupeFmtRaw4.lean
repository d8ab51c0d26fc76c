/-
  Seat b1044aF: the walk of LawS1044ARaw (3), four bytes and more: a key of an unknown type is read.
-/
import Derived.Test.YbulkupeFmtRaw3
namespace Go.Proofs.YbulkupeFmt
open Go.RowKit Go.Extern.Stop Go.Stop Go.Extern
set_option linter.unusedVariables false
attribute [local go_sem] setCell_drewN alloc_drewN

set_option maxRecDepth 100000 in
set_option maxHeartbeats 2000000 in
theorem raw_ok_unknown (F : Interp) (b off len cap bm : Nat) (zs : List Int) (w : World) (hF : F.answers w.tape) (hl : Laid w bm) (hz : zs.length = len) (hm : len ≤ 70000) (hlc : len ≤ cap)
    (hcell : ∀ i, i < len → w.cell? ((⟨b, off, none⟩ : Addr).add i) = some (.int .u8 (zs.getD i 0))) (hcell' : ∀ i, i < len → w.cell? ⟨b, off + i, none⟩ = some (.int .u8 (zs.getD i 0))) (hrng : ∀ i, 0 ≤ zs.getD i 0 ∧ zs.getD i 0 ≤ 255) (h4 : 4 ≤ len)
    (hk : ckn (ty zs) = false) (hlo : ln zs ≤ (len : Int) - 4) :
    Calls Ybaf.prog 3 #[.slice (some ⟨b, off, none⟩) len cap] w fun e w' => e = .returned (.bool true) ∧ Below w.heap.size w w' := by
  have hq := fun (w : World) (a : Option Addr) (n c : Nat) => run_eql_slice_nil (P := Ybaf.prog) w 22 5 a n c Ybaf.underlying22
  have hq2 := fun (w : World) (a : Option Addr) (n c : Nat) => run_neq_slice_nil (P := Ybaf.prog) w 22 5 a n c Ybaf.underlying22
  go_enter Ybaf.func3, Ybaf.ntmps3
  go_wp2_with fail
  go_at_call 5
  refine (clone_some ⟨b, off, none⟩ len cap (zs.map (Value.int .u8)) _ (by simpa using hz) hm ?n1 (by simp [Value.oneCell'])).mono ?_
  case n1 => exact news_of hcell hz
  rintro e w1 ⟨g, cap', rfl, hob, hb⟩
  go_wp2_with fail
  go_at_call 6
  refine (newReader_any _ (some ⟨g, 0, none⟩) len cap' _ rfl).mono ?_
  rintro e w1' ⟨rfl, rfl⟩
  go_wp2_with fail
  go_at_call 7
  have hr := ready_of (bm := bm) (.slice (some ⟨g, 0, none⟩) len cap') hb
  have hB := bytes_of (v := .slice (some ⟨g, 0, none⟩) len cap') hob hz hrng
  generalize hR : w1.heap.size + 1 = R at *
  generalize hW : (w1.alloc (.cells #[.slice (some ⟨g, 0, none⟩) len cap', .int .i64 0, .nilIface] 27)).alloc (.cells #[.slice (some ⟨g, 0, none⟩) len cap', .int .i64 0, .nilIface] 27) = W at *
  refine (rek_ok F w W R bm g len cap' zs hF hl hr hB h4 hm (fun q => by rw [hk] at q; cases q) hlo).mono ?_
  rintro e w3 ⟨ad, rfl, had, hd⟩
  clear hR hW hob hb
  have d1 := hd.c1
  have d2 := hd.lt
  have d3 := hd.bel
  have D : Hid (Done w W w3 R bm (4 + ln zs)) := hd
  have RD : Hid (Ready w W R bm (.slice (some ⟨g, 0, none⟩) len cap')) := hr
  have BD : Hid (Bytes W R g len cap' zs) := hB
  have LD : Hid (Laid w bm) := hl
  clear hd hr hB hl
  have hbl : b < w3.heap.size := by have q1 := World.block_lt_of_cell? _ _ (hcell' 0 (by omega)); have q2 := d3.size; simp at q1; omega
  have e0 : w3.cell? ⟨b, off, none⟩ = some (.int .u8 (zs.getD 0 0)) := cell_later d3 (hcell' 0 (by omega))
  have r0 := hrng 0
  have e1 : w3.cell? ⟨b, off + 1, none⟩ = some (.int .u8 (zs.getD 1 0)) := cell_later d3 (hcell' 1 (by omega))
  have r1 := hrng 1
  have e2 : w3.cell? ⟨b, off + 2, none⟩ = some (.int .u8 (zs.getD 2 0)) := cell_later d3 (hcell' 2 (by omega))
  have r2 := hrng 2
  have e3 : w3.cell? ⟨b, off + 3, none⟩ = some (.int .u8 (zs.getD 3 0)) := cell_later d3 (hcell' 3 (by omega))
  have r3 := hrng 3
  have hcb : w3.cell? ⟨0, 0, none⟩ = some (.map (some bm)) := cell_later d3 LD.out.g
  have h00 : 0 < w3.heap.size := World.block_lt_of_cell? _ _ hcb
  have hbm : bm < w3.heap.size := Nat.lt_of_lt_of_le LD.out.lt d3.size
  have LK : Hid (∀ W' : World, W'.heap[bm]? = w3.heap[bm]? → (Instr.lookup 39 (.map (some bm)) (.int .u16 (zs.getD 0 0 * 256 + zs.getD 1 0)) true).run Ybaf.prog W' = .ok (.tuple #[.agg #[.int .i64 (ckl (zs.getD 0 0 * 256 + zs.getD 1 0)), .bool (clo (zs.getD 0 0 * 256 + zs.getD 1 0))], .bool false]) W') := by
    intro W' hW'
    have := LD.out.look W' (hW'.trans (d3.block bm LD.out.lt)) (zs.getD 0 0 * 256 + zs.getD 1 0) (by omega) (by omega)
    rw [show ckn (zs.getD 0 0 * 256 + zs.getD 1 0) = false from hk] at this
    exact this
  have d2b : R < w3.heap.size + 1 := by omega
  have d2c : R < w3.heap.size + 1 + 1 := by omega
  have EQ : ∀ W' : World, (∀ k, k < w3.heap.size → W'.heap[k]? = w3.heap[k]?) → ∀ (n : Nat) (o' c' : Nat), n = (ln zs).toNat → (1 ≤ n → o' = off + 4) → Calls Ybaf.prog 10 #[.slice (some ⟨g, ad, none⟩) n n, .slice (some ⟨b, o', none⟩) n c'] W' fun e w'' => e = .returned (.bool true) ∧ w'' = W' := by
    intro W' hW' n o' c' hn ho'
    exact eq_of D.out RD.out BD.out d3 hcell' hz W' hW' n o' c' hn ho' had h4 hlo
  have HEQ : Hid _ := EQ
  clear EQ
  unfold ty ln at *
  clear hk
  clear hcell hcell' hrng
  generalize zs.getD 0 0 = z0 at *
  generalize zs.getD 1 0 = z1 at *
  generalize zs.getD 2 0 = z2 at *
  generalize zs.getD 3 0 = z3 at *
  generalize ckl (z0 * 256 + z1) = kl at *
  generalize clo (z0 * 256 + z1) = cl at *
  go_wp2_with fail
  go_at_call 9
  refine (abe_any b off len cap 0 z0 z1 _ (by omega) (by omega) hm r0 r1 ?_ ?_).mono ?_
  · go_simp
  · go_simp
  rintro e w' ⟨rfl, k1, rfl⟩
  go_wp2_with fail
  go_at_call 9
  refine (abe_any b off len cap 2 z2 z3 _ (by omega) (by omega) hm r2 r3 ?_ ?_).mono ?_
  · go_simp
  · go_simp
  rintro e w' ⟨rfl, k2, rfl⟩
  go_wp2_with fail
  rw [LK.out _ (by repeat' (first | (with_reducible rfl) | (with_reducible refine keep_drewN ?_) | (with_reducible refine keep_alloc _ ?_ ?_) | omega | (simp; omega)))]
  go_wp2_with fail
  have l0 : 0 ≤ z2 * 256 + z3 := by omega
  generalize z2 * 256 + z3 = L at *
  obtain ⟨l, rfl⟩ := Int.eq_ofNat_of_zero_le l0
  have EQ : ∀ (K n : Nat) (o' c' : Nat), (1 ≤ l → o' = off + 4) → Calls Ybaf.prog 10 #[.slice (some ⟨g, ad, none⟩) l l, .slice (some ⟨b, o', none⟩) l c'] (((w3.alloc (.cells #[.int .u16 (z0 * 256 + z1), .slice (some ⟨g, ad, none⟩) l l] 32)).alloc (.cells #[.int .i64 kl, .bool cl] 37)).drewN (K + n)) fun e w'' => e = .returned (.bool true) ∧ ∃ m, w'' = ((w3.alloc (.cells #[.int .u16 (z0 * 256 + z1), .slice (some ⟨g, ad, none⟩) l l] 32)).alloc (.cells #[.int .i64 kl, .bool cl] 37)).drewN (K + m) :=
    fun K n o' c' ho' => (HEQ.out _ (fun k hk => keep_drewN (keep_alloc _ (by simp; omega) (keep_alloc _ hk rfl))) l o' c' (by simp) ho').mono fun _ _ ⟨he, hm⟩ => ⟨he, n, hm⟩
  have OF : ∀ K n : Nat, Calls Ybaf.prog 8 #[.pointer (some ⟨R, 0, none⟩)] (((w3.alloc (.cells #[.int .u16 (z0 * 256 + z1), .slice (some ⟨g, ad, none⟩) l l] 32)).alloc (.cells #[.int .i64 kl, .bool cl] 37)).drewN (K + n)) fun e w'' => e = .returned (.int .i64 (4 + (l : Int))) ∧ ∃ m, w'' = ((w3.alloc (.cells #[.int .u16 (z0 * 256 + z1), .slice (some ⟨g, ad, none⟩) l l] 32)).alloc (.cells #[.int .i64 kl, .bool cl] 37)).drewN (K + m) := by
    intro K n
    have c1 : (((w3.alloc (.cells #[.int .u16 (z0 * 256 + z1), .slice (some ⟨g, ad, none⟩) l l] 32)).alloc (.cells #[.int .i64 kl, .bool cl] 37)).drewN (K + n)).cell? ⟨R, 1, none⟩ = some (.int .i64 (4 + (l : Int))) := by go_simp
    exact (offset_any R _ _ c1).mono fun _ _ ⟨he, hm⟩ => ⟨he, n, hm⟩
  simp only [Int.toNat_natCast]
  have s1 : 4 + l ≤ cap := by omega
  have s2 : (4 : Int) ≤ 4 + (l : Int) := by omega
  have s3 : 4 + (l : Int) ≤ (cap : Int) := by omega
  have s4 : 4 + l - 4 = l := by omega
  have s5 : IntKind.i64.wrap (4 + (l : Int)) = 4 + (l : Int) := by rw [IntKind.wrap_i64]; omega
  have s6 : (4 + (l : Int)).toNat = 4 + l := by omega
  clear LK e0 e1 e2 e3 r2 r3 HEQ
  by_cases hc4 : cap = 4
  · have l00 : l = 0 := by omega
    subst hc4 l00
    have s7 : IntKind.i64.wrap 4 = 4 := by decide
    clear s1 s2 s3 s4 s5 s6
    go_quiet ((first | (go_at_call 10; exact EQ _ _ _ _ (fun q => absurd q (by omega))) | (go_at_call 8; exact OF _ _)))
    go_wp2
    go_ret
    exact ⟨rfl, by (repeat with_reducible refine below_drewN ?_ _); exact (d3.alloc d3.size _).alloc (by have := d3.size; simp; omega) _⟩
  · go_quiet ((first | (go_at_call 10; exact EQ _ _ _ _ (fun _ => rfl)) | (go_at_call 8; exact OF _ _)))
    go_wp2
    go_ret
    exact ⟨rfl, by (repeat with_reducible refine below_drewN ?_ _); exact (d3.alloc d3.size _).alloc (by have := d3.size; simp; omega) _⟩

/-- The law, whatever the bytes. -/
theorem raw_some (F : Interp) (ad : Addr) (len cap bm : Nat) (zs : List Int) (w : World) (hF : F.answers w.tape) (hl : Laid w bm) (hz : zs.length = len) (hlc : len ≤ cap)
    (hcell : ∀ i, i < len → w.cell? (ad.add i) = some (.int .u8 (zs.getD i 0))) (hrng : ∀ i, 0 ≤ zs.getD i 0 ∧ zs.getD i 0 ≤ 255) :
    Calls Ybaf.prog 3 #[.slice (some ad) len cap] w fun e w' => e = .returned (.bool true) ∧ Below w.heap.size w w' := by
  by_cases hm : 70000 < len
  · exact raw_long _ len cap w hm
  have hm' : len ≤ 70000 := by omega
  by_cases h2 : len < 2
  · exact raw_short F ad len cap bm zs w hF hl hz hm' hcell hrng h2
  obtain ⟨b, off, spot⟩ := ad
  have h0 := hcell 0 (by omega)
  have hspot : spot = none := by simpa [Addr.add] using World.cell?_spot h0
  subst hspot
  have hcell' : ∀ i, i < len → w.cell? ⟨b, off + i, none⟩ = some (.int .u8 (zs.getD i 0)) := by
    intro i hi
    have hadd : (⟨b, off, none⟩ : Addr).add i = ⟨b, off + i, none⟩ := by unfold Addr.add; split <;> simp_all
    rw [← hadd]
    exact hcell i hi
  by_cases h4 : len < 4
  · exact raw_type F b off len cap bm zs w hF hl hz hm' hcell hcell' hrng (by omega) h4
  have h4' : 4 ≤ len := by omega
  cases hk : ckn (ty zs) with
  | true =>
    by_cases he : ln zs = ckl (ty zs)
    · by_cases hlo : (len : Int) - 4 < ln zs
      · exact raw_ref_long_known F b off len cap bm zs w hF hl hz hm' hlc hcell hcell' hrng h4' hk he hlo
      · exact raw_ok_known F b off len cap bm zs w hF hl hz hm' hlc hcell hcell' hrng h4' hk he (by omega)
    · exact raw_ref_type F b off len cap bm zs w hF hl hz hm' hlc hcell hcell' hrng h4' hk he
  | false =>
    by_cases hlo : (len : Int) - 4 < ln zs
    · exact raw_ref_long F b off len cap bm zs w hF hl hz hm' hlc hcell hcell' hrng h4' hk hlo
    · exact raw_ok_unknown F b off len cap bm zs w hF hl hz hm' hlc hcell hcell' hrng h4' hk (by omega)
end Go.Proofs.YbulkupeFmt
