/-
  Seat b1044aF: readEncryptionKey (7), every way, over a reader that is ready.
-/
import Derived.Test.YbulkupeFmtReady
namespace Go.Proofs.YbulkupeFmt
open Go.RowKit Go.Extern.Stop Go.Stop Go.Extern
set_option linter.unusedVariables false

/-- The type and the length that the first four bytes give. -/
def ty (zs : List Int) : Int := zs.getD 0 0 * 256 + zs.getD 1 0
def ln (zs : List Int) : Int := zs.getD 2 0 * 256 + zs.getD 3 0

/-- The reader's bytes: in a block of their own. -/
structure Bytes (W : World) (R g len cap : Nat) (zs : List Int) : Prop where
  ne : ¬ g = R
  lt : g < W.heap.size
  le : len ≤ cap
  cell : ∀ i, i < len → W.cell? ⟨g, i, none⟩ = some (.int .u8 (zs.getD i 0))
  rng : ∀ i, 0 ≤ zs.getD i 0 ∧ zs.getD i 0 ≤ 255

theorem ckl_pos {t : Int} (h : ckn t = true) : 1 ≤ ckl t ∧ ckl t ≤ 256 := by
  unfold ckn at h
  unfold ckl
  simp at h
  split
  · omega
  · rw [if_pos (by omega)]; omega

theorem rek_none (F : Interp) (w W : World) (R bm len cap : Nat) (a : Option Addr) (hF : F.answers w.tape) (hl : Laid w bm) (h : Ready w W R bm (.slice a len cap)) (hlen : len < 2) :
    Calls Ybaf.prog 7 #[.pointer (some ⟨R, 0, none⟩)] W fun e w3 => e = .returned (.agg #[.int .u16 0, .slice none 0 0]) ∧ Done w W w3 R bm 0 := by
  have hm := h.bel.block bm hl.lt
  have h1 := h.ge
  have h2 := h.bel.size
  have h3 := hl.lt
  refine (key_none F R len cap bm a 256 false W (by rw [h.bel.tape]; exact hF) h.c0 h.c1 h.c2 h.f1 h.f2 h.lt (by omega) (cell_later h.bel hl.g) (by omega) (by omega) (by omega) (fun W' hW => ?_) hlen rfl).mono ?_
  · exact hl.look W' (hW.trans hm) 0 (by omega) (by omega)
  · rintro e w3 ⟨he, hg, hc⟩
    exact ⟨he, done_of hl h hg hc⟩

theorem rek_type (F : Interp) (w W : World) (R bm g len cap : Nat) (zs : List Int) (hF : F.answers w.tape) (hl : Laid w bm) (h : Ready w W R bm (.slice (some ⟨g, 0, none⟩) len cap)) (hB : Bytes W R g len cap zs) (h2 : 2 ≤ len) (h4 : len < 4) :
    Calls Ybaf.prog 7 #[.pointer (some ⟨R, 0, none⟩)] W fun e w3 => e = .returned (.agg #[.int .u16 (ty zs), .slice none 0 0]) ∧ Done w W w3 R bm 2 := by
  have hm := h.bel.block bm hl.lt
  have h1 := h.ge
  have hs := h.bel.size
  have h3 := hl.lt
  have r0 := hB.rng 0
  have r1 := hB.rng 1
  have hF' : F.answers W.tape := by rw [h.bel.tape]; exact hF
  have b0 := hB.cell 0 (by omega)
  have b1 := hB.cell 1 (by omega)
  have fin : ∀ e w3, KeyPost R W (zs.getD 0 0 * 256 + zs.getD 1 0) (.slice none 0 0) 2 e w3 → e = .returned (.agg #[.int .u16 (ty zs), .slice none 0 0]) ∧ Done w W w3 R bm 2 := by
    rintro e w3 ⟨he, hg, hc⟩
    exact ⟨he, done_of hl h hg hc⟩
  cases hk : ckn (zs.getD 0 0 * 256 + zs.getD 1 0) with
  | true =>
    have hp := ckl_pos hk
    refine (key_type_known F R g 0 len cap bm _ _ (ckl (zs.getD 0 0 * 256 + zs.getD 1 0)) (clo (zs.getD 0 0 * 256 + zs.getD 1 0)) W hF' h.c0 h.c1 h.c2 h.f1 h.f2 h.lt (by omega) (cell_later h.bel hl.g) (by omega) (by omega) (by omega) hB.le hB.ne hB.lt b0 b1 r0 r1 (fun W' hW => ?_) h2 h4 (by rw [bne_iff_ne]; omega)).mono fin
    have := hl.look W' (hW.trans hm) (zs.getD 0 0 * 256 + zs.getD 1 0) (by omega) (by omega)
    rw [hk] at this
    exact this
  | false =>
    refine (key_type_unknown F R g 0 len cap bm _ _ (ckl (zs.getD 0 0 * 256 + zs.getD 1 0)) (clo (zs.getD 0 0 * 256 + zs.getD 1 0)) W hF' h.c0 h.c1 h.c2 h.f1 h.f2 h.lt (by omega) (cell_later h.bel hl.g) (by omega) (by omega) (by omega) hB.le hB.ne hB.lt b0 b1 r0 r1 (fun W' hW => ?_) h2 h4).mono fin
    have := hl.look W' (hW.trans hm) (zs.getD 0 0 * 256 + zs.getD 1 0) (by omega) (by omega)
    rw [hk] at this
    exact this

theorem rek_refused (F : Interp) (w W : World) (R bm g len cap : Nat) (zs : List Int) (hF : F.answers w.tape) (hl : Laid w bm) (h : Ready w W R bm (.slice (some ⟨g, 0, none⟩) len cap)) (hB : Bytes W R g len cap zs) (h4 : 4 ≤ len) (h7 : len ≤ 70000)
    (hr : (ckn (ty zs) = true ∧ ln zs ≠ ckl (ty zs)) ∨ (len : Int) - 4 < ln zs) :
    Calls Ybaf.prog 7 #[.pointer (some ⟨R, 0, none⟩)] W fun e w3 => e = .returned (.agg #[.int .u16 (ty zs), .slice none 0 0]) ∧ Done w W w3 R bm 4 := by
  have hm := h.bel.block bm hl.lt
  have h1 := h.ge
  have hs := h.bel.size
  have h3 := hl.lt
  have r0 := hB.rng 0
  have r1 := hB.rng 1
  have r2 := hB.rng 2
  have r3 := hB.rng 3
  have hF' : F.answers W.tape := by rw [h.bel.tape]; exact hF
  have b0 := hB.cell 0 (by omega)
  have b1 := hB.cell 1 (by omega)
  have b2 := hB.cell 2 (by omega)
  have b3 := hB.cell 3 (by omega)
  unfold ty ln at *
  have fin : ∀ e w3, KeyPost R W (zs.getD 0 0 * 256 + zs.getD 1 0) (.slice none 0 0) 4 e w3 → e = .returned (.agg #[.int .u16 (zs.getD 0 0 * 256 + zs.getD 1 0), .slice none 0 0]) ∧ Done w W w3 R bm 4 := by
    rintro e w3 ⟨he, hg, hc⟩
    exact ⟨he, done_of hl h hg hc⟩
  have hlk : ∀ W' : World, W'.heap[bm]? = W.heap[bm]? → _ := fun W' hW => hl.look W' (hW.trans hm) (zs.getD 0 0 * 256 + zs.getD 1 0) (by omega) (by omega)
  cases hk : ckn (zs.getD 0 0 * 256 + zs.getD 1 0) with
  | true =>
    rw [hk] at hlk hr
    by_cases he : zs.getD 2 0 * 256 + zs.getD 3 0 = ckl (zs.getD 0 0 * 256 + zs.getD 1 0)
    · have hlong : (len : Int) - 4 < zs.getD 2 0 * 256 + zs.getD 3 0 := by
        rcases hr with ⟨_, q⟩ | q
        · exact absurd he q
        · exact q
      exact (key_long_known F R g 0 len cap bm _ _ _ _ _ _ W hF' h.c0 h.c1 h.c2 h.f1 h.f2 h.lt h7 (cell_later h.bel hl.g) (by omega) (by omega) (by omega) hB.le hB.ne hB.lt b0 b1 r0 r1 b2 b3 r2 r3 hlk h4 hlong (by rw [he]; simp)).mono fin
    · exact (key_refused F R g 0 len cap bm _ _ _ _ _ _ W hF' h.c0 h.c1 h.c2 h.f1 h.f2 h.lt h7 (cell_later h.bel hl.g) (by omega) (by omega) (by omega) hB.le hB.ne hB.lt b0 b1 r0 r1 b2 b3 r2 r3 hlk h4 (by rw [bne_iff_ne]; exact he)).mono fin
  | false =>
    rw [hk] at hlk hr
    have hlong : (len : Int) - 4 < zs.getD 2 0 * 256 + zs.getD 3 0 := by
      rcases hr with ⟨q, _⟩ | q
      · cases q
      · exact q
    exact (key_long_unknown F R g 0 len cap bm _ _ _ _ _ _ W hF' h.c0 h.c1 h.c2 h.f1 h.f2 h.lt h7 (cell_later h.bel hl.g) (by omega) (by omega) (by omega) hB.le hB.ne hB.lt b0 b1 r0 r1 b2 b3 r2 r3 hlk h4 hlong).mono fin

theorem rek_ok (F : Interp) (w W : World) (R bm g len cap : Nat) (zs : List Int) (hF : F.answers w.tape) (hl : Laid w bm) (h : Ready w W R bm (.slice (some ⟨g, 0, none⟩) len cap)) (hB : Bytes W R g len cap zs) (h4 : 4 ≤ len) (h7 : len ≤ 70000)
    (hr : ckn (ty zs) = true → ln zs = ckl (ty zs)) (hn : ln zs ≤ (len : Int) - 4) :
    Calls Ybaf.prog 7 #[.pointer (some ⟨R, 0, none⟩)] W fun e w3 => ∃ ad, e = .returned (.agg #[.int .u16 (ty zs), .slice (some ⟨g, ad, none⟩) (ln zs).toNat (ln zs).toNat]) ∧ (ln zs ≠ 0 → ad = 4) ∧ Done w W w3 R bm (4 + ln zs) := by
  have hm := h.bel.block bm hl.lt
  have h1 := h.ge
  have hs := h.bel.size
  have h3 := hl.lt
  have r0 := hB.rng 0
  have r1 := hB.rng 1
  have r2 := hB.rng 2
  have r3 := hB.rng 3
  have hF' : F.answers W.tape := by rw [h.bel.tape]; exact hF
  have b0 := hB.cell 0 (by omega)
  have b1 := hB.cell 1 (by omega)
  have b2 := hB.cell 2 (by omega)
  have b3 := hB.cell 3 (by omega)
  unfold ty ln at *
  have hlk : ∀ W' : World, W'.heap[bm]? = W.heap[bm]? → _ := fun W' hW => hl.look W' (hW.trans hm) (zs.getD 0 0 * 256 + zs.getD 1 0) (by omega) (by omega)
  cases hk : ckn (zs.getD 0 0 * 256 + zs.getD 1 0) with
  | true =>
    rw [hk] at hlk
    have he := hr hk
    have hp := ckl_pos hk
    refine (key_ok_known F R g 0 len cap bm _ _ _ _ _ _ W hF' h.c0 h.c1 h.c2 h.f1 h.f2 h.lt h7 (cell_later h.bel hl.g) (by omega) (by omega) (by omega) hB.le hB.ne hB.lt b0 b1 r0 r1 b2 b3 r2 r3 hlk h4 (by omega) hn (by rw [he]; simp)).mono ?_
    rintro e w3 ⟨he, hg, hc⟩
    exact ⟨_, he, fun _ => rfl, done_of hl h hg hc⟩
  | false =>
    rw [hk] at hlk
    by_cases hz : zs.getD 2 0 * 256 + zs.getD 3 0 = 0
    · refine (key_zero F R g 0 len cap bm _ _ _ _ _ _ W hF' h.c0 h.c1 h.c2 h.f1 h.f2 h.lt h7 (cell_later h.bel hl.g) (by omega) (by omega) (by omega) hB.le hB.ne hB.lt b0 b1 r0 r1 b2 b3 r2 r3 hlk h4 hz).mono ?_
      rintro e w3 ⟨he, hg, hc⟩
      rw [hz]
      exact ⟨_, he, fun q => absurd rfl q, done_of hl h hg hc⟩
    · refine (key_ok_unknown F R g 0 len cap bm _ _ _ _ _ _ W hF' h.c0 h.c1 h.c2 h.f1 h.f2 h.lt h7 (cell_later h.bel hl.g) (by omega) (by omega) (by omega) hB.le hB.ne hB.lt b0 b1 r0 r1 b2 b3 r2 r3 hlk h4 (by omega) hn).mono ?_
      rintro e w3 ⟨he, hg, hc⟩
      exact ⟨_, he, fun _ => rfl, done_of hl h hg hc⟩
end Go.Proofs.YbulkupeFmt
