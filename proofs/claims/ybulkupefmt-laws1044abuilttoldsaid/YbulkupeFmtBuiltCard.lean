/-
  Seat b1044aF: the told and tied card of netdb.LawS1044ABuilt, proved.
-/
import Derived.Test.YbulkupeFmtBuilt1
import Derived.Test.YbulkupeFmtBuilt2
import Derived.Test.YbulkupeFmtTie
import Derived.Test.YbulkupeFmtCards
import Derived.ProofKit
import Derived.OpenShut
import Derived.Stop.JoinedTold
import Derived.SevenTiedAt
import Derived.LaidMore
import Derived.Deep.DeepWitnessRef
import Derived.ChangeOld
import Derived.OpenVars
namespace Go.Proofs.YbulkupeFmt.lawS1044ABuilt
open Go.ChangeShapes Go.WideShapes Go.ChangeAt Go.RowKit Go.Extern.Stop Go.Stop Go.Extern
set_option linter.unusedVariables false

theorem own : ownKnob Ybaf.prog.godebug = none := by kernel_rfl
theorem laidOut : laidOutB Ybaf.prog = true := by kernel_rfl

set_option maxRecDepth 100000 in
set_option maxHeartbeats 400000 in
theorem far (t : Int) (a1 a2 : Option Addr) (l1 c1 l2 c2 : Nat) (w : World) (h : 4096 < l1 ∨ 4096 < l2) :
    Calls Ybaf.prog 4 #[.int .u16 t, .slice a1 l1 c1, .slice a2 l2 c2] w fun e w' => e = .returned (.bool true) ∧ Below w.heap.size w w' := by
  by_cases h1 : 4096 < l1
  · have q1 : (4096 : Int) < (l1 : Int) := by omega
    go_enter Ybaf.func4, Ybaf.ntmps4
    go_wp2
    go_ret
    exact ⟨rfl, Below.refl _ _⟩
  · have q1 : ¬ (4096 : Int) < (l1 : Int) := by omega
    have q2 : (4096 : Int) < (l2 : Int) := by omega
    go_enter Ybaf.func4, Ybaf.ntmps4
    go_wp2
    go_ret
    exact ⟨rfl, Below.refl _ _⟩

theorem walk (F : Interp) (t : Int) (ak : Option Addr) (lk ck bm : Nat) (ks : List Int) (at2 : Option Addr) (lt ct : Nat) (ts : List Int) (w : World) (hF : F.answers w.tape) (hl : Laid w bm) (t0 : 0 ≤ t) (t1 : t ≤ 65535)
    (hkey : lk = 0 ∨ ∃ b o, ak = some ⟨b, o, none⟩ ∧ ∀ i, i < lk → w.cell? ⟨b, o + i, none⟩ = some (.int .u8 (ks.getD i 0))) (hkr : ∀ i, 0 ≤ ks.getD i 0 ∧ ks.getD i 0 ≤ 255)
    (htail : (at2 = none ∧ lt = 0 ∧ ct = 0) ∨ ∃ ad2, at2 = some ad2 ∧ ∀ i, i < lt → w.cell? (ad2.add i) = some (.int .u8 (ts.getD i 0))) (htl : ts.length = lt) (htr : ∀ i, 0 ≤ ts.getD i 0 ∧ ts.getD i 0 ≤ 255) :
    Calls Ybaf.prog 4 #[.int .u16 t, .slice ak lk ck, .slice at2 lt ct] w fun e w' => e = .returned (.bool true) ∧ Below w.heap.size w w' := by
  by_cases hf : 4096 < lk ∨ 4096 < lt
  · exact far t ak at2 lk ck lt ct w hf
  have h1 : lk ≤ 4096 := by omega
  have h2 : lt ≤ 4096 := by omega
  cases hk : ckn t with
  | true =>
    have hp := ckl_pos hk
    obtain ⟨kn, hkn⟩ : ∃ kn : Nat, ckl t = (kn : Int) := ⟨(ckl t).toNat, by omega⟩
    rcases htail with ⟨rfl, rfl, rfl⟩ | ⟨ad2, rfl, htc⟩
    · exact built_known_nil F t ak lk ck kn bm ks w hF hl t0 t1 h1 hkey hkr hk hkn (by omega)
    · exact built_known F t ak lk ck kn bm ks ad2 lt ct ts w hF hl t0 t1 h1 hkey hkr htl h2 htc htr hk hkn (by omega)
  | false =>
    rcases htail with ⟨rfl, rfl, rfl⟩ | ⟨ad2, rfl, htc⟩
    · exact built_unknown_nil F t ak lk ck lk bm ks w hF hl t0 t1 h1 hkey hkr hk rfl h1
    · exact built_unknown F t ak lk ck lk bm ks ad2 lt ct ts w hF hl t0 t1 h1 hkey hkr htl h2 htc htr hk rfl h1

/-- The door's own heap meets the condition. -/
theorem door_met (os : Os) (args : Array Value) : laidMetH Ybaf.prog Rows.lawS1044ABuiltRow.laid ((World.doorLaid Ybaf.prog 400 os).forCall (fun _ _ => 0) ⟨#[], args, []⟩).memory := by
  rw [MakeChecks.laidMetH_plain _ _ _ (by kernel_rfl)]
  exact laidMet_of_run' 8 (by kernel_rfl) (by kernel_rfl)

/-- A slice of bytes that came in, as the walk takes it. -/
theorem key_of {H : Type} {enc : TypeId × Value → H} {W : World} {sp : Nat → Bool} {a : Option Addr} {len cap : Nat} {d : DataW H} {ps : List MemPlace} (h : DataW.Trod enc Ybaf.prog W 0 sp true 22 (.slice a len cap) d ps) :
    ∃ ks : List Int, (len = 0 ∨ ∃ b o, a = some ⟨b, o, none⟩ ∧ ∀ i, i < len → W.cell? ⟨b, o + i, none⟩ = some (.int .u8 (ks.getD i 0))) ∧ ((a = none ∧ len = 0 ∧ cap = 0) ∨ ∃ ad, a = some ad ∧ ∀ i, i < len → W.cell? (ad.add i) = some (.int .u8 (ks.getD i 0))) ∧ ks.length = len ∧ ∀ i, 0 ≤ ks.getD i 0 ∧ ks.getD i 0 ≤ 255 := by
  obtain ⟨fuel, hf⟩ := h
  rcases open_ints Ybaf.underlying22 Ybaf.underlying5 (by kernel_rfl) hf with ⟨hcs, _⟩ | ⟨x, l, c, zs, hcs, _, hle, hm, hz, _, hcell, hwz⟩
  · simp [Value.cells] at hcs
    obtain ⟨rfl, rfl, rfl⟩ := hcs
    exact ⟨[], .inl rfl, .inl ⟨rfl, rfl, rfl⟩, rfl, fun i => by simp⟩
  · simp [Value.cells] at hcs
    obtain ⟨rfl, rfl, rfl⟩ := hcs
    have hr := range_u8 hwz
    have hzl : len ≤ zs.length := by
      split at hz <;> omega
    have hc2 : ∀ i, i < len → W.cell? (x.add i) = some (.int .u8 ((zs.take len).getD i 0)) := by
      intro i hi
      rw [hcell i (by omega)]
      simp [List.getD, List.getElem?_take_of_lt hi]
    refine ⟨zs.take len, ?_, .inr ⟨x, rfl, hc2⟩, by simp; omega, fun i => ?_⟩
    · by_cases h0 : len = 0
      · exact .inl h0
      · obtain ⟨b, o, spot⟩ := x
        have hspot : spot = none := by simpa [Addr.add] using World.cell?_spot (hc2 0 (by omega))
        subst hspot
        refine .inr ⟨b, o, rfl, fun i hi => ?_⟩
        have hadd : (⟨b, o, none⟩ : Addr).add i = ⟨b, o + i, none⟩ := by unfold Addr.add; split <;> simp_all
        rw [← hadd]
        exact hc2 i hi
    · by_cases hi : i < len
      · have := hr i
        simpa [List.getD, List.getElem?_take_of_lt hi] using this
      · simp [List.getD, List.getElem?_take_eq_none (Nat.le_of_not_lt hi)]

set_option maxRecDepth 100000 in
theorem lifted (os : Os) (started : os.Started) (H : Type) (enc : TypeId × Value → H) :
    ReturnsInTold none {} Ybaf.checked os 4 .any Input.okWide ((OpenSpec.ofChange Rows.lawS1044ABuiltSpec).preRow enc Ybaf.prog Ybaf.f4 Rows.lawS1044ABuiltRow.domain false Rows.lawS1044ABuiltRow.laid) (fun F => ((OpenSpec.ofChange Rows.lawS1044ABuiltSpec).at F).post enc Ybaf.prog Ybaf.f4 false true false false) (aloneAtReturn Ybaf.prog) nothingAlways := by
  refine returnsInTold_of_row (C := Ybaf.checked) (s := OpenSpec.ofChange Rows.lawS1044ABuiltSpec) (by kernel_rfl) own started (by kernel_rfl) Ybaf.func4
    (OpenSpec.witness_stopped_atRef (enc := enc) (C := Ybaf.checked) false (World.doorLaid Ybaf.prog 400 os) #[.int .u16 0, .slice none 0 0, .slice none 0 0] rfl (by kernel_rfl) (by kernel_rfl) (by kernel_rfl)
      (OpenSpec.preRow_of_B rfl 8 (by kernel_rfl) (by kernel_rfl) (door_met os _))) ?_
  intro F W base args ds gs before _ hF hval0 hW hcnd _ _ hL _
  have hval : ∀ (j : Nat) t v, Ybaf.f4.params[j]? = some t → args[j]? = some v → Value.okWide Ybaf.prog W .any base t v := hval0
  have hW' := hW
  obtain ⟨p, q, hA0, hV0, rfl, hfz, hnd⟩ := hW
  have hA : DataW.TrodAll enc Ybaf.prog W 0 (fun _ => true) true Ybaf.f4.params.toList args.toList ds p := hA0
  have hV : DataW.TrodVars enc Ybaf.prog W (fun _ => true) Rows.lawS1044ABuiltSpec.vars gs q := hV0
  rw [Ybaf.params4] at hA hval
  obtain ⟨v0, v1, v2, d0, d1, d2, p0, p1, p2, rfl, rfl, rfl, h0, h1, h2⟩ := trodAll_three hA
  obtain ⟨t, rfl, rfl, rfl, wt⟩ := open_int Ybaf.underlying29 (hval 0 29 v0 rfl rfl) h0
  obtain ⟨a1, len1, cap1, rfl⟩ := okWide_slice Ybaf.underlying22 (hval 1 22 v1 rfl rfl)
  obtain ⟨a2, len2, cap2, rfl⟩ := okWide_slice Ybaf.underlying22 (hval 2 22 v2 rfl rfl)
  have lt1 : ∀ x ∈ p1, x.block < W.heap.size := by obtain ⟨m, hm⟩ := h1; exact DataW.trod_lt m _ _ _ hm
  have lt2 : ∀ x ∈ p2, x.block < W.heap.size := by obtain ⟨m, hm⟩ := h2; exact DataW.trod_lt m _ _ _ hm
  obtain ⟨bm, g1, g2, g3, g4⟩ := of_laid hL
  have hl : Laid W bm := ⟨g1, g2, g4⟩
  clear hA0 hV0 hval0
  obtain ⟨ks, kA, _, _, kR⟩ := key_of h1
  obtain ⟨ts, _, tA, tL, tR⟩ := key_of h2
  have bt := bounds_u16 wt
  refine (walk F.told t a1 len1 cap1 bm ks a2 len2 cap2 ts W hF hl bt.1 bt.2 kA kR tA tL tR).mono fun e W' ⟨he, bel⟩ => ?_
  subst he
  obtain ⟨g, ty, cs, fuel, dg, pg, rfl, hg, ht, hv, hd, hq⟩ := trodVars_one hV
  exact ⟨_, rfl, _, _, _, [], _, q, hW', trodAll_mk1 (shut_bool Ybaf.underlying4 _), trodAll_mk3 (shut_int Ybaf.underlying29 wt) (Below.trod laidOut (by kernel_rfl) (of_decide_eq_true (by kernel_rfl)) h1 bel lt1) (Below.trod laidOut (by kernel_rfl) (of_decide_eq_true (by kernel_rfl)) h2 bel lt2), Below.trodVars laidOut bel (by kernel_rfl) hV, bel.frame _, fun h => by cases h⟩

theorem laidOut' : laidOutB Ybaf.pinned.checked.prog = true := by kernel_rfl
theorem stops : Ybaf.pinned.checked.prog.stops = ["fmt.Sprintf"] := by kernel_rfl
theorem stopKnobs : Ybaf.pinned.checked.prog.stopKnobs = [] := by kernel_rfl
theorem quiet (os : Os) : Stop.quiet Ybaf.pinned.checked.prog os := by
  intro k hk
  rw [stopKnobs] at hk
  cases hk

/-- THE STATEMENT -/
theorem proved : Rows.LawS1044ABuiltToldSaid :=
  Claim7.holds_of_told_tied_any_at .later 4 Ybaf.f4 "fmt.Sprintf" [] [] _ _ _ _ _ (by kernel_rfl) rfl rfl rfl laidOut' (by kernel_rfl) rfl ⟨rfl, rfl, rfl, rfl, rfl, rfl, rfl⟩ rfl rfl (by kernel_rfl) (by kernel_rfl) Ybaf.func4 (by kernel_rfl)
    (of_decide_eq_true (by kernel_rfl)) (by unfold Func.isWrapper; first | (rw [if_pos (by decide +kernel)]; kernel_rfl) | (rw [if_neg (by decide +kernel)]; exact ⟨rfl, rfl⟩)) stops.symm rfl stopKnobs.symm (by kernel_rfl)
    (by kernel_rfl) (by kernel_rfl) (by kernel_rfl) (by kernel_rfl) (by kernel_rfl) (by kernel_rfl) (by kernel_rfl) (by kernel_rfl) (by kernel_rfl) rfl (by kernel_rfl) rfl rfl
    rfl rfl
    rfl (by kernel_rfl) (by kernel_rfl) (by kernel_rfl) (by decide) (by kernel_rfl) lawS1044ABuilt_row_tie
    (OpenClaim.moreEntering_of (by kernel_rfl) (by kernel_rfl) (by kernel_rfl) (by kernel_rfl) (by kernel_rfl) (by kernel_rfl) (by kernel_rfl) (by kernel_rfl) (by kernel_rfl) (by kernel_rfl))
    ⟨_, WideRow.started_initial, quiet _⟩
    (fun os started _ H enc _ => lifted os started H enc)
end Go.Proofs.YbulkupeFmt.lawS1044ABuilt
