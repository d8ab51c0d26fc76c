/-
  Seat b1035a: PLAIN: hi + v and hi - v are hi, where v is at most a quarter of hi's last place; the walk of zzs1035crel (22) and of LawS1035CTinyErr (10).
-/
import Derived.Test.YbulkukiRound
namespace Go.Proofs.Ybulkuki
open Go.RowKit Ieee

theorem sval_word (sg : Bool) (k : Nat) (h : k ≤ 9218868437227405312) : sval (double.word sg k) = if sg then -(val k : Int) else val k := by
  unfold sval
  rw [word_rung sg k h, word_neg sg k h]

theorem neg_of_lt {e : Nat} (h : e < 9218868437227405312) : negOf e = false ∧ rungOf e = e := by
  unfold negOf rungOf
  have h1 : e / 9223372036854775808 = 0 := by omega
  rw [h1]
  exact ⟨rfl, by omega⟩

theorem zero_sub (e : Nat) (h : e < 9218868437227405312) : ∃ d, double.sub 0 e = some d ∧ Fin64 d ∧ sval d = -(val e : Int) := by
  obtain ⟨hn, hr⟩ := neg_of_lt h
  have fe : Fin64 e := by unfold Fin64; rw [hr]; exact h
  have n0 : negOf 0 = false := by decide
  have hs : sval e = val e := by rw [sval_pos hn, hr]
  rw [sub_fin 0 e fin_zero fe, sval_zero, Int.zero_sub, Int.natAbs_neg, sval_natAbs, hr, rn_val, Nat.min_eq_left (Nat.le_of_lt h)]
  refine ⟨_, rfl, ?_, ?_⟩
  · unfold Fin64
    rw [word_rung _ _ (Nat.le_of_lt h)]
    exact h
  · rw [sval_word _ _ (Nat.le_of_lt h), hs, n0]
    by_cases hz : val e = 0
    · simp [hz]
    · have h1 : decide (-(val e : Int) < 0) = true := decide_eq_true (by omega)
      have h2 : ¬ (-(val e : Int) = 0) := by omega
      rw [if_neg h2, h1, if_pos rfl]
theorem zero_add (e : Nat) (h : e < 9218868437227405312) : ∃ d, double.add 0 e = some d ∧ Fin64 d ∧ sval d = (val e : Int) := by
  obtain ⟨hn, hr⟩ := neg_of_lt h
  have fe : Fin64 e := by unfold Fin64; rw [hr]; exact h
  have n0 : negOf 0 = false := by decide
  have hs : sval e = val e := by rw [sval_pos hn, hr]
  rw [add_fin 0 e fin_zero fe, sval_zero, Int.zero_add, sval_natAbs, hr, rn_val, Nat.min_eq_left (Nat.le_of_lt h)]
  refine ⟨_, rfl, ?_, ?_⟩
  · unfold Fin64
    rw [word_rung _ _ (Nat.le_of_lt h)]
    exact h
  · rw [sval_word _ _ (Nat.le_of_lt h), hs, n0]
    have : ¬ (val e : Int) < 0 := by omega
    simp [this]

theorem tiny_sum (hi d e f v : Nat) (hhi : hi < 18446744073709551616) (hd : Fin64 d) (hdv : sval d = (v : Int) ∨ sval d = -(v : Int)) (hr : rungOf hi = (e + 1) * 4503599627370496 + f) (hf : f < 4503599627370496) (he : 1 ≤ e) (he2 : e ≤ 2045)
    (hv : 2 * v < 2 ^ e) (h0 : f = 0 → 4 * v < 2 ^ e) : double.add hi d = some hi := by
  have hfin : Fin64 hi := by unfold Fin64; rw [hr]; omega
  have hval : val (rungOf hi) = (4503599627370496 + f) * 2 ^ e := by
    rw [hr, show (e + 1) * 4503599627370496 + f = e * 4503599627370496 + (4503599627370496 + f) by omega]
    exact val_of _ _ (by omega) (.inr (by omega))
  have hbig : v < (4503599627370496 + f) * 2 ^ e := by
    have : 1 * 2 ^ e ≤ (4503599627370496 + f) * 2 ^ e := Nat.mul_le_mul_right _ (by omega)
    omega
  have ru := rn_up f e v hf hv
  have rd := rn_down f e v hf he hv h0
  have hm : min (rungOf hi) 9218868437227405312 = rungOf hi := Nat.min_eq_left (Nat.le_of_lt hfin)
  rw [← hval] at ru rd hbig
  rw [← hr] at ru rd
  rw [add_fin hi d hfin hd]
  have key : (sval hi + sval d ≠ 0) ∧ (decide (sval hi + sval d < 0) = negOf hi) ∧ rn (sval hi + sval d).natAbs = rungOf hi := by
    unfold sval at hdv ⊢
    cases hn : negOf hi
    · simp only [Bool.false_eq_true, if_false]
      rcases hdv with q | q
      · rw [q]
        have e1 : ((val (rungOf hi) : Int) + (v : Int)).natAbs = val (rungOf hi) + v := by omega
        refine ⟨by omega, by simp; omega, by rw [e1]; exact ru⟩
      · rw [q]
        have e1 : ((val (rungOf hi) : Int) + -(v : Int)).natAbs = val (rungOf hi) - v := by omega
        refine ⟨by omega, by simp; omega, by rw [e1]; exact rd⟩
    · simp only [if_true]
      rcases hdv with q | q
      · rw [q]
        have e1 : (-(val (rungOf hi) : Int) + (v : Int)).natAbs = val (rungOf hi) - v := by omega
        refine ⟨by omega, by simp; omega, by rw [e1]; exact rd⟩
      · rw [q]
        have e1 : (-(val (rungOf hi) : Int) + -(v : Int)).natAbs = val (rungOf hi) + v := by omega
        refine ⟨by omega, by simp; omega, by rw [e1]; exact ru⟩
  obtain ⟨k1, k2, k3⟩ := key
  rw [if_neg k1, k2, k3, hm, word_eta hi hhi]

/-- 2^-55 is 2^big units of 2^-1074. -/
def big : Nat := 1019
theorem big_is : big = 1019 := rfl

/-- What a relative error may be: finite, not negative, at most 2^-55. -/
structure Small (rr : Nat) : Prop where
  fin : Fin64 rr
  pos : negOf rr = false
  le : val (rungOf rr) ≤ 2 ^ big

/-- The four float operations of roundFastNormal at lo = 0. -/
theorem tiny_ops (hi rr : Nat) (hhi : hi < 18446744073709551616) (e1 : 60 ≤ ex hi) (e2 : ex hi ≤ 2045) (h : Small rr) :
    ∃ e d d2, double.mul rr (rungOf hi) = some e ∧ double.sub 0 e = some d ∧ double.add hi d = some hi ∧ double.add 0 e = some d2 ∧ double.add hi d2 = some hi := by
  obtain ⟨e, he⟩ : ∃ e : Nat, e = rungOf hi / 4503599627370496 - 1 := ⟨_, rfl⟩
  obtain ⟨f, hf⟩ : ∃ f : Nat, f = rungOf hi % 4503599627370496 := ⟨_, rfl⟩
  have hE : ex hi = ((rungOf hi / 4503599627370496 : Nat) : Int) := by unfold ex rungOf; omega
  have hr : rungOf hi = (e + 1) * 4503599627370496 + f := by omega
  have hf' : f < 4503599627370496 := by omega
  have ee1 : 59 ≤ e := by omega
  have ee2 : e ≤ 2044 := by omega
  have hfin : Fin64 (rungOf hi) := by unfold Fin64; rw [rung_rung, hr]; omega
  have hval : val (rungOf (rungOf hi)) = (4503599627370496 + f) * 2 ^ e := by
    rw [rung_rung, hr, show (e + 1) * 4503599627370496 + f = e * 4503599627370496 + (4503599627370496 + f) by omega]
    exact val_of _ _ (by omega) (.inr (by omega))
  have hbig := big_is
  have two : (2 : Nat) ^ e = 2 * 2 ^ (e - 1) := by rw [Nat.mul_comm, ← Nat.pow_succ]; congr 1; omega
  have pos : 0 < 2 ^ (e - 1) := Nat.two_pow_pos _
  obtain ⟨v, m1, m2, m3, m4⟩ : ∃ v, double.mul rr (rungOf hi) = some v ∧ v < 9218868437227405312 ∧ 2 * val v < 2 ^ e ∧ (f = 0 → 4 * val v < 2 ^ e) := by
    by_cases f0 : f = 0
    · subst f0
      obtain ⟨v, a, b, c⟩ := mul_le_pow rr (rungOf hi) (e - 3) h.fin hfin h.pos (neg_rung hi) (by omega) (by
        rw [hval]
        refine Nat.le_trans (Nat.mul_le_mul_right _ h.le) ?_
        rw [show (4503599627370496 + 0 : Nat) = 2 ^ 52 by decide, ← Nat.pow_add, ← Nat.pow_add]
        exact Nat.pow_le_pow_right (by decide) (by omega))
      have t3 : (2 : Nat) ^ (e - 1) = 4 * 2 ^ (e - 3) := by
        rw [show (4 : Nat) = 2 ^ 2 by decide, ← Nat.pow_add]; congr 1; omega
      exact ⟨v, a, b, by omega, fun _ => by omega⟩
    · obtain ⟨v, a, b, c⟩ := mul_le_pow rr (rungOf hi) (e - 2) h.fin hfin h.pos (neg_rung hi) (by omega) (by
        rw [hval]
        refine Nat.le_trans (Nat.mul_le_mul h.le (Nat.mul_le_mul_right (2 ^ e) (show 4503599627370496 + f ≤ 2 ^ 53 by omega))) ?_
        rw [← Nat.pow_add, ← Nat.pow_add]
        exact Nat.pow_le_pow_right (by decide) (by omega))
      have t3 : (2 : Nat) ^ (e - 1) = 2 * 2 ^ (e - 2) := by
        rw [Nat.mul_comm, ← Nat.pow_succ]; congr 1; omega
      exact ⟨v, a, b, by omega, fun z => absurd z f0⟩
  obtain ⟨d, d1, d2, d3⟩ := zero_sub v m2
  obtain ⟨g, g1, g2, g3⟩ := zero_add v m2
  exact ⟨v, d, g, m1, d1, tiny_sum hi d e f (val v) hhi d2 (.inr d3) hr hf' (by omega) (by omega) m3 m4, g1, tiny_sum hi g e f (val v) hhi g2 (.inl g3) hr hf' (by omega) (by omega) m3 m4⟩

theorem small_max : Small 4359484439294640128 := by
  refine ⟨?_, ?_, ?_⟩
  · unfold Fin64 rungOf; decide
  · decide
  · obtain ⟨q, hq⟩ : ∃ q : Nat, q = 967 := ⟨_, rfl⟩
    have h1 : rungOf 4359484439294640128 = q * 4503599627370496 + 4503599627370496 := by unfold rungOf; omega
    have hbig := big_is
    rw [h1, val_of q 4503599627370496 (by decide) (.inr (by decide)), show (4503599627370496 : Nat) = 2 ^ 52 by decide, ← Nat.pow_add]
    exact Nat.pow_le_pow_right (by decide) (by omega)
end Go.Proofs.Ybulkuki
