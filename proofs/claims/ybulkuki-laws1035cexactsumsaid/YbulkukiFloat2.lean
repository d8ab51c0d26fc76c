/-
  Seat b1035a: PLAIN LAWS OF DOUBLES, on words: sums, the order, products. No Go in sight.
-/
import Derived.Test.YbulkukiFloat
namespace Go.Proofs.Ybulkuki
open Ieee

def Fin64 (x : Nat) : Prop := rungOf x < 9218868437227405312

theorem word_eta (x : Nat) (h : x < 18446744073709551616) : double.word (negOf x) (rungOf x) = x := by
  unfold Format.word negOf rungOf
  rw [d_sw]
  by_cases hn : x / 9223372036854775808 % 2 = 1
  · simp [hn]; omega
  · simp [hn]; omega

theorem sval_form (x : Nat) : sval x = if negOf x then -((mg (rungOf x) * 2 ^ pl (rungOf x) : Nat) : Int) else ((mg (rungOf x) * 2 ^ pl (rungOf x) : Nat) : Int) := rfl

theorem sval_natAbs (x : Nat) : (sval x).natAbs = val (rungOf x) := by
  unfold sval
  split <;> simp

theorem add_fin (x y : Nat) (hx : Fin64 x) (hy : Fin64 y) : double.add x y =
    some (double.word (if sval x + sval y = 0 then negOf x && negOf y else decide (sval x + sval y < 0)) (min (rn (sval x + sval y).natAbs) 9218868437227405312)) := by
  unfold Format.add
  rw [read_fin x hx, read_fin y hy, sum_fin]
  rfl

theorem sub_fin (x y : Nat) (hx : Fin64 x) (hy : Fin64 y) : double.sub x y =
    some (double.word (if sval x - sval y = 0 then negOf x && !negOf y else decide (sval x - sval y < 0)) (min (rn (sval x - sval y).natAbs) 9218868437227405312)) := by
  unfold Format.sub
  rw [read_fin x hx, read_fin y hy]
  unfold Datum.opposite
  rw [sum_fin]
  have e : (if (!negOf y) = true then -((mg (rungOf y) * 2 ^ pl (rungOf y) : Nat) : Int) else ((mg (rungOf y) * 2 ^ pl (rungOf y) : Nat) : Int)) = - sval y := by
    rw [sval_form]
    cases negOf y <;> simp
  rw [e, ← sval_form]
  simp only [← Int.sub_eq_add_neg]

theorem order_fin (x y : Nat) (hx : Fin64 x) (hy : Fin64 y) : double.order x y = some (compare (sval x) (sval y)) := by
  unfold Format.order
  rw [read_fin x hx, read_fin y hy]
  have hb : ∃ b : Nat, min (-1074 + (pl (rungOf x) : Int)) (-1074 + (pl (rungOf y) : Int)) = -1074 + (b : Int) ∧ b ≤ pl (rungOf x) ∧ b ≤ pl (rungOf y) := by
    by_cases h : pl (rungOf x) ≤ pl (rungOf y)
    · exact ⟨pl (rungOf x), by omega, by omega, by omega⟩
    · exact ⟨pl (rungOf y), by omega, by omega, by omega⟩
  obtain ⟨b, hb, hi, hj⟩ := hb
  simp only [Datum.order, hb]
  have e1 : (-1074 + (pl (rungOf x) : Int) - (-1074 + (b : Int))).toNat = pl (rungOf x) - b := by omega
  have e2 : (-1074 + (pl (rungOf y) : Int) - (-1074 + (b : Int))).toNat = pl (rungOf y) - b := by omega
  rw [e1, e2]
  have hp : (0 : Int) < 2 ^ b := Int.pow_pos (by decide)
  have k1 := shl_signed (negOf x) (mg (rungOf x)) (pl (rungOf x) - b) b (pl (rungOf x)) (by omega)
  have k2 := shl_signed (negOf y) (mg (rungOf y)) (pl (rungOf y) - b) b (pl (rungOf y)) (by omega)
  rw [← sval_form] at k1 k2
  rw [← k1, ← k2]
  generalize signed (negOf x) (mg (rungOf x)) (pl (rungOf x) - b) = A
  generalize signed (negOf y) (mg (rungOf y)) (pl (rungOf y) - b) = B
  have l : (A * 2 ^ b < B * 2 ^ b) ↔ A < B := Int.mul_lt_mul_right hp
  have q : (A * 2 ^ b = B * 2 ^ b) ↔ A = B := ⟨fun h => Int.eq_of_mul_eq_mul_right (by omega) h, fun h => by rw [h]⟩
  simp only [compare, compareOfLessAndEq, l, q]

theorem order_self (x : Nat) (hx : Fin64 x) : double.order x x = some .eq := by
  rw [order_fin x x hx hx]
  simp [compare, compareOfLessAndEq]

/-- Nought, left or right. -/
theorem sval_zero : sval 0 = 0 := by decide
theorem fin_zero : Fin64 0 := by unfold Fin64 rungOf; decide

theorem sval_eq_zero {x : Nat} (h : sval x = 0) : rungOf x = 0 := by
  have h1 : (sval x).natAbs = 0 := by rw [h]; rfl
  rw [sval_natAbs] at h1
  have h2 := rn_val (rungOf x)
  rw [h1] at h2
  rw [← h2]
  decide

theorem sval_neg_iff {x : Nat} (h : sval x ≠ 0) : decide (sval x < 0) = negOf x := by
  unfold sval at h ⊢
  cases hn : negOf x
  · simp [hn] at h ⊢
  · simp [hn] at h ⊢
    omega

/-- x - 0 is x, the sign of a zero too. -/
theorem sub_zero (x : Nat) (hx : Fin64 x) (h : x < 18446744073709551616) : double.sub x 0 = some x := by
  rw [sub_fin x 0 hx fin_zero, sval_zero, Int.sub_zero, sval_natAbs, rn_val]
  have n0 : negOf 0 = false := by decide
  have hm : min (rungOf x) 9218868437227405312 = rungOf x := Nat.min_eq_left (Nat.le_of_lt hx)
  rw [n0, hm]
  by_cases hz : sval x = 0
  · rw [if_pos hz]
    simp only [Bool.not_false, Bool.and_true]
    rw [word_eta x h]
  · rw [if_neg hz, sval_neg_iff hz, word_eta x h]

/-- x + 0 has x's value. -/
theorem add_zero (x : Nat) (hx : Fin64 x) (h : x < 18446744073709551616) : ∃ y, double.add x 0 = some y ∧ Fin64 y ∧ sval y = sval x := by
  rw [add_fin x 0 hx fin_zero, sval_zero, Int.add_zero, sval_natAbs, rn_val]
  have n0 : negOf 0 = false := by decide
  have hm : min (rungOf x) 9218868437227405312 = rungOf x := Nat.min_eq_left (Nat.le_of_lt hx)
  rw [n0, hm]
  by_cases hz : sval x = 0
  · rw [if_pos hz]
    have hr := sval_eq_zero hz
    rw [hr, hz]
    simp only [Bool.and_false]
    exact ⟨0, by decide, fin_zero, sval_zero⟩
  · rw [if_neg hz, sval_neg_iff hz, word_eta x h]
    exact ⟨x, rfl, hx, rfl⟩

/-- A sum that is not nought depends on the values alone. -/
theorem add_congr {x y z : Nat} (hx : Fin64 x) (hy : Fin64 y) (hz : Fin64 z) (e : sval y = sval z) (hn : sval x + sval y ≠ 0) : double.add x y = double.add x z := by
  rw [add_fin x y hx hy, add_fin x z hx hz, ← e, if_neg hn, if_neg hn]

theorem word_lt (sg : Bool) (k : Nat) (h : k ≤ 9218868437227405312) : double.word sg k < 18446744073709551616 := by
  unfold Format.word
  rw [d_sw]
  cases sg <;> simp <;> omega
theorem word_rung (sg : Bool) (k : Nat) (h : k ≤ 9218868437227405312) : rungOf (double.word sg k) = k := by
  unfold Format.word rungOf
  rw [d_sw]
  cases sg <;> simp <;> omega
theorem word_neg (sg : Bool) (k : Nat) (h : k ≤ 9218868437227405312) : negOf (double.word sg k) = sg := by
  unfold Format.word negOf
  rw [d_sw]
  cases sg <;> simp <;> omega

theorem add_exists (x y : Nat) (hx : Fin64 x) (hy : Fin64 y) : ∃ s, double.add x y = some s ∧ s < 18446744073709551616 ∧ (sval x + sval y = 0 → rungOf s = 0) := by
  rw [add_fin x y hx hy]
  refine ⟨_, rfl, word_lt _ _ (Nat.min_le_right _ _), fun h => ?_⟩
  rw [word_rung _ _ (Nat.min_le_right _ _), h]
  decide

/-- 0 * a = 0 for a finite a that is not negative. -/
theorem zero_mul_fin (a : Nat) (ha : Fin64 a) (hn : negOf a = false) : double.mul 0 a = some 0 := by
  unfold Format.mul
  rw [read_fin 0 fin_zero, read_fin a ha, hn]
  have m0 : mg (rungOf 0) = 0 := by decide
  have n0 : negOf 0 = false := by decide
  rw [m0, n0]
  simp [Datum.product, Format.write, Format.nearest, Format.word]

/-- 1 * x = x for a normal x. -/
theorem one_mul_normal (x : Nat) (hx : Fin64 x) (h : x < 18446744073709551616) (hr : 4503599627370496 ≤ rungOf x) : double.mul 4607182418800017408 x = some x := by
  unfold Format.mul
  have h1 : Fin64 4607182418800017408 := by unfold Fin64 rungOf; decide
  have m1 : mg (rungOf 4607182418800017408) = 4503599627370496 := by decide
  have p1 : pl (rungOf 4607182418800017408) = 1022 := by decide
  have n1 : negOf 4607182418800017408 = false := by decide
  rw [read_fin _ h1, read_fin x hx, m1, p1, n1]
  have hg : 4503599627370496 ≤ mg (rungOf x) := by unfold mg; split <;> omega
  have hl := mg_lt (rungOf x)
  have hlog : (4503599627370496 * mg (rungOf x)).log2 = 104 := log2_of (by omega) (by omega)
  simp only [Datum.product, Option.map_some, Format.write, Bool.false_xor]
  unfold Format.nearest
  rw [if_neg (by omega)]
  simp only [d_lp, d_fb, d_bn, d_ir, hlog]
  have hp : (-1074 + (1022 : Nat) + (-1074 + (pl (rungOf x) : Int)) + (104 : Nat) - (52 : Nat)) = -1074 + (pl (rungOf x) : Int) := by omega
  rw [hp]
  have hm : max (-1074 + (pl (rungOf x) : Int)) (-1074) = -1074 + (pl (rungOf x) : Int) := by omega
  rw [hm]
  have e1 : (-1074 + (pl (rungOf x) : Int) - -1074).toNat = pl (rungOf x) := by omega
  have e2 : (-1074 + (1022 : Nat) + (-1074 + (pl (rungOf x) : Int)) - (-1074 + (pl (rungOf x) : Int))).toNat = 0 := by omega
  have e3 : (-1074 + (pl (rungOf x) : Int) - (-1074 + (1022 : Nat) + (-1074 + (pl (rungOf x) : Int)))).toNat = 52 := by omega
  rw [e1, e2, e3, Nat.shiftLeft_zero, cut_even _ _ _ (by rw [hlog]; omega)]
  have e4 : rnd (4503599627370496 * mg (rungOf x)) 52 = mg (rungOf x) := by
    rw [Nat.mul_comm]
    exact rnd_mul (mg (rungOf x)) 52
  rw [e4, ← rung_eq, Nat.min_eq_left (Nat.le_of_lt hx), word_eta x h]
end Go.Proofs.Ybulkuki
