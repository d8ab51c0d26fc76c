/-
  Seat b1035a: PLAIN LAWS OF DOUBLES: the order of rungs; a product bounded by a power of two; a tiny summand is lost. No Go in sight.
-/
import Derived.Test.YbulkukiFloat2
namespace Go.Proofs.Ybulkuki
open Ieee

theorem val_mono {r s : Nat} (h : r ≤ s) : val r ≤ val s := by
  unfold val
  have er := rung_eq r
  have es := rung_eq s
  have hr := mg_lt r
  have hs := mg_lt s
  by_cases h1 : pl r = pl s
  · rw [h1]
    exact Nat.mul_le_mul_right _ (by omega)
  · have h2 : pl r < pl s := by
      have : pl r ≤ pl s := by unfold pl; split <;> split <;> omega
      omega
    have hg := mg_ge s (by omega)
    have e : (2 : Nat) ^ pl s = 2 ^ (pl s - pl r - 1) * 2 * 2 ^ pl r := by
      rw [← Nat.pow_succ, ← Nat.pow_add]; congr 1; omega
    have hp : 0 < (2 : Nat) ^ (pl s - pl r - 1) := Nat.two_pow_pos _
    rw [e, ← Nat.mul_assoc]
    refine Nat.mul_le_mul_right _ ?_
    generalize (2 : Nat) ^ (pl s - pl r - 1) = k at *
    have : 4503599627370496 * 2 ≤ mg s * (k * 2) := Nat.mul_le_mul hg (by omega)
    omega

/-! ### What is not finite -/
theorem read_inf (x : Nat) (h : rungOf x = 9218868437227405312) : double.read x = .infinity (negOf x) := by
  unfold Format.read
  simp only [d_sw, d_bn, d_ir, d_lp]
  unfold negOf
  unfold rungOf at h
  rw [h]
  simp
theorem read_nan (x : Nat) (h : 9218868437227405312 < rungOf x) : ∃ f, double.read x = .nan (negOf x) f := by
  unfold Format.read
  simp only [d_sw, d_bn, d_ir, d_lp]
  unfold negOf
  unfold rungOf at h
  refine ⟨x % 9223372036854775808 - 9218868437227405312, ?_⟩
  rw [if_neg (by omega), if_neg (by omega), if_neg (by omega)]
theorem order_nan (x y : Nat) (h : 9218868437227405312 < rungOf x) : double.order x y = none := by
  obtain ⟨f, e⟩ := read_nan x h
  unfold Format.order
  rw [e]
  simp [Datum.order]
theorem order_inf (x y : Nat) (h : rungOf x = 9218868437227405312) (hn : negOf x = false) (hy : Fin64 y) : double.order x y = some .gt := by
  unfold Format.order
  rw [read_inf x h, read_fin y hy, hn]
  simp [Datum.order]
theorem order_inf_self (x : Nat) (h : rungOf x = 9218868437227405312) : double.order x x = some .eq := by
  unfold Format.order
  rw [read_inf x h]
  simp [Datum.order]

theorem sval_pos {x : Nat} (h : negOf x = false) : sval x = val (rungOf x) := by
  unfold sval
  simp [h]

theorem order_pos (x y : Nat) (hx : Fin64 x) (hy : Fin64 y) (nx : negOf x = false) (ny : negOf y = false) : double.order x y = some (compare (val (rungOf x) : Int) (val (rungOf y))) := by
  rw [order_fin x y hx hy, sval_pos nx, sval_pos ny]

theorem cmp_not_gt {a b : Int} (h : a ≤ b) : (some (compare a b) == some Ordering.gt) = false := by
  simp only [compare, compareOfLessAndEq]
  by_cases h1 : a < b
  · simp [h1]
  · have h2 : a = b := by omega
    simp [h2]
theorem cmp_not_lt {a b : Int} (h : b ≤ a) : (some (compare a b) == some Ordering.lt) = false := by
  simp only [compare, compareOfLessAndEq]
  have h1 : ¬ a < b := by omega
  rw [if_neg h1]
  split <;> decide
theorem cmp_not_eq {a b : Int} (h : a ≠ b) : (some (compare a b) == some Ordering.eq) = false := by
  simp only [compare, compareOfLessAndEq]
  by_cases h1 : a < b
  · simp [h1]
  · simp [h1, h]
theorem cmp_gt_iff {a b : Int} : (some (compare a b) == some Ordering.gt) = decide (b < a) := by
  simp only [compare, compareOfLessAndEq]
  by_cases h1 : a < b
  · have : ¬ b < a := by omega
    simp [h1, this]
  · by_cases h2 : a = b
    · simp [h2]
    · have : b < a := by omega
      simp [h1, h2, this]

/-! ### A product's bound -/
theorem rnd_le (n d B : Nat) (h : n ≤ B * 2 ^ d) : rnd n d ≤ B := by
  have h2 : 0 < 2 ^ d := Nat.two_pow_pos d
  unfold rnd
  have hq : n / 2 ^ d ≤ B := Nat.div_le_of_le_mul (by rw [Nat.mul_comm]; exact h)
  have hdm := Nat.div_add_mod n (2 ^ d)
  by_cases hB : n / 2 ^ d = B
  · have hz : n % 2 ^ d = 0 := by
      rw [hB, Nat.mul_comm] at hdm
      omega
    rw [hz, hB, Nat.mul_zero]
    have h3 : (2 ^ d == 0) = false := beq_eq_false_iff_ne.2 (by omega)
    simp [h3]
  · have : ∀ b : Bool, b.toNat ≤ 1 := fun b => by cases b <;> decide
    have := this (2 ^ d < 2 * (n % 2 ^ d) || (2 ^ d == 2 * (n % 2 ^ d) && n / 2 ^ d % 2 == 1))
    omega

theorem cut_le (neg : Bool) (n d B : Nat) (h : n ≤ B * 2 ^ d) : Toward.even.cut neg n d ≤ B := by
  by_cases hd : d ≤ n.log2 + 2
  · rw [cut_even _ _ _ hd]
    exact rnd_le n d B h
  · have hb := @Nat.lt_log2_self n
    have e : (2 : Nat) ^ (n.log2 + 2) = 2 ^ (n.log2 + 1) * 2 := Nat.pow_succ _ _
    unfold Toward.cut
    rw [Nat.min_eq_right (by omega), Nat.one_shiftLeft]
    have hlt : n < 2 ^ (n.log2 + 2) := by omega
    simp only [Nat.mod_eq_of_lt hlt, Nat.div_eq_of_lt hlt]
    have h1 : ¬ 2 ^ (n.log2 + 2) < 2 * n := by omega
    have h2 : (2 ^ (n.log2 + 2) == 2 * n) = false := beq_eq_false_iff_ne.2 (by omega)
    simp [h1, h2]

theorem rnd_ge (n d : Nat) : n / 2 ^ d ≤ rnd n d := by
  unfold rnd
  omega

/-- A product that is at most 2^q units rounds to a double of at most 2^q units. -/
theorem nearest_le (m t q : Nat) (hq : q ≤ 2090) (h : m * 2 ^ t ≤ 2 ^ (q + 1074)) :
    ∃ k, double.nearest false m (-2148 + (t : Int)) = k ∧ k < 9218868437227405312 ∧ val k ≤ 2 ^ q := by
  unfold Format.nearest
  by_cases hm : m = 0
  · subst hm
    rw [if_pos rfl]
    refine ⟨0, by decide, by decide, ?_⟩
    have hz : val 0 = 0 := by decide
    rw [hz]
    exact Nat.zero_le _
  · rw [if_neg hm]
    simp only [d_lp, d_fb, d_bn, d_ir]
    have ha := Nat.log2_self_le hm
    have hb := @Nat.lt_log2_self m
    generalize hL : m.log2 = L at *
    have hLq : L + t ≤ q + 1074 := by
      have h1 : 2 ^ (L + t) ≤ 2 ^ (q + 1074) := by
        rw [Nat.pow_add]
        exact Nat.le_trans (Nat.mul_le_mul_right _ ha) h
      exact (Nat.pow_le_pow_iff_right (by decide)).1 h1
    generalize hd : t + L - 1126 = d
    have e1 : (max (-2148 + (t : Int) + (L : Int) - (52 : Nat)) (-1074) - -1074).toNat = d := by omega
    have e2 : (-2148 + (t : Int) - max (-2148 + (t : Int) + (L : Int) - (52 : Nat)) (-1074)).toNat = t - (1074 + d) := by omega
    have e3 : (max (-2148 + (t : Int) + (L : Int) - (52 : Nat)) (-1074) - (-2148 + (t : Int))).toNat = 1074 + d - t := by omega
    rw [e1, e2, e3, Nat.shiftLeft_eq]
    generalize hK : Toward.even.cut false (m * 2 ^ (t - (1074 + d))) (1074 + d - t) = K
    have hdq : d ≤ q := by omega
    have k1 : K ≤ 2 ^ (q - d) := by
      rw [← hK]
      refine cut_le _ _ _ _ ?_
      by_cases c : 1074 + d ≤ t
      · have z : 1074 + d - t = 0 := by omega
        rw [z, Nat.pow_zero, Nat.mul_one]
        have hp : 0 < 2 ^ (1074 + d) := Nat.two_pow_pos _
        refine Nat.le_of_mul_le_mul_right ?_ hp
        rw [Nat.mul_assoc, ← Nat.pow_add, ← Nat.pow_add, show t - (1074 + d) + (1074 + d) = t by omega, show q - d + (1074 + d) = q + 1074 by omega]
        exact h
      · have z : t - (1074 + d) = 0 := by omega
        rw [z, Nat.pow_zero, Nat.mul_one, ← Nat.pow_add]
        have hp : 0 < 2 ^ t := Nat.two_pow_pos _
        refine Nat.le_of_mul_le_mul_right ?_ hp
        rw [← Nat.pow_add, show q - d + (1074 + d - t) + t = q + 1074 by omega]
        exact h
    have k2 : K ≤ 9007199254740992 := by
      rw [← hK]
      refine cut_le _ _ _ _ ?_
      rw [show 9007199254740992 = 2 ^ 53 by decide, ← Nat.pow_add]
      by_cases c : 1074 + d ≤ t
      · have z : 1074 + d - t = 0 := by omega
        rw [z]
        refine Nat.le_trans (Nat.mul_le_mul_right _ (Nat.le_of_lt hb)) ?_
        rw [← Nat.pow_add]
        exact Nat.pow_le_pow_right (by decide) (by omega)
      · have z : t - (1074 + d) = 0 := by omega
        rw [z, Nat.pow_zero, Nat.mul_one]
        refine Nat.le_trans (Nat.le_of_lt hb) ?_
        exact Nat.pow_le_pow_right (by decide) (by omega)
    have k3 : d = 0 ∨ 4503599627370496 ≤ K := by
      by_cases c : d = 0
      · exact .inl c
      · refine .inr ?_
        rw [← hK]
        by_cases c2 : L ≤ 52
        · have z : 1074 + d - t = 0 := by omega
          rw [z, cut_even _ _ _ (Nat.zero_le _), rnd_zero]
          refine Nat.le_trans ?_ (Nat.mul_le_mul_right _ ha)
          rw [← Nat.pow_add, show L + (t - (1074 + d)) = 52 by omega]
          decide
        · have z : t - (1074 + d) = 0 := by omega
          rw [z, Nat.pow_zero, Nat.mul_one, cut_even _ _ _ (by omega), show 1074 + d - t = L - 52 by omega]
          refine Nat.le_trans ?_ (rnd_ge _ _)
          rw [Nat.le_div_iff_mul_le (Nat.two_pow_pos _), show 4503599627370496 = 2 ^ 52 by decide, ← Nat.pow_add, show 52 + (L - 52) = L by omega]
          exact ha
    have hv := val_of d K k2 k3
    have hfin : d * 4503599627370496 + K < 9218868437227405312 := by omega
    refine ⟨d * 4503599627370496 + K, ?_, hfin, ?_⟩
    · unfold Format.word
      rw [Nat.min_eq_left (Nat.le_of_lt hfin)]
      rfl
    · rw [hv]
      refine Nat.le_trans (Nat.mul_le_mul_right _ k1) ?_
      rw [← Nat.pow_add, show q - d + d = q by omega]
      exact Nat.le_refl _

theorem mul_le_pow (x y q : Nat) (hx : Fin64 x) (hy : Fin64 y) (nx : negOf x = false) (ny : negOf y = false) (hq : q ≤ 2090) (h : val (rungOf x) * val (rungOf y) ≤ 2 ^ (q + 1074)) :
    ∃ k, double.mul x y = some k ∧ k < 9218868437227405312 ∧ val k ≤ 2 ^ q := by
  unfold Format.mul
  rw [read_fin x hx, read_fin y hy, nx, ny]
  simp only [Datum.product, Option.map_some, Format.write, Bool.xor_self]
  have e : -1074 + (pl (rungOf x) : Int) + (-1074 + (pl (rungOf y) : Int)) = -2148 + ((pl (rungOf x) + pl (rungOf y) : Nat) : Int) := by omega
  rw [e]
  obtain ⟨k, h1, h2, h3⟩ := nearest_le (mg (rungOf x) * mg (rungOf y)) (pl (rungOf x) + pl (rungOf y)) q hq (by
    refine Nat.le_trans (Nat.le_of_eq ?_) h
    unfold val
    rw [Nat.pow_add, Nat.mul_mul_mul_comm])
  exact ⟨k, by rw [h1], h2, h3⟩

/-! ### A tiny summand is lost -/
theorem rn_up (f e v : Nat) (hf : f < 4503599627370496) (hv : 2 * v < 2 ^ e) : rn ((4503599627370496 + f) * 2 ^ e + v) = (e + 1) * 4503599627370496 + f := by
  have h2 : 0 < 2 ^ e := Nat.two_pow_pos e
  have hl : ((4503599627370496 + f) * 2 ^ e + v).log2 = 52 + e := by
    apply log2_of
    · rw [Nat.pow_add]
      refine Nat.le_trans (Nat.mul_le_mul_right (k := 2 ^ e) (m := 4503599627370496 + f) (by omega)) (Nat.le_add_right _ _)
    · rw [show 52 + e + 1 = 53 + e by omega, Nat.pow_add]
      have : (4503599627370496 + f + 1) * 2 ^ e ≤ 2 ^ 53 * 2 ^ e := Nat.mul_le_mul_right _ (by omega)
      rw [Nat.add_mul] at this
      omega
  unfold rn rnd
  rw [hl, Nat.add_sub_cancel_left]
  have hm : ((4503599627370496 + f) * 2 ^ e + v) % 2 ^ e = v := by
    rw [Nat.mul_comm, Nat.mul_add_mod]
    exact Nat.mod_eq_of_lt (by omega)
  have hd : ((4503599627370496 + f) * 2 ^ e + v) / 2 ^ e = 4503599627370496 + f := by
    rw [Nat.mul_comm, Nat.mul_add_div h2, Nat.div_eq_of_lt (by omega)]
    omega
  rw [hm, hd]
  have h3 : ¬ 2 ^ e < 2 * v := by omega
  have h4 : (2 ^ e == 2 * v) = false := beq_eq_false_iff_ne.2 (by omega)
  simp [h3, h4]
  omega

theorem rn_down (f e v : Nat) (hf : f < 4503599627370496) (he : 1 ≤ e) (hv : 2 * v < 2 ^ e) (h0 : f = 0 → 4 * v < 2 ^ e) : rn ((4503599627370496 + f) * 2 ^ e - v) = (e + 1) * 4503599627370496 + f := by
  have h2 : 0 < 2 ^ e := Nat.two_pow_pos e
  by_cases hv0 : v = 0
  · subst hv0
    exact rn_up f e 0 hf (by omega)
  by_cases hf0 : f = 0
  · subst hf0
    have h4 := h0 rfl
    obtain ⟨g, rfl⟩ : ∃ g, e = g + 1 := ⟨e - 1, by omega⟩
    have h5 : 0 < 2 ^ g := Nat.two_pow_pos g
    rw [Nat.pow_succ] at h4
    have eN : (4503599627370496 + 0) * 2 ^ (g + 1) - v = 2 ^ g * 9007199254740991 + (2 ^ g - v) := by
      rw [Nat.pow_succ]; omega
    rw [eN]
    have hl : (2 ^ g * 9007199254740991 + (2 ^ g - v)).log2 = 52 + g := by
      apply log2_of
      · rw [Nat.pow_add]; omega
      · rw [show 52 + g + 1 = 53 + g by omega, Nat.pow_add]; omega
    unfold rn rnd
    rw [hl, Nat.add_sub_cancel_left]
    have hm : (2 ^ g * 9007199254740991 + (2 ^ g - v)) % 2 ^ g = 2 ^ g - v := by
      rw [Nat.mul_add_mod]
      exact Nat.mod_eq_of_lt (by omega)
    have hd : (2 ^ g * 9007199254740991 + (2 ^ g - v)) / 2 ^ g = 9007199254740991 := by
      rw [Nat.mul_add_div h5, Nat.div_eq_of_lt (by omega)]
    rw [hm, hd]
    have h3 : 2 ^ g < 2 * (2 ^ g - v) := by omega
    simp [h3]
    omega
  · have eN : (4503599627370496 + f) * 2 ^ e - v = 2 ^ e * (4503599627370496 + f - 1) + (2 ^ e - v) := by
      obtain ⟨g, rfl⟩ : ∃ g, f = g + 1 := ⟨f - 1, by omega⟩
      rw [show 4503599627370496 + (g + 1) - 1 = 4503599627370496 + g by omega, show 4503599627370496 + (g + 1) = 4503599627370496 + g + 1 by omega, Nat.add_mul, Nat.mul_comm (2 ^ e)]
      omega
    rw [eN]
    have hl : (2 ^ e * (4503599627370496 + f - 1) + (2 ^ e - v)).log2 = 52 + e := by
      apply log2_of
      · rw [Nat.pow_add, Nat.mul_comm (2 ^ 52)]
        have : 2 ^ e * 2 ^ 52 ≤ 2 ^ e * (4503599627370496 + f - 1) := Nat.mul_le_mul_left _ (by omega)
        exact Nat.le_trans this (Nat.le_add_right _ _)
      · rw [show 52 + e + 1 = 53 + e by omega, Nat.pow_add, Nat.mul_comm (2 ^ 53)]
        have : 2 ^ e * (4503599627370496 + f - 1 + 1) ≤ 2 ^ e * 2 ^ 53 := Nat.mul_le_mul_left _ (by omega)
        rw [Nat.mul_add] at this
        omega
    unfold rn rnd
    rw [hl, Nat.add_sub_cancel_left]
    have hm : (2 ^ e * (4503599627370496 + f - 1) + (2 ^ e - v)) % 2 ^ e = 2 ^ e - v := by
      rw [Nat.mul_add_mod]
      exact Nat.mod_eq_of_lt (by omega)
    have hd : (2 ^ e * (4503599627370496 + f - 1) + (2 ^ e - v)) / 2 ^ e = 4503599627370496 + f - 1 := by
      rw [Nat.mul_add_div h2, Nat.div_eq_of_lt (by omega)]
      omega
    rw [hm, hd]
    have h3 : 2 ^ e < 2 * (2 ^ e - v) := by omega
    simp [h3]
    omega
end Go.Proofs.Ybulkuki
