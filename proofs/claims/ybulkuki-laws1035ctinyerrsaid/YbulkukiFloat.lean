/-
  Seat b1035a: PLAIN LAWS OF DOUBLES, over the model's own binary floating point (Ieee): every finite double is a whole multiple of 2^-1074; sums and products said in that unit. No Go in sight.
-/
import Ieee.Arith
namespace Go.Proofs.Ybulkuki
open Ieee

def rungOf (x : Nat) : Nat := x % 9223372036854775808
def negOf (x : Nat) : Bool := x / 9223372036854775808 % 2 == 1
/-- The significand, and the place above 2^-1074. -/
def mg (r : Nat) : Nat := if r < 4503599627370496 then r else 4503599627370496 + r % 4503599627370496
def pl (r : Nat) : Nat := if r < 4503599627370496 then 0 else r / 4503599627370496 - 1
/-- The magnitude in units of 2^-1074. -/
def val (r : Nat) : Nat := mg r * 2 ^ pl r
/-- The signed value in units of 2^-1074. -/
def sval (x : Nat) : Int := if negOf x then -(val (rungOf x) : Int) else val (rungOf x)

theorem d_sw : double.signWeight = 9223372036854775808 := by decide
theorem d_bn : double.binade = 4503599627370496 := by decide
theorem d_ir : double.infRung = 9218868437227405312 := by decide
theorem d_lp : double.leastPlace = -1074 := by decide
theorem d_fb : double.fractionBits = 52 := rfl

theorem read_fin (x : Nat) (h : rungOf x < 9218868437227405312) : double.read x = .number (negOf x) (mg (rungOf x)) (-1074 + (pl (rungOf x) : Int)) := by
  unfold Format.read
  simp only [d_sw, d_bn, d_ir, d_lp]
  unfold mg pl rungOf negOf
  unfold rungOf at h
  by_cases h1 : x % 9223372036854775808 < 4503599627370496
  · simp [h1]
  · rw [if_neg h1, if_pos h, if_neg h1, if_neg h1]

/-! ### Rounding -/
/-- 'n / 2^d', to the nearest, ties to even. -/
def rnd (n d : Nat) : Nat := n / 2 ^ d + (2 ^ d < 2 * (n % 2 ^ d) || (2 ^ d == 2 * (n % 2 ^ d) && n / 2 ^ d % 2 == 1) : Bool).toNat
/-- The rung nearest to n units of 2^-1074 (no ceiling). -/
def rn (n : Nat) : Nat := (n.log2 - 52) * 4503599627370496 + rnd n (n.log2 - 52)

theorem log2_mul_two_pow (m p : Nat) (h : m ≠ 0) : (m * 2 ^ p).log2 = m.log2 + p := by
  have h2 : 0 < 2 ^ p := Nat.two_pow_pos p
  rw [Nat.log2_eq_iff (Nat.mul_ne_zero h (by omega))]
  have a := Nat.log2_self_le h
  have b := @Nat.lt_log2_self m
  refine ⟨?_, ?_⟩
  · rw [Nat.pow_add]; exact Nat.mul_le_mul_right _ a
  · rw [show m.log2 + p + 1 = (m.log2 + 1) + p by omega, Nat.pow_add]
    exact Nat.mul_lt_mul_of_pos_right b h2

theorem cut_even (neg : Bool) (n d : Nat) (h : d ≤ n.log2 + 2) : Toward.even.cut neg n d = rnd n d := by
  unfold Toward.cut rnd
  simp only [Nat.min_eq_left h, Nat.one_shiftLeft]

theorem rnd_zero (n : Nat) : rnd n 0 = n := by
  unfold rnd
  simp [Nat.mod_one]

/-- A number whose last digits are nought is cut without a loss. -/
theorem rnd_mul (n d : Nat) : rnd (n * 2 ^ d) d = n := by
  have h2 : 0 < 2 ^ d := Nat.two_pow_pos d
  unfold rnd
  rw [Nat.mul_mod_left, Nat.mul_div_cancel _ h2]
  simp

theorem rnd_shift (n d p : Nat) (h : p ≤ d) : rnd (n * 2 ^ p) d = rnd n (d - p) := by
  have h2 : 0 < 2 ^ p := Nat.two_pow_pos p
  have e : (2 : Nat) ^ d = 2 ^ (d - p) * 2 ^ p := by rw [← Nat.pow_add]; congr 1; omega
  unfold rnd
  rw [e, Nat.mul_div_mul_right _ _ h2, Nat.mul_mod_mul_right]
  have e1 : 2 * (n % 2 ^ (d - p) * 2 ^ p) = 2 * (n % 2 ^ (d - p)) * 2 ^ p := by rw [Nat.mul_assoc]
  rw [e1]
  have e2 : decide (2 ^ (d - p) * 2 ^ p < 2 * (n % 2 ^ (d - p)) * 2 ^ p) = decide (2 ^ (d - p) < 2 * (n % 2 ^ (d - p))) := by
    rw [decide_eq_decide]
    exact Nat.mul_lt_mul_right h2
  have e3 : (2 ^ (d - p) * 2 ^ p == 2 * (n % 2 ^ (d - p)) * 2 ^ p) = (2 ^ (d - p) == 2 * (n % 2 ^ (d - p))) := by
    rw [Bool.eq_iff_iff]
    simp only [beq_iff_eq]
    exact ⟨fun q => Nat.eq_of_mul_eq_mul_right h2 q, fun q => congrArg (· * 2 ^ p) q⟩
  rw [e2, e3]

theorem nearest_ge (neg : Bool) (m p : Nat) : double.nearest neg m (-1074 + (p : Int)) = double.word neg (min (rn (m * 2 ^ p)) 9218868437227405312) := by
  unfold Format.nearest
  by_cases h : m = 0
  · subst h
    rw [if_pos rfl]
    simp [rn, rnd]
  · rw [if_neg h]
    simp only [d_lp, d_fb, d_bn, d_ir]
    have hl := log2_mul_two_pow m p h
    have e1 : (max (-1074 + (p : Int) + (m.log2 : Int) - (52 : Nat)) (-1074) - -1074).toNat = (m * 2 ^ p).log2 - 52 := by
      rw [hl]; omega
    have e2 : (-1074 + (p : Int) - max (-1074 + (p : Int) + (m.log2 : Int) - (52 : Nat)) (-1074)).toNat = p - ((m * 2 ^ p).log2 - 52) := by
      rw [hl]; omega
    have e3 : (max (-1074 + (p : Int) + (m.log2 : Int) - (52 : Nat)) (-1074) - (-1074 + (p : Int))).toNat = (m * 2 ^ p).log2 - 52 - p := by
      rw [hl]; omega
    rw [e1, e2, e3]
    unfold rn
    generalize hd : (m * 2 ^ p).log2 - 52 = d
    rw [hl] at hd
    congr 3
    by_cases hp : d ≤ p
    · have z : d - p = 0 := by omega
      rw [z, cut_even _ _ _ (Nat.zero_le _), rnd_zero, Nat.shiftLeft_eq]
      have e : (2 : Nat) ^ p = 2 ^ (p - d) * 2 ^ d := by rw [← Nat.pow_add]; congr 1; omega
      rw [e, ← Nat.mul_assoc, rnd_mul]
    · have z : p - d = 0 := by omega
      rw [z, Nat.shiftLeft_zero, cut_even _ _ _ (by omega), rnd_shift _ _ _ (by omega)]

/-! ### Rungs and values -/
theorem val_of (d k : Nat) (h1 : k ≤ 9007199254740992) (h2 : d = 0 ∨ 4503599627370496 ≤ k) : val (d * 4503599627370496 + k) = k * 2 ^ d := by
  unfold val mg pl
  by_cases h3 : k = 9007199254740992
  · subst h3
    have e1 : ¬ d * 4503599627370496 + 9007199254740992 < 4503599627370496 := by omega
    have e2 : (d * 4503599627370496 + 9007199254740992) % 4503599627370496 = 0 := by omega
    have e3 : (d * 4503599627370496 + 9007199254740992) / 4503599627370496 - 1 = d + 1 := by omega
    rw [if_neg e1, if_neg e1, e2, e3, Nat.pow_succ]
    omega
  · rcases h2 with h2 | h2
    · subst h2
      simp only [Nat.zero_mul, Nat.zero_add]
      by_cases h4 : k < 4503599627370496
      · simp [h4]
      · have e2 : 4503599627370496 + k % 4503599627370496 = k := by omega
        have e3 : k / 4503599627370496 - 1 = 0 := by omega
        rw [if_neg h4, if_neg h4, e2, e3]
    · have e1 : ¬ d * 4503599627370496 + k < 4503599627370496 := by omega
      have e2 : 4503599627370496 + (d * 4503599627370496 + k) % 4503599627370496 = k := by omega
      have e3 : (d * 4503599627370496 + k) / 4503599627370496 - 1 = d := by omega
      rw [if_neg e1, if_neg e1, e2, e3]

theorem mg_lt (r : Nat) : mg r < 9007199254740992 := by
  unfold mg
  split <;> omega

theorem rung_eq (r : Nat) : r = pl r * 4503599627370496 + mg r := by
  unfold pl mg
  split <;> omega

theorem mg_ge (r : Nat) (h : pl r ≠ 0) : 4503599627370496 ≤ mg r := by
  unfold pl at h
  unfold mg
  split <;> simp_all

theorem log2_of {n k : Nat} (h1 : 2 ^ k ≤ n) (h2 : n < 2 ^ (k + 1)) : n.log2 = k := by
  have : 0 < 2 ^ k := Nat.two_pow_pos k
  exact (Nat.log2_eq_iff (by omega)).2 ⟨h1, h2⟩

/-- What is a double rounds to itself. -/
theorem rn_val (r : Nat) : rn (val r) = r := by
  have hm := mg_lt r
  by_cases h : pl r = 0
  · have e : val r = mg r := by unfold val; rw [h]; simp
    have hr := rung_eq r
    rw [h] at hr
    have hr' : mg r = r := by omega
    rw [e, hr']
    unfold rn
    have hl : r.log2 - 52 = 0 := by
      by_cases hz : r = 0
      · subst hz; rfl
      · have : r.log2 < 53 := (Nat.log2_lt hz).2 (by omega)
        omega
    rw [hl, rnd_zero]
    omega
  · have hg := mg_ge r h
    have hl : (val r).log2 = 52 + pl r := by
      unfold val
      rw [log2_mul_two_pow _ _ (by omega), log2_of (k := 52) (by omega) (by omega)]
    unfold rn
    rw [hl, Nat.add_sub_cancel_left]
    have e : rnd (val r) (pl r) = mg r := rnd_mul _ _
    rw [e]
    exact (rung_eq r).symm

/-! ### Sums -/
theorem shl_signed (s : Bool) (m u p q : Nat) (h : u + p = q) : signed s m u * 2 ^ p = if s then -((m * 2 ^ q : Nat) : Int) else ((m * 2 ^ q : Nat) : Int) := by
  unfold signed
  rw [Nat.shiftLeft_eq, ← h, Nat.pow_add]
  cases s <;> simp [Int.natCast_mul, Int.natCast_pow, Int.mul_assoc, Int.neg_mul]

/-- A sum of two finite numbers, in units of 2^-1074. -/
theorem sum_fin (s t : Bool) (m n i j : Nat) : ((Datum.number s m (-1074 + (i : Int))).sum (.number t n (-1074 + (j : Int)))).map double.write =
    some (let T : Int := (if s then -((m * 2 ^ i : Nat) : Int) else (m * 2 ^ i : Nat)) + (if t then -((n * 2 ^ j : Nat) : Int) else (n * 2 ^ j : Nat))
      double.word (if T = 0 then s && t else decide (T < 0)) (min (rn T.natAbs) 9218868437227405312)) := by
  have hb : ∃ b : Nat, min (-1074 + (i : Int)) (-1074 + (j : Int)) = -1074 + (b : Int) ∧ b ≤ i ∧ b ≤ j := by
    by_cases h : i ≤ j
    · exact ⟨i, by omega, by omega, by omega⟩
    · exact ⟨j, by omega, by omega, by omega⟩
  obtain ⟨b, hb, hi, hj⟩ := hb
  simp only [Datum.sum, Option.map_some, Format.write, hb]
  have e1 : (-1074 + (i : Int) - (-1074 + (b : Int))).toNat = i - b := by omega
  have e2 : (-1074 + (j : Int) - (-1074 + (b : Int))).toNat = j - b := by omega
  rw [e1, e2, nearest_ge]
  have hp : (0 : Int) < 2 ^ b := by exact Int.pow_pos (by decide)
  have k1 := shl_signed s m (i - b) b i (by omega)
  have k2 := shl_signed t n (j - b) b j (by omega)
  generalize hT : signed s m (i - b) + signed t n (j - b) = T0
  have hT2 : T0 * 2 ^ b = (if s then -((m * 2 ^ i : Nat) : Int) else (m * 2 ^ i : Nat)) + (if t then -((n * 2 ^ j : Nat) : Int) else (n * 2 ^ j : Nat)) := by
    rw [← hT, Int.add_mul, k1, k2]
  rw [← hT2]
  have z : (T0 * 2 ^ b = 0) ↔ T0 = 0 := by
    rw [Int.mul_eq_zero]
    exact ⟨fun h => h.resolve_right (by omega), fun h => .inl h⟩
  have l : (T0 * 2 ^ b < 0) ↔ T0 < 0 := by
    constructor
    · intro h
      apply Int.lt_of_not_ge
      intro h'
      have := Int.mul_nonneg h' (Int.le_of_lt hp)
      omega
    · intro h
      exact Int.mul_neg_of_neg_of_pos h hp
  have a : (T0 * 2 ^ b).natAbs = T0.natAbs * 2 ^ b := by rw [Int.natAbs_mul, Int.natAbs_pow]; rfl
  simp only [z, l, a]
end Go.Proofs.Ybulkuki
