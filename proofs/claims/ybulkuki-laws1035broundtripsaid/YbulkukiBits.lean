/-
  Seat b1035a: THE PLAIN LAWS OF A SHIFT: 256 bits in eight limbs of 32. No Go in sight.
-/
namespace Go.Proofs.Ybulkuki

/-- The eight limbs as natural numbers; beyond them nothing. -/
def lm (x0 x1 x2 x3 x4 x5 x6 x7 : Int) (i : Nat) : Nat :=
  match i with
  | 0 => x0.toNat | 1 => x1.toNat | 2 => x2.toNat | 3 => x3.toNat | 4 => x4.toNat | 5 => x5.toNat | 6 => x6.toNat | 7 => x7.toNat | _ => 0

/-- Bit p; nothing outside the 256 bits. -/
def bitAt (f : Nat → Nat) (p : Int) : Bool := decide (0 ≤ p) && (decide (p < 256) && (f (p / 32).toNat).testBit (p % 32).toNat)

/-- The 32 bits from pos upwards. -/
def limAt (f : Nat → Nat) (pos : Int) : Nat :=
  if pos ≤ -32 ∨ 256 ≤ pos then 0
  else if pos < 0 then (f 0 <<< (-pos).toNat) % 2 ^ 32
  else ((f (pos / 32).toNat ||| f ((pos / 32).toNat + 1) <<< 32) >>> (pos % 32).toNat) % 2 ^ 32

/-- Bit p as Go hands it back. -/
def bt (x0 x1 x2 x3 x4 x5 x6 x7 p : Int) : Int := (bitAt (lm x0 x1 x2 x3 x4 x5 x6 x7) p).toNat
/-- The limb at pos as Go hands it back. -/
def lim (x0 x1 x2 x3 x4 x5 x6 x7 pos : Int) : Int := limAt (lm x0 x1 x2 x3 x4 x5 x6 x7) pos

theorem limAt_lt (f : Nat → Nat) (pos : Int) : limAt f pos < 2 ^ 32 := by
  unfold limAt
  split
  · decide
  · split <;> exact Nat.mod_lt _ (by decide)

theorem limAt_testBit (f : Nat → Nat) (hf : ∀ i, f i < 2 ^ 32) (h8 : ∀ i, 8 ≤ i → f i = 0) (pos : Int) (b : Nat) (hb : b < 32) :
    (limAt f pos).testBit b = bitAt f (pos + b) := by
  unfold limAt bitAt
  by_cases h1 : pos ≤ -32 ∨ 256 ≤ pos
  · rw [if_pos h1]
    by_cases h2 : 0 ≤ pos + b
    · have h3 : ¬ pos + b < 256 := by omega
      simp [h3]
    · simp [h2]
  · rw [if_neg h1]
    by_cases h2 : pos < 0
    · rw [if_pos h2, Nat.testBit_mod_two_pow, Nat.testBit_shiftLeft]
      by_cases h3 : 0 ≤ pos + b
      · have e1 : ((pos + b) / 32).toNat = 0 := by omega
        have e2 : ((pos + b) % 32).toNat = b - (-pos).toNat := by omega
        have h4 : pos + b < 256 := by omega
        have h5 : (-pos).toNat ≤ b := by omega
        simp [h3, h4, h5, hb, e1, e2]
      · have h5 : ¬ (-pos).toNat ≤ b := by omega
        simp [h3, h5]
    · rw [if_neg h2, Nat.testBit_mod_two_pow, Nat.testBit_shiftRight, Nat.testBit_or, Nat.testBit_shiftLeft]
      have h3 : 0 ≤ pos + b := by omega
      by_cases h4 : (pos % 32).toNat + b < 32
      · have e1 : ((pos + b) / 32).toNat = (pos / 32).toNat := by omega
        have e2 : ((pos + b) % 32).toNat = (pos % 32).toNat + b := by omega
        have h5 : pos + b < 256 := by omega
        have h6 : ¬ 32 ≤ (pos % 32).toNat + b := by omega
        simp [h3, h5, h6, hb, e1, e2]
      · have e1 : ((pos + b) / 32).toNat = (pos / 32).toNat + 1 := by omega
        have e2 : ((pos + b) % 32).toNat = (pos % 32).toNat + b - 32 := by omega
        have h6 : 32 ≤ (pos % 32).toNat + b := by omega
        have z : (f (pos / 32).toNat).testBit ((pos % 32).toNat + b) = false :=
          Nat.testBit_lt_two_pow (Nat.lt_of_lt_of_le (hf _) (Nat.pow_le_pow_right (by decide) h6))
        by_cases h5 : pos + b < 256
        · simp [h3, h5, h6, hb, e1, e2, z]
        · have z2 : f ((pos / 32).toNat + 1) = 0 := h8 _ (by omega)
          simp [h3, h5, h6, z, z2]

theorem lim_bd (x0 x1 x2 x3 x4 x5 x6 x7 pos : Int) : 0 ≤ lim x0 x1 x2 x3 x4 x5 x6 x7 pos ∧ lim x0 x1 x2 x3 x4 x5 x6 x7 pos ≤ 4294967295 := by
  have := limAt_lt (lm x0 x1 x2 x3 x4 x5 x6 x7) pos
  unfold lim
  omega

/-- The limbs fit 32 bits. -/
def Fits (x0 x1 x2 x3 x4 x5 x6 x7 : Int) : Prop := (0 ≤ x0 ∧ x0 ≤ 4294967295) ∧ (0 ≤ x1 ∧ x1 ≤ 4294967295) ∧ (0 ≤ x2 ∧ x2 ≤ 4294967295) ∧ (0 ≤ x3 ∧ x3 ≤ 4294967295) ∧ (0 ≤ x4 ∧ x4 ≤ 4294967295) ∧ (0 ≤ x5 ∧ x5 ≤ 4294967295) ∧ (0 ≤ x6 ∧ x6 ≤ 4294967295) ∧ (0 ≤ x7 ∧ x7 ≤ 4294967295)

theorem lm_lt {x0 x1 x2 x3 x4 x5 x6 x7 : Int} (h : Fits x0 x1 x2 x3 x4 x5 x6 x7) (i : Nat) : lm x0 x1 x2 x3 x4 x5 x6 x7 i < 2 ^ 32 := by
  obtain ⟨_, _, _, _, _, _, _, _⟩ := h
  unfold lm
  split <;> omega
theorem lm_8 (x0 x1 x2 x3 x4 x5 x6 x7 : Int) (i : Nat) (hi : 8 ≤ i) : lm x0 x1 x2 x3 x4 x5 x6 x7 i = 0 := by
  unfold lm
  split <;> first | omega | rfl

theorem bt_01 (x0 x1 x2 x3 x4 x5 x6 x7 p : Int) : bt x0 x1 x2 x3 x4 x5 x6 x7 p = 0 ∨ bt x0 x1 x2 x3 x4 x5 x6 x7 p = 1 := by
  unfold bt
  cases bitAt (lm x0 x1 x2 x3 x4 x5 x6 x7) p <;> simp

theorem bt_out {x0 x1 x2 x3 x4 x5 x6 x7 p : Int} (h : p < 0 ∨ 256 ≤ p) : bt x0 x1 x2 x3 x4 x5 x6 x7 p = 0 := by
  unfold bt bitAt
  rcases h with h | h
  · have : ¬ 0 ≤ p := by omega
    simp [this]
  · have : ¬ p < 256 := by omega
    simp [this]

theorem lim_out {x0 x1 x2 x3 x4 x5 x6 x7 p : Int} (h : p ≤ -32 ∨ 256 ≤ p) : lim x0 x1 x2 x3 x4 x5 x6 x7 p = 0 := by
  unfold lim limAt
  rw [if_pos h]
  rfl

/-- THE SHIFT, BIT BY BIT. -/
theorem bt_shift {x0 x1 x2 x3 x4 x5 x6 x7 : Int} (h : Fits x0 x1 x2 x3 x4 x5 x6 x7) (s j : Int) (h0 : 0 ≤ j) (h1 : j < 256) :
    bt (lim x0 x1 x2 x3 x4 x5 x6 x7 (0 - s)) (lim x0 x1 x2 x3 x4 x5 x6 x7 (32 - s)) (lim x0 x1 x2 x3 x4 x5 x6 x7 (64 - s)) (lim x0 x1 x2 x3 x4 x5 x6 x7 (96 - s))
      (lim x0 x1 x2 x3 x4 x5 x6 x7 (128 - s)) (lim x0 x1 x2 x3 x4 x5 x6 x7 (160 - s)) (lim x0 x1 x2 x3 x4 x5 x6 x7 (192 - s)) (lim x0 x1 x2 x3 x4 x5 x6 x7 (224 - s)) j = bt x0 x1 x2 x3 x4 x5 x6 x7 (j - s) := by
  have key : ∀ i : Nat, i < 8 → lm (lim x0 x1 x2 x3 x4 x5 x6 x7 (0 - s)) (lim x0 x1 x2 x3 x4 x5 x6 x7 (32 - s)) (lim x0 x1 x2 x3 x4 x5 x6 x7 (64 - s)) (lim x0 x1 x2 x3 x4 x5 x6 x7 (96 - s))
      (lim x0 x1 x2 x3 x4 x5 x6 x7 (128 - s)) (lim x0 x1 x2 x3 x4 x5 x6 x7 (160 - s)) (lim x0 x1 x2 x3 x4 x5 x6 x7 (192 - s)) (lim x0 x1 x2 x3 x4 x5 x6 x7 (224 - s)) i = limAt (lm x0 x1 x2 x3 x4 x5 x6 x7) (32 * (i : Int) - s) := by
    intro i hi
    have h8 : i = 0 ∨ i = 1 ∨ i = 2 ∨ i = 3 ∨ i = 4 ∨ i = 5 ∨ i = 6 ∨ i = 7 := by omega
    rcases h8 with rfl | rfl | rfl | rfl | rfl | rfl | rfl | rfl <;> rfl
  have hb := limAt_testBit (lm x0 x1 x2 x3 x4 x5 x6 x7) (lm_lt h) (lm_8 x0 x1 x2 x3 x4 x5 x6 x7) (32 * ((j / 32).toNat : Int) - s) (j % 32).toNat (by omega)
  have e : 32 * ((j / 32).toNat : Int) - s + ((j % 32).toNat : Int) = j - s := by omega
  rw [e] at hb
  unfold bt
  rw [← hb]
  unfold bitAt
  rw [key _ (by omega)]
  simp [h0, h1]
end Go.Proofs.Ybulkuki
