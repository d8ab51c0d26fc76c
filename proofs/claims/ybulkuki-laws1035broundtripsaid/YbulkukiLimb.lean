/-
  Seat b1035a: the walks of zzs1035bbit (function 16) and (fixed).limbAt (function 23).
-/
import Derived.Test.YbulkukiZero
import Derived.Test.YbulkukiBits
import Derived.BigQuiet
import Derived.Deep.QuietTactic
import Derived.Handy
import Derived.WalkLawsBesides
namespace Go.Proofs.Ybulkuki
open Go.RowKit

/-! ### From the walk's forms to the plain functions -/
theorem and_one_u32 (x : Int) (h0 : 0 ≤ x) (h1 : x ≤ 4294967295) : bits .and .u32 x 1 = x % 2 :=
  bits_mask .u32 32 (by decide) (fun n a b => by rw [IntKind.wrap_u32]; omega) 1 (by decide) x h0 (by omega)

theorem div_le (x : Int) (n : Nat) (h0 : 0 ≤ x) (h1 : x ≤ 4294967295) : 0 ≤ x / 2 ^ n ∧ x / 2 ^ n ≤ 4294967295 := by
  obtain ⟨a, rfl⟩ := Int.eq_ofNat_of_zero_le h0
  have e : ((2 : Int) ^ n) = ((2 ^ n : Nat) : Int) := by simp
  rw [e, ← Int.natCast_ediv]
  have := Nat.div_le_self a (2 ^ n)
  generalize a / 2 ^ n = c at *
  omega

theorem bit_form (x : Int) (n : Nat) (h0 : 0 ≤ x) (h1 : x ≤ 4294967295) : bits .and .u32 (x / 2 ^ n) 1 = ((x.toNat.testBit n).toNat : Nat) := by
  obtain ⟨d0, d1⟩ := div_le x n h0 h1
  rw [and_one_u32 _ d0 d1]
  obtain ⟨a, rfl⟩ := Int.eq_ofNat_of_zero_le h0
  have e : ((2 : Int) ^ n) = ((2 ^ n : Nat) : Int) := by simp
  rw [e, ← Int.natCast_ediv, Int.toNat_natCast, Nat.toNat_testBit]
  omega

theorem shl_form (x : Int) (n : Nat) (h0 : 0 ≤ x) : x * 2 ^ n % 4294967296 = (((x.toNat <<< n) % 2 ^ 32 : Nat) : Int) := by
  obtain ⟨a, rfl⟩ := Int.eq_ofNat_of_zero_le h0
  rw [Int.toNat_natCast, Nat.shiftLeft_eq]
  simp

theorem shr_form (x : Int) (n : Nat) (h0 : 0 ≤ x) : x / 2 ^ n % 4294967296 = (((x.toNat >>> n) % 2 ^ 32 : Nat) : Int) := by
  obtain ⟨a, rfl⟩ := Int.eq_ofNat_of_zero_le h0
  rw [Int.toNat_natCast, Nat.shiftRight_eq_div_pow]
  simp

theorem or_form (x y : Int) (h0 : 0 ≤ x ∧ x ≤ 4294967295) (h1 : 0 ≤ y ∧ y ≤ 4294967295) : bits .or .u64 x (y * 4294967296) = ((x.toNat ||| y.toNat <<< 32 : Nat) : Int) := by
  obtain ⟨a, rfl⟩ := Int.eq_ofNat_of_zero_le h0.1
  obtain ⟨b, rfl⟩ := Int.eq_ofNat_of_zero_le h1.1
  have e : (b : Int) * 4294967296 = ((b * 4294967296 : Nat) : Int) := by omega
  rw [e, bits_or_u64_nat _ _ (by omega) (by omega), Int.toNat_natCast, Int.toNat_natCast, Nat.shiftLeft_eq]

theorem bt_form {x0 x1 x2 x3 x4 x5 x6 x7 p : Int} (x : Int) (k : Nat) (hk : (p / 32).toNat = k) (hx : lm x0 x1 x2 x3 x4 x5 x6 x7 k = x.toNat) (h0 : 0 ≤ p) (h1 : p < 256) (hx0 : 0 ≤ x) (hx1 : x ≤ 4294967295) :
    bits .and .u32 (x / 2 ^ (p % 32).toNat) 1 = bt x0 x1 x2 x3 x4 x5 x6 x7 p := by
  rw [bit_form _ _ hx0 hx1]
  unfold bt bitAt
  rw [hk, hx]
  simp [h0, h1]

theorem lim_neg {x0 x1 x2 x3 x4 x5 x6 x7 p : Int} (h0 : -32 < p) (h1 : p < 0) (hx0 : 0 ≤ x0) : x0 * 2 ^ (-p).toNat % 4294967296 = lim x0 x1 x2 x3 x4 x5 x6 x7 p := by
  rw [shl_form _ _ hx0]
  unfold lim limAt
  rw [if_neg (by omega), if_pos h1]
  rfl

theorem lim_mid {x0 x1 x2 x3 x4 x5 x6 x7 p : Int} (x y : Int) (k : Nat) (hk : (p / 32).toNat = k) (hx : lm x0 x1 x2 x3 x4 x5 x6 x7 k = x.toNat) (hy : lm x0 x1 x2 x3 x4 x5 x6 x7 (k + 1) = y.toNat) (h0 : 0 ≤ p) (h1 : p < 256) (hx0 : 0 ≤ x ∧ x ≤ 4294967295) (hy0 : 0 ≤ y ∧ y ≤ 4294967295) :
    bits .or .u64 x (y * 4294967296) / 2 ^ (p % 32).toNat % 4294967296 = lim x0 x1 x2 x3 x4 x5 x6 x7 p := by
  rw [or_form x y hx0 hy0, shr_form _ _ (by omega), Int.toNat_natCast]
  unfold lim limAt
  rw [if_neg (by omega), if_neg (by omega), hk, hx, hy]

theorem lim_top {x0 x1 x2 x3 x4 x5 x6 x7 p : Int} (hk : (p / 32).toNat = 7) (h0 : 0 ≤ p) (h1 : p < 256) (hx0 : 0 ≤ x7) :
    x7 / 2 ^ (p % 32).toNat % 4294967296 = lim x0 x1 x2 x3 x4 x5 x6 x7 p := by
  rw [shr_form _ _ hx0]
  unfold lim limAt
  rw [if_neg (by omega), if_neg (by omega), hk]
  simp [lm]

set_option maxRecDepth 100000 in
set_option maxHeartbeats 400000 in
theorem bbit_any (x0 x1 x2 x3 x4 x5 x6 x7 p : Int) (w : World) (h : Fits x0 x1 x2 x3 x4 x5 x6 x7) :
    Calls Yba.prog 16 #[.agg #[.int .u32 x0, .int .u32 x1, .int .u32 x2, .int .u32 x3, .int .u32 x4, .int .u32 x5, .int .u32 x6, .int .u32 x7], .int .i64 p] w fun e w' =>
      e = .returned (.int .u32 (bt x0 x1 x2 x3 x4 x5 x6 x7 p)) ∧ w' = w.alloc (.cells #[.int .u32 x0, .int .u32 x1, .int .u32 x2, .int .u32 x3, .int .u32 x4, .int .u32 x5, .int .u32 x6, .int .u32 x7] 24) := by
  obtain ⟨h0, h1, h2, h3, h4, h5, h6, h7⟩ := h
  by_cases hp : p < 0
  · go_enter Yba.func16, Yba.ntmps16
    go_wp2
    go_ret
    exact ⟨ret_int (bt_out (.inl hp)).symm, rfl⟩
  by_cases hq : 256 ≤ p
  · go_enter Yba.func16, Yba.ntmps16
    go_wp2
    go_ret
    exact ⟨ret_int (bt_out (.inr hq)).symm, rfl⟩
  have hp' : 0 ≤ p := by omega
  have hq' : p < 256 := by omega
  clear hp hq
  have h8 : p / 32 = 0 ∨ p / 32 = 1 ∨ p / 32 = 2 ∨ p / 32 = 3 ∨ p / 32 = 4 ∨ p / 32 = 5 ∨ p / 32 = 6 ∨ p / 32 = 7 := by omega
  rcases h8 with h | h | h | h | h | h | h | h
  · go_enter Yba.func16, Yba.ntmps16
    go_wp2
    go_ret
    exact ⟨ret_int (bt_form x0 0 (by omega) rfl hp' hq' h0.1 h0.2), rfl⟩
  · go_enter Yba.func16, Yba.ntmps16
    go_wp2
    go_ret
    exact ⟨ret_int (bt_form x1 1 (by omega) rfl hp' hq' h1.1 h1.2), rfl⟩
  · go_enter Yba.func16, Yba.ntmps16
    go_wp2
    go_ret
    exact ⟨ret_int (bt_form x2 2 (by omega) rfl hp' hq' h2.1 h2.2), rfl⟩
  · go_enter Yba.func16, Yba.ntmps16
    go_wp2
    go_ret
    exact ⟨ret_int (bt_form x3 3 (by omega) rfl hp' hq' h3.1 h3.2), rfl⟩
  · go_enter Yba.func16, Yba.ntmps16
    go_wp2
    go_ret
    exact ⟨ret_int (bt_form x4 4 (by omega) rfl hp' hq' h4.1 h4.2), rfl⟩
  · go_enter Yba.func16, Yba.ntmps16
    go_wp2
    go_ret
    exact ⟨ret_int (bt_form x5 5 (by omega) rfl hp' hq' h5.1 h5.2), rfl⟩
  · go_enter Yba.func16, Yba.ntmps16
    go_wp2
    go_ret
    exact ⟨ret_int (bt_form x6 6 (by omega) rfl hp' hq' h6.1 h6.2), rfl⟩
  · go_enter Yba.func16, Yba.ntmps16
    go_wp2
    go_ret
    exact ⟨ret_int (bt_form x7 7 (by omega) rfl hp' hq' h7.1 h7.2), rfl⟩

set_option maxRecDepth 100000 in
set_option maxHeartbeats 800000 in
theorem limbAt_any (x0 x1 x2 x3 x4 x5 x6 x7 p : Int) (w : World) (h : Fits x0 x1 x2 x3 x4 x5 x6 x7) :
    Calls Yba.prog 23 #[.agg #[.int .u32 x0, .int .u32 x1, .int .u32 x2, .int .u32 x3, .int .u32 x4, .int .u32 x5, .int .u32 x6, .int .u32 x7], .int .i64 p] w fun e w' =>
      e = .returned (.int .u32 (lim x0 x1 x2 x3 x4 x5 x6 x7 p)) ∧ w' = w.alloc (.cells #[.int .u32 x0, .int .u32 x1, .int .u32 x2, .int .u32 x3, .int .u32 x4, .int .u32 x5, .int .u32 x6, .int .u32 x7] 24) := by
  obtain ⟨h0, h1, h2, h3, h4, h5, h6, h7⟩ := h
  by_cases hp : p ≤ -32
  · go_enter Yba.func23, Yba.ntmps23
    go_wp2
    go_ret
    exact ⟨ret_int (lim_out (.inl hp)).symm, rfl⟩
  by_cases hq : 256 ≤ p
  · go_enter Yba.func23, Yba.ntmps23
    go_wp2
    go_ret
    exact ⟨ret_int (lim_out (.inr hq)).symm, rfl⟩
  have hp' : -32 < p := by omega
  have hq' : p < 256 := by omega
  clear hp hq
  by_cases hn : p < 0
  · go_enter Yba.func23, Yba.ntmps23
    go_wp2
    go_ret
    exact ⟨ret_int (lim_neg hp' hn h0.1), rfl⟩
  have hz : 0 ≤ p := by omega
  clear hn
  have h8 : p / 32 = 0 ∨ p / 32 = 1 ∨ p / 32 = 2 ∨ p / 32 = 3 ∨ p / 32 = 4 ∨ p / 32 = 5 ∨ p / 32 = 6 ∨ p / 32 = 7 := by omega
  rcases h8 with h | h | h | h | h | h | h | h
  · go_enter Yba.func23, Yba.ntmps23
    go_wp2
    go_ret
    exact ⟨ret_int (lim_mid x0 x1 0 (by omega) rfl rfl hz hq' h0 h1), rfl⟩
  · go_enter Yba.func23, Yba.ntmps23
    go_wp2
    go_ret
    exact ⟨ret_int (lim_mid x1 x2 1 (by omega) rfl rfl hz hq' h1 h2), rfl⟩
  · go_enter Yba.func23, Yba.ntmps23
    go_wp2
    go_ret
    exact ⟨ret_int (lim_mid x2 x3 2 (by omega) rfl rfl hz hq' h2 h3), rfl⟩
  · go_enter Yba.func23, Yba.ntmps23
    go_wp2
    go_ret
    exact ⟨ret_int (lim_mid x3 x4 3 (by omega) rfl rfl hz hq' h3 h4), rfl⟩
  · go_enter Yba.func23, Yba.ntmps23
    go_wp2
    go_ret
    exact ⟨ret_int (lim_mid x4 x5 4 (by omega) rfl rfl hz hq' h4 h5), rfl⟩
  · go_enter Yba.func23, Yba.ntmps23
    go_wp2
    go_ret
    exact ⟨ret_int (lim_mid x5 x6 5 (by omega) rfl rfl hz hq' h5 h6), rfl⟩
  · go_enter Yba.func23, Yba.ntmps23
    go_wp2
    go_ret
    exact ⟨ret_int (lim_mid x6 x7 6 (by omega) rfl rfl hz hq' h6 h7), rfl⟩
  · go_enter Yba.func23, Yba.ntmps23
    go_wp2
    go_ret
    exact ⟨ret_int (lim_top (by omega) hz hq' h7.1), rfl⟩

theorem bbit_below (x0 x1 x2 x3 x4 x5 x6 x7 p : Int) (w : World) (h : Fits x0 x1 x2 x3 x4 x5 x6 x7) :
    Calls Yba.prog 16 #[.agg #[.int .u32 x0, .int .u32 x1, .int .u32 x2, .int .u32 x3, .int .u32 x4, .int .u32 x5, .int .u32 x6, .int .u32 x7], .int .i64 p] w fun e w' =>
      e = .returned (.int .u32 (bt x0 x1 x2 x3 x4 x5 x6 x7 p)) ∧ Below w.heap.size w w' :=
  (bbit_any x0 x1 x2 x3 x4 x5 x6 x7 p w h).mono fun _ _ ⟨he, hw⟩ => ⟨he, by rw [hw]; exact (Below.refl _ _).alloc (Nat.le_refl _) _⟩
end Go.Proofs.Ybulkuki
