/-
  Seat b1035a: the walks of the small float functions: zzs1035cexp (17), math.Abs (20), abs (25), scaleNormal (26).
-/
import Derived.Test.YbulkukiZero
import Derived.Test.YbulkukiFloat3
import Derived.Handy
import Derived.WalkLawsBesides
import Derived.Laws.FloatArith
namespace Go.Proofs.Ybulkuki
open Go.RowKit

theorem f64bits (x : Nat) (w : World) : (callFunc 24 #[.float .f64 x]).run Yba.prog w = .ok (.value (.int .u64 x)) w := by kernel_rfl
theorem f64frombits (n : Int) (w : World) : (callFunc 29 #[.int .u64 n]).run Yba.prog w = .ok (.value (.float .f64 n.toNat)) w := by kernel_rfl
theorem ret_float {k : FloatKind} {a b : Nat} (h : a = b) : Ending.returned (.float k a) = .returned (.float k b) := by rw [h]

/-- The exponent field. -/
def ex (x : Nat) : Int := ((x / 4503599627370496 % 2048 : Nat) : Int)
/-- The word with k added to its exponent field. -/
def sc (x : Nat) (k : Int) : Nat := (((x : Int) + k * 4503599627370496) % 18446744073709551616).toNat

theorem and_2047 (n : Nat) (h : n < 18446744073709551616) : bits .and .u64 (n : Int) 2047 = ((n % 2048 : Nat) : Int) := by
  have := bits_and_u64_nat n 2047 h (by decide)
  rw [show ((2047 : Nat) : Int) = 2047 from rfl] at this
  rw [this, show (2047 : Nat) = 2 ^ 11 - 1 from rfl, Nat.and_two_pow_sub_one_eq_mod]

theorem ex_form (x : Nat) (h : x < 18446744073709551616) : wrap64 (bits .and .u64 ((x : Int) / 4503599627370496) 2047) = ex x := by
  have e : (x : Int) / 4503599627370496 = ((x / 4503599627370496 : Nat) : Int) := by omega
  rw [e, and_2047 _ (by omega)]
  unfold ex wrap64
  omega

theorem andNot_nat (a b : Nat) (ha : a < 18446744073709551616) (hb : b < 18446744073709551616) : bits .andNot .u64 (a : Int) (b : Int) = ((a &&& (18446744073709551615 - b) : Nat) : Int) := by
  have h1 : (BitVec.ofInt 64 (a : Int)).toNat = a := by
    rw [BitVec.ofInt_natCast, BitVec.toNat_ofNat]; exact Nat.mod_eq_of_lt (by omega)
  have h2 : (BitVec.ofInt 64 (b : Int)).toNat = b := by
    rw [BitVec.ofInt_natCast, BitVec.toNat_ofNat]; exact Nat.mod_eq_of_lt (by omega)
  have h3 : a &&& (18446744073709551615 - b) ≤ a := Nat.and_le_left
  show IntKind.u64.wrap ((BitVec.ofInt 64 (a : Int) &&& ~~~BitVec.ofInt 64 (b : Int)).toNat : Int) = _
  rw [BitVec.toNat_and, BitVec.toNat_not, h1, h2, IntKind.wrap_u64, show (2 : Nat) ^ 64 - 1 - b = 18446744073709551615 - b by omega]
  generalize a &&& (18446744073709551615 - b) = c at *
  omega

theorem abs_form (x : Nat) (h : x < 18446744073709551616) : (bits .andNot .u64 (x : Int) 9223372036854775808).toNat = rungOf x := by
  have := andNot_nat x 9223372036854775808 h (by decide)
  rw [show ((9223372036854775808 : Nat) : Int) = 9223372036854775808 from rfl] at this
  rw [this, show (18446744073709551615 - 9223372036854775808 : Nat) = 2 ^ 63 - 1 from rfl, Nat.and_two_pow_sub_one_eq_mod, Int.toNat_natCast]
  rfl

theorem sc_form (x : Nat) (k : Int) : (IntKind.u64.wrap (↑x + IntKind.u64.wrap (IntKind.u64.wrap k * 4503599627370496))).toNat = sc x k := by
  unfold sc
  simp only [IntKind.wrap_u64]
  congr 1
  omega

set_option maxRecDepth 100000 in
set_option maxHeartbeats 400000 in
theorem cexp_any (x : Nat) (w : World) (h : x < 18446744073709551616) :
    Calls Yba.prog 17 #[.float .f64 x] w fun e w' => e = .returned (.int .i64 (ex x)) ∧ w' = w := by
  have hb := f64bits
  go_enter Yba.func17, Yba.ntmps17
  go_wp2
  go_ret
  exact ⟨ret_int (ex_form x h), rfl⟩

set_option maxRecDepth 100000 in
set_option maxHeartbeats 400000 in
theorem abs_any (x : Nat) (w : World) (h : x < 18446744073709551616) :
    Calls Yba.prog 25 #[.float .f64 x] w fun e w' => e = .returned (.float .f64 (rungOf x)) ∧ w' = w := by
  have hb := f64bits
  have hf := f64frombits
  go_enter Yba.func25, Yba.ntmps25
  go_wp2
  go_ret
  exact ⟨ret_float (abs_form x h), rfl⟩

set_option maxRecDepth 100000 in
set_option maxHeartbeats 400000 in
theorem Abs_any (x : Nat) (w : World) (h : x < 18446744073709551616) :
    Calls Yba.prog 20 #[.float .f64 x] w fun e w' => e = .returned (.float .f64 (rungOf x)) ∧ w' = w := by
  have hb := f64bits
  have hf := f64frombits
  go_enter Yba.func20, Yba.ntmps20
  go_wp2
  go_ret
  exact ⟨ret_float (abs_form x h), rfl⟩

set_option maxRecDepth 100000 in
set_option maxHeartbeats 400000 in
theorem scale_any (x : Nat) (k : Int) (w : World) :
    Calls Yba.prog 26 #[.float .f64 x, .int .i64 k] w fun e w' => e = .returned (.float .f64 (sc x k)) ∧ w' = w := by
  have hb := f64bits
  have hf := f64frombits
  go_enter Yba.func26, Yba.ntmps26
  go_wp2
  go_ret
  exact ⟨ret_float (sc_form x k), rfl⟩
end Go.Proofs.Ybulkuki
