/-
  Seat b1044aF: the walks of wire.Reader's Uint16 (12), Refuse (13), Counted (15), Take (16), for a reader that lies in block R: its bytes, its offset, its error.
-/
import Derived.Test.YbulkupeFmtStop
import Derived.WalkKit
import Derived.WalkSpells
import Derived.BigQuiet
import Derived.Deep.QuietTactic
import Derived.Handy
import Derived.WalkLawsBesides
namespace Go.Proofs.YbulkupeFmt
open Go.RowKit Go.Extern.Stop Go.Stop Go.Extern
set_option linter.unusedVariables false

theorem setCell_drewN (w : World) (n : Nat) (a : Addr) (v : Value) : (w.drewN n).setCell a v = (w.setCell a v).drewN n := rfl
theorem alloc_drewN (w : World) (n : Nat) (o : Obj) : (w.drewN n).alloc o = (w.alloc o).drewN n := rfl
attribute [local go_sem] setCell_drewN alloc_drewN call14 guard14 fmtA fmtAr fmtB fmtBr op3 op29 op30 op50

theorem ret_int {k : IntKind} {a b : Int} (h : a = b) : Ending.returned (.int k a) = .returned (.int k b) := by rw [h]

theorem or_u16 (z0 z1 : Int) (h0 : 0 ≤ z0 ∧ z0 ≤ 255) (h1 : 0 ≤ z1 ∧ z1 ≤ 255) : bits .or .u16 z1 (z0 * 256) = z0 * 256 + z1 := by
  obtain ⟨a, rfl⟩ := Int.eq_ofNat_of_zero_le h0.1
  obtain ⟨b, rfl⟩ := Int.eq_ofNat_of_zero_le h1.1
  have e : (a : Int) * 256 = ((2 ^ 8 * a : Nat) : Int) := by omega
  have w16 : ∀ n : Int, 0 ≤ n → n < 2 ^ 16 → IntKind.u16.wrap n = n := by
    intro n a b
    simp [IntKind.wrap, IntKind.bits, IntKind.signed]
    omega
  rw [e, (bits_nat .u16 16 (by decide) w16 b (2 ^ 8 * a) (by omega) (by omega)).2, Nat.or_comm, ← Nat.two_pow_add_eq_or_of_lt (by omega)]
  omega

set_option maxRecDepth 100000 in
set_option maxHeartbeats 400000 in
theorem u16_err (R : Nat) (u : Value) (fl : ByteArray) (w : World)
    (h2 : w.cell? ⟨R, 2, none⟩ = some (.iface 54 u)) :
    Calls Ybaf.prog 12 #[.pointer (some ⟨R, 0, none⟩), .string fl] w fun e w' => e = .returned (.int .u16 0) ∧ w' = w := by
  go_enter Ybaf.func12, Ybaf.ntmps12
  go_wp2
  go_ret
  exact ⟨rfl, rfl⟩

set_option maxRecDepth 100000 in
set_option maxHeartbeats 400000 in
theorem u16_short (R len cap : Nat) (a : Option Addr) (fl : ByteArray) (off : Int) (w : World)
    (h0 : w.cell? ⟨R, 0, none⟩ = some (.slice a len cap)) (h1 : w.cell? ⟨R, 1, none⟩ = some (.int .i64 off)) (h2 : w.cell? ⟨R, 2, none⟩ = some .nilIface)
    (f2 : w.frozen? ⟨R, 2, none⟩ = false) (hlt : R < w.heap.size)
    (o0 : 0 ≤ off) (ol : off ≤ len) (hl : len ≤ 70000) (hs : (len : Int) - off < 2) :
    Calls Ybaf.prog 12 #[.pointer (some ⟨R, 0, none⟩), .string fl] w fun e w' => e = .returned (.int .u16 0) ∧ ∃ k, w' = ((w.setCell ⟨R, 2, none⟩ (.iface 54 (.pointer (some ⟨w.heap.size, 0, none⟩)))).alloc (.cells #[.string fl, .int .i64 off, .string ⟨#[99, 117, 116, 32, 115, 104, 111, 114, 116]⟩] 56)).drewN k := by
  go_enter Ybaf.func12, Ybaf.ntmps12
  go_wp2
  go_quiet (fail)
  go_wp2
  go_ret
  exact ⟨rfl, _, rfl⟩

set_option maxRecDepth 100000 in
set_option maxHeartbeats 400000 in
theorem u16_ok (R B o len cap : Nat) (fl : ByteArray) (off z0 z1 : Int) (w : World)
    (h0 : w.cell? ⟨R, 0, none⟩ = some (.slice (some ⟨B, o, none⟩) len cap)) (h1 : w.cell? ⟨R, 1, none⟩ = some (.int .i64 off)) (h2 : w.cell? ⟨R, 2, none⟩ = some .nilIface)
    (f1 : w.frozen? ⟨R, 1, none⟩ = false) (hlt : R < w.heap.size)
    (o0 : 0 ≤ off) (hl : len ≤ 70000) (hs : 2 ≤ (len : Int) - off) (hc : len ≤ cap) (hB : ¬ B = R) (hBl : B < w.heap.size)
    (b0 : w.cell? ⟨B, o + off.toNat, none⟩ = some (.int .u8 z0)) (b1 : w.cell? ⟨B, o + off.toNat + 1, none⟩ = some (.int .u8 z1)) (y0 : 0 ≤ z0 ∧ z0 ≤ 255) (y1 : 0 ≤ z1 ∧ z1 ≤ 255) :
    Calls Ybaf.prog 12 #[.pointer (some ⟨R, 0, none⟩), .string fl] w fun e w' => e = .returned (.int .u16 (z0 * 256 + z1)) ∧ ∃ k, w' = ((w.setCell ⟨R, 1, none⟩ (.int .i64 (off + 2))).alloc (.cells #[] 43)).drewN k := by
  have e1 : (off + 2).toNat - off.toNat = 2 := by omega
  have e2 : ¬ (off + 2).toNat = off.toNat := by omega
  go_enter Ybaf.func12, Ybaf.ntmps12
  go_wp2
  go_quiet (fail)
  go_wp2
  go_quiet (fail)
  go_wp2
  go_quiet (fail)
  go_wp2
  go_ret
  exact ⟨ret_int (or_u16 z0 z1 y0 y1), _, World.drewN_drewN ..⟩

set_option maxRecDepth 100000 in
set_option maxHeartbeats 400000 in
theorem refuse_err (R : Nat) (u : Value) (fl rs : ByteArray) (off : Int) (w : World)
    (h2 : w.cell? ⟨R, 2, none⟩ = some (.iface 54 u)) :
    Calls Ybaf.prog 13 #[.pointer (some ⟨R, 0, none⟩), .string fl, .int .i64 off, .string rs] w fun e w' => e = .returned (.tuple #[]) ∧ w' = w := by
  go_enter Ybaf.func13, Ybaf.ntmps13
  go_wp2
  go_end0
  exact ⟨rfl, rfl⟩

set_option maxRecDepth 100000 in
set_option maxHeartbeats 400000 in
theorem refuse_nil (R : Nat) (fl rs : ByteArray) (off : Int) (w : World)
    (h2 : w.cell? ⟨R, 2, none⟩ = some .nilIface) (f2 : w.frozen? ⟨R, 2, none⟩ = false) (hlt : R < w.heap.size) :
    Calls Ybaf.prog 13 #[.pointer (some ⟨R, 0, none⟩), .string fl, .int .i64 off, .string rs] w fun e w' => e = .returned (.tuple #[]) ∧ w' = (w.setCell ⟨R, 2, none⟩ (.iface 54 (.pointer (some ⟨w.heap.size, 0, none⟩)))).alloc (.cells #[.string fl, .int .i64 off, .string rs] 56) := by
  go_enter Ybaf.func13, Ybaf.ntmps13
  go_wp2
  go_end0
  exact ⟨rfl, rfl⟩

set_option maxRecDepth 100000 in
set_option maxHeartbeats 400000 in
theorem counted_err (R : Nat) (u : Value) (fl : ByteArray) (off n : Int) (w : World)
    (h2 : w.cell? ⟨R, 2, none⟩ = some (.iface 54 u)) :
    Calls Ybaf.prog 15 #[.pointer (some ⟨R, 0, none⟩), .string fl, .int .i64 off, .int .u64 n] w fun e w' => e = .returned (.slice none 0 0) ∧ w' = w := by
  go_enter Ybaf.func15, Ybaf.ntmps15
  go_wp2
  go_ret
  exact ⟨rfl, rfl⟩

set_option maxRecDepth 100000 in
set_option maxHeartbeats 400000 in
theorem counted_refused (F : Interp) (R B o len cap : Nat) (fl : ByteArray) (off at_ n : Int) (w : World) (hF : F.answers w.tape)
    (h0 : w.cell? ⟨R, 0, none⟩ = some (.slice (some ⟨B, o, none⟩) len cap)) (h1 : w.cell? ⟨R, 1, none⟩ = some (.int .i64 off)) (h2 : w.cell? ⟨R, 2, none⟩ = some .nilIface)
    (f2 : w.frozen? ⟨R, 2, none⟩ = false) (hlt : R < w.heap.size)
    (o0 : 0 ≤ off) (ol : off ≤ len) (hl : len ≤ 70000) (n0 : 0 ≤ n) (n1 : n ≤ 70000) (hs : (len : Int) - off < n) :
    Calls Ybaf.prog 15 #[.pointer (some ⟨R, 0, none⟩), .string fl, .int .i64 at_, .int .u64 n] w fun e w' => e = .returned (.slice none 0 0) ∧
      ∃ k x, w' = (((w.setCell ⟨R, 2, none⟩ (.iface 54 (.pointer (some ⟨w.heap.size + 1, 0, none⟩)))).alloc (.cells #[.iface 50 (.int .u64 n), .iface 3 (.int .i64 (len - off))] 20)).alloc (.cells #[.string fl, .int .i64 at_, .string x] 56)).drewN k := by
  have hF' := answers_open hF
  go_enter Ybaf.func15, Ybaf.ntmps15
  go_wp2
  go_quiet (fail)
  go_wp2
  go_ret
  exact ⟨rfl, _, _, rfl⟩

set_option maxRecDepth 100000 in
set_option maxHeartbeats 400000 in
theorem counted_zero (R B o len cap : Nat) (fl : ByteArray) (off at_ : Int) (w : World)
    (h0 : w.cell? ⟨R, 0, none⟩ = some (.slice (some ⟨B, o, none⟩) len cap)) (h1 : w.cell? ⟨R, 1, none⟩ = some (.int .i64 off)) (h2 : w.cell? ⟨R, 2, none⟩ = some .nilIface)
    (f1 : w.frozen? ⟨R, 1, none⟩ = false) (hlt : R < w.heap.size)
    (o0 : 0 ≤ off) (ol : off ≤ len) (hl : len ≤ 70000) (hc : len ≤ cap) :
    Calls Ybaf.prog 15 #[.pointer (some ⟨R, 0, none⟩), .string fl, .int .i64 at_, .int .u64 0] w fun e w' => e = .returned (.slice (some ⟨B, o, none⟩) 0 0) ∧
      ∃ k, w' = (w.setCell ⟨R, 1, none⟩ (.int .i64 off)).drewN k := by
  have hnn : ¬ (len : Int) - off < 0 := by omega
  go_enter Ybaf.func15, Ybaf.ntmps15
  go_wp2
  go_quiet (fail)
  go_wp2
  go_quiet (fail)
  go_wp2
  go_quiet (fail)
  go_wp2
  go_ret
  exact ⟨rfl, _, rfl⟩

set_option maxRecDepth 100000 in
set_option maxHeartbeats 400000 in
theorem counted_ok (R B o len cap : Nat) (fl : ByteArray) (off at_ n : Int) (w : World)
    (h0 : w.cell? ⟨R, 0, none⟩ = some (.slice (some ⟨B, o, none⟩) len cap)) (h1 : w.cell? ⟨R, 1, none⟩ = some (.int .i64 off)) (h2 : w.cell? ⟨R, 2, none⟩ = some .nilIface)
    (f1 : w.frozen? ⟨R, 1, none⟩ = false) (hlt : R < w.heap.size)
    (o0 : 0 ≤ off) (hl : len ≤ 70000) (hc : len ≤ cap) (n0 : 1 ≤ n) (hs : n ≤ (len : Int) - off) :
    Calls Ybaf.prog 15 #[.pointer (some ⟨R, 0, none⟩), .string fl, .int .i64 at_, .int .u64 n] w fun e w' => e = .returned (.slice (some ⟨B, o + off.toNat, none⟩) n.toNat n.toNat) ∧
      ∃ k, w' = (w.setCell ⟨R, 1, none⟩ (.int .i64 (off + n))).drewN k := by
  have e1 : (off + n).toNat - off.toNat = n.toNat := by omega
  have e2 : ¬ (off + n).toNat = off.toNat := by omega
  go_enter Ybaf.func15, Ybaf.ntmps15
  go_wp2
  go_quiet (fail)
  go_wp2
  go_quiet (fail)
  go_wp2
  go_quiet (fail)
  go_wp2
  go_ret
  exact ⟨rfl, _, rfl⟩
end Go.Proofs.YbulkupeFmt
