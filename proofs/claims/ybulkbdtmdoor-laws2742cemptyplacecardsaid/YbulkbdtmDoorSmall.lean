import Derived.Test.YbulkbdtmDoorRows
import Derived.Test.YbulkbdtmDoorBits
import Derived.WalkKit
import Derived.WalkSpells
import Derived.WalkLawsBesides
import Derived.Lib.Strings
import Derived.Lib.Slices
import Derived.Lib.Small
import Derived.Lib.Walk
import Derived.Lib.Mul64
import Derived.Deep.QuietTactic
import Derived.BigQuiet
import Derived.Deep.OwnRows
import Derived.Deep.Draws
import Derived.LoopTactic
/-! The small functions' contracts: each only computes. -/
namespace Go.Proofs.YbulkbdtmDoor
open Go.RowKit

theorem wrapNat (n : Nat) : IntKind.u64.wrap (n : Int) = ((n % 18446744073709551616 : Nat) : Int) := by rw [IntKind.wrap_u64]; omega
theorem wrapLt (n : Nat) (h : n < 18446744073709551616) : IntKind.u64.wrap (n : Int) = (n : Int) := by rw [IntKind.wrap_u64]; omega
theorem maskLo (a : Nat) (ha : a < 18446744073709551616) : bits .and .u64 (a : Int) 4294967295 = ((a % 4294967296 : Nat) : Int) := by
  have h := bits_and_u64_nat a 4294967295 ha (by omega)
  have e : a &&& 4294967295 = a % 4294967296 := Nat.and_two_pow_sub_one_eq_mod a 32
  rw [e] at h
  exact h
theorem divHi (a : Nat) : (a : Int) / 4294967296 = ((a / 4294967296 : Nat) : Int) := by omega
theorem mulUp (a b : Nat) : (a : Int) * (b : Int) = ((a * b : Nat) : Int) := (Int.natCast_mul a b).symm
theorem addUp (a b : Nat) : (a : Int) + (b : Int) = ((a + b : Nat) : Int) := (Int.natCast_add a b).symm

set_option maxHeartbeats 1000000 in
/-- math/bits.Mul64, walked as the library's text stands in this dump. -/
theorem mul64_any (x y : Nat) (hx : x < 18446744073709551616) (hy : y < 18446744073709551616) (w : World) :
    Calls Ybad.prog 10 #[.int .u64 x, .int .u64 y] w fun e w' => e = .returned (.tuple #[.int .u64 ((x * y / 18446744073709551616 : Nat) : Int), .int .u64 ((x * y % 18446744073709551616 : Nat) : Int)]) ∧ w' = w := by
  obtain ⟨bd, bt, bw, hhi⟩ := Lib.mul64_hi x y hx hy
  have ba := Lib.half_mul_le (a := x / 4294967296) (b := y / 4294967296) (by omega) (by omega)
  have bb := Lib.half_mul_le (a := x / 4294967296) (b := y % 4294967296) (by omega) (by omega)
  have bc := Lib.half_mul_le (a := x % 4294967296) (b := y / 4294967296) (by omega) (by omega)
  have ba' : x / 4294967296 * (y / 4294967296) < 18446744073709551616 := by omega
  have bb' : x / 4294967296 * (y % 4294967296) < 18446744073709551616 := by omega
  have bc' : x % 4294967296 * (y / 4294967296) < 18446744073709551616 := by omega
  have bh1 : x / 4294967296 * (y / 4294967296) + (x / 4294967296 * (y % 4294967296) + x % 4294967296 * (y % 4294967296) / 4294967296) / 4294967296 < 18446744073709551616 := by omega
  have bh : x / 4294967296 * (y / 4294967296) + (x / 4294967296 * (y % 4294967296) + x % 4294967296 * (y % 4294967296) / 4294967296) / 4294967296 + ((x / 4294967296 * (y % 4294967296) + x % 4294967296 * (y % 4294967296) / 4294967296) % 4294967296 + x % 4294967296 * (y / 4294967296)) / 4294967296 < 18446744073709551616 := by omega
  go_enter Ybad.func10, Ybad.ntmps10
  go_wp2
  simp only [maskLo x hx, maskLo y hy, divHi, mulUp, addUp, wrapLt _ bd, wrapLt _ bb', wrapLt _ bt, maskLo _ bt, wrapLt _ bc', wrapLt _ bw, wrapLt _ ba', wrapLt _ bh1, wrapLt _ bh, wrapNat (x * y)]
  rw [hhi]
  go_ret2
  exact ⟨rfl, rfl⟩

/-! ### Where a hash is at home -/
/-- The hash shifted by its depth, as every reader shifts it. -/
def shifted (p : Nat) (d : Int) : Nat := p * 2 ^ (d % 64).toNat % 18446744073709551616
def homeOf (p : Nat) (d : Int) (n : Nat) : Nat := shifted p d * n / 18446744073709551616
theorem shifted_lt (p : Nat) (d : Int) : shifted p d < 18446744073709551616 := Nat.mod_lt _ (by omega)
theorem homeOf_lt (p : Nat) (d : Int) (n : Nat) (hn : 0 < n) : homeOf p d n < n := by
  unfold homeOf
  rw [Nat.div_lt_iff_lt_mul (by omega), Nat.mul_comm n]
  exact (Nat.mul_lt_mul_right hn).2 (shifted_lt p d)

theorem homeGroup_any (x n : Nat) (w : World) (hx : x < 18446744073709551616) (hn : n ≤ 8) :
    Calls Ybad.prog 29 #[.int .u64 x, .int .i64 n] w fun e w' => e = .returned (.int .i64 ((x * n / 18446744073709551616 : Nat) : Int)) ∧ w' = w := by
  have M := mul64_any x n hx (by omega)
  have hb : x * n / 18446744073709551616 ≤ 8 := by
    rw [Nat.div_le_iff_le_mul_add_pred (by omega)]
    have := Nat.mul_le_mul (Nat.le_of_lt hx) hn
    omega
  generalize x * n / 18446744073709551616 = q at *
  generalize x * n % 18446744073709551616 = r at *
  have HM : Hid (∀ w, Calls Ybad.prog 10 #[.int .u64 x, .int .u64 n] w fun e w' => e = .returned (.tuple #[.int .u64 (q : Int), .int .u64 (r : Int)]) ∧ w' = w) := M
  clear M
  go_enter Ybad.func29, Ybad.ntmps29
  go_wp2_with (go_at_call 10; refine (HM.out _).mono ?_; rintro e w' ⟨rfl, rfl⟩)
  go_ret
  exact ⟨rfl, rfl⟩

theorem and63_u64 (d : Int) : bits BinOp.and IntKind.u64 (IntKind.u64.wrap d) 63 = (((d % 64).toNat : Nat) : Int) := by
  have e : IntKind.u64.wrap d = (((d % 18446744073709551616).toNat : Nat) : Int) := by rw [IntKind.wrap_u64]; omega
  have h := bits_and_u64_nat (d % 18446744073709551616).toNat 63 (by omega) (by omega)
  rw [show (d % 18446744073709551616).toNat &&& 63 = (d % 18446744073709551616).toNat % 64 from Nat.and_two_pow_sub_one_eq_mod _ 6] at h
  rw [e]
  refine h.trans ?_
  omega
theorem and63_i64 (d : Int) : bits BinOp.and IntKind.i64 d 63 = (((d % 64).toNat : Nat) : Int) := by
  have h1 : (BitVec.ofInt 64 d).toNat = (d % 18446744073709551616).toNat := by rw [BitVec.toNat_ofInt]; rfl
  have h2 : (BitVec.ofInt 64 (63 : Int)).toNat = 63 := by rfl
  show IntKind.i64.wrap ((BitVec.ofInt 64 d &&& BitVec.ofInt 64 63).toNat : Int) = _
  rw [BitVec.toNat_and, h1, h2, show (d % 18446744073709551616).toNat &&& 63 = (d % 18446744073709551616).toNat % 64 from Nat.and_two_pow_sub_one_eq_mod _ 6, IntKind.wrap_i64]
  omega
theorem shl_eq (p s : Nat) : IntKind.u64.wrap ((p : Int) * 2 ^ s) = ((p * 2 ^ s % 18446744073709551616 : Nat) : Int) := by
  have e : ((p : Int) * 2 ^ s) = ((p * 2 ^ s : Nat) : Int) := by simp
  rw [e]; exact wrapNat _

set_option maxHeartbeats 1000000 in
theorem chome_any (p n : Nat) (d : Int) (w : World) (hn : n ≤ 8) :
    Calls Ybad.prog 5 #[.int .u64 p, .int .i64 d, .int .i64 n] w fun e w' => e = .returned (.int .i64 (homeOf p d n)) ∧ w' = w := by
  have hs : (d % 64).toNat < 64 := by omega
  have e1 := and63_u64 d
  have e2 := shl_eq p (d % 64).toNat
  have hx := shifted_lt p d
  have HM : Hid (∀ w, Calls Ybad.prog 10 #[.int .u64 (shifted p d), .int .u64 n] w fun e w' => e = .returned (.tuple #[.int .u64 ((shifted p d * n / 18446744073709551616 : Nat) : Int), .int .u64 ((shifted p d * n % 18446744073709551616 : Nat) : Int)]) ∧ w' = w) := mul64_any (shifted p d) n hx (by omega)
  have hq : shifted p d * n / 18446744073709551616 ≤ 8 := by
    rw [Nat.div_le_iff_le_mul_add_pred (by omega)]
    have := Nat.mul_le_mul (Nat.le_of_lt hx) hn
    omega
  unfold homeOf
  unfold shifted at *
  generalize (d % 64).toNat = s at *
  generalize p * 2 ^ s % 18446744073709551616 = x at *
  generalize x * n / 18446744073709551616 = q at *
  generalize x * n % 18446744073709551616 = r at *
  go_enter Ybad.func5, Ybad.ntmps5
  go_wp2_with (go_at_call 10; refine (HM.out _).mono ?_; rintro e w' ⟨rfl, rfl⟩)
  go_ret
  exact ⟨rfl, rfl⟩

set_option maxHeartbeats 1000000 in
/-- (*layout).home: it reads the depth and the control words' slice. -/
theorem home_any (L lo p n : Nat) (a : Option Addr) (c : Nat) (d : Int) (w : World) (hn : n ≤ 8) (c0 : w.cell? ⟨L, lo, none⟩ = some (.slice a n c)) (c1 : w.cell? ⟨L, lo + 1, none⟩ = some (.int .i64 d)) :
    Calls Ybad.prog 22 #[.pointer (some ⟨L, lo, none⟩), .int .u64 p] w fun e w' => e = .returned (.int .i64 (homeOf p d n)) ∧ ∃ k, w' = w.drewN k := by
  have hs : (d % 64).toNat < 64 := by omega
  have e1 := and63_i64 d
  have e2 := shl_eq p (d % 64).toNat
  have hx := shifted_lt p d
  have HG : Hid (∀ w, Calls Ybad.prog 29 #[.int .u64 (shifted p d), .int .i64 n] w fun e w' => e = .returned (.int .i64 ((shifted p d * n / 18446744073709551616 : Nat) : Int)) ∧ w' = w) := fun w => homeGroup_any (shifted p d) n w hx hn
  unfold homeOf
  unfold shifted at *
  generalize (d % 64).toNat = s at *
  generalize p * 2 ^ s % 18446744073709551616 = x at *
  generalize x * n / 18446744073709551616 = q at *
  go_enter Ybad.func22, Ybad.ntmps22
  go_wp2
  go_quiet ((go_at_call 29; exact Calls.quiet_of_same (HG.out _)))
  go_wp2
  go_ret
  exact ⟨rfl, _, rfl⟩
end Go.Proofs.YbulkbdtmDoor
