import Derived.Test.YbulkbdtmRows
import Derived.WalkKit
import Derived.WalkSpells
import Derived.WalkLawsBesides
import Derived.Lib.Strings
import Derived.Lib.Slices
import Derived.Lib.Small
import Derived.Lib.Walk
import Derived.Lib.BitFns
import Derived.Lib.ItoaNum
import Derived.Laws.Bits64b
import Derived.Deep.QuietTactic
import Derived.BigQuiet
namespace Go.Proofs.Ybulkbdtm
open Go.RowKit

set_option maxHeartbeats 1000000 in
set_option maxRecDepth 100000 in
theorem len64_any (x : Int) (w : World) (h0 : 0 ≤ x) (h1 : x ≤ 1024) : Calls Yba.prog 22 #[.int .u64 x] w fun e w' => e = .returned (.int .i64 (Lib.bitLen x.toNat)) ∧ w' = w := by
  by_cases hx : x ≤ 255
  · go_enter Yba.func22, Yba.ntmps22
    go_wp2
    go_ret
    refine ⟨congrArg Ending.returned (congrArg (Value.int IntKind.i64) ?_), rfl⟩
    rw [Lib.len8_of x h0 hx]
    have l := Lib.bitLen_le8' x h0 hx
    simp only [wrap64]
    omega
  · have hx' : x / 256 ≤ 255 := by omega
    have hx0 : 0 ≤ x / 256 := by omega
    go_enter Yba.func22, Yba.ntmps22
    go_wp2
    go_ret
    refine ⟨congrArg Ending.returned (congrArg (Value.int IntKind.i64) ?_), rfl⟩
    rw [Lib.len8_of (x / 256) (by omega) (by omega)]
    have e : (x / 256).toNat = x.toNat / 256 := by omega
    have l := Lib.bitLen_le8' (x / 256) (by omega) (by omega)
    have s := Lib.bitLen_shift8 x.toNat (by omega) (by omega)
    rw [e] at l ⊢
    simp only [wrap64]
    omega

theorem lz64_any (x : Int) (w : World) (h0 : 0 ≤ x) (h1 : x ≤ 1024) : Calls Yba.prog 21 #[.int .u64 x] w fun e w' => e = .returned (.int .i64 (64 - (Lib.bitLen x.toNat : Int))) ∧ w' = w := by
  have hl := Lib.bitLen_le x.toNat 11 (by omega) (by omega)
  go_enter Yba.func21, Yba.ntmps21
  go_wp2_with (go_at_call 22; refine (len64_any x _ h0 h1).mono ?_; rintro e w' ⟨rfl, rfl⟩)
  go_ret
  exact ⟨rfl, rfl⟩

theorem and00 : bits BinOp.and IntKind.u64 0 4294967295 = 0 := by decide

set_option maxHeartbeats 1000000 in
set_option maxRecDepth 100000 in
theorem div64_core (hi y k A Y D q1 r1 P1 M0 M1 M2 U q0 P0 r0 M3 M4 M5 M6 M7 Q R : Nat) (w : World) (h0 : 0 < hi) (h1 : hi < y) (h2 : y ≤ 1024) (hk : Lib.bitLen y = k)
    (eY : IntKind.u64.wrap ((y : Int) * 2 ^ (64 - k)) = (Y : Int)) (eD : (Y : Int) / 4294967296 = (D : Int)) (eA : IntKind.u64.wrap ((hi : Int) * 2 ^ (64 - k)) = (A : Int))
    (eN : bits BinOp.and IntKind.u64 (Y : Int) 4294967295 = 0) (eO : bits BinOp.or IntKind.u64 (A : Int) 0 = (A : Int)) (hD : 0 < D) (eq1 : (A : Int) / (D : Int) = (q1 : Int)) (hq1 : q1 < 4294967296)
    (eP1 : IntKind.u64.wrap ((q1 : Int) * (D : Int)) = (P1 : Int)) (er1 : IntKind.u64.wrap ((A : Int) - (P1 : Int)) = (r1 : Int)) (eM0 : IntKind.u64.wrap (4294967296 * (r1 : Int)) = (M0 : Int))
    (eM1 : IntKind.u64.wrap ((A : Int) * 4294967296) = (M1 : Int)) (eM2 : IntKind.u64.wrap ((q1 : Int) * (Y : Int)) = (M2 : Int)) (eU : IntKind.u64.wrap ((M1 : Int) - (M2 : Int)) = (U : Int))
    (eq0 : (U : Int) / (D : Int) = (q0 : Int)) (hq0 : q0 < 4294967296) (eP0 : IntKind.u64.wrap ((q0 : Int) * (D : Int)) = (P0 : Int)) (er0 : IntKind.u64.wrap ((U : Int) - (P0 : Int)) = (r0 : Int))
    (eM3 : IntKind.u64.wrap (4294967296 * (r0 : Int)) = (M3 : Int)) (eM4 : IntKind.u64.wrap ((q1 : Int) * 4294967296) = (M4 : Int)) (eQ : IntKind.u64.wrap ((M4 : Int) + (q0 : Int)) = (Q : Int))
    (eM5 : IntKind.u64.wrap ((U : Int) * 4294967296) = (M5 : Int)) (eM6 : IntKind.u64.wrap ((q0 : Int) * (Y : Int)) = (M6 : Int)) (eM7 : IntKind.u64.wrap ((M5 : Int) - (M6 : Int)) = (M7 : Int))
    (eR : (M7 : Int) / 2 ^ (64 - k) = (R : Int))
    (wM0 : IntKind.u64.wrap (M0 : Int) = (M0 : Int)) (wM1 : IntKind.u64.wrap (M1 : Int) = (M1 : Int)) (wM3 : IntKind.u64.wrap (M3 : Int) = (M3 : Int)) (wM5 : IntKind.u64.wrap (M5 : Int) = (M5 : Int)) :
    Calls Yba.prog 19 #[.int .u64 hi, .int .u64 0, .int .u64 y] w fun e w' => e = .returned (.tuple #[.int .u64 Q, .int .u64 R]) ∧ w' = w := by
  have hk1 : k ≤ 11 := by rw [← hk]; exact Lib.bitLen_le y 11 (by omega) (by omega)
  have hb0 : ((y : Int) == 0) = false := beq_eq_false_iff_ne.2 (by omega)
  have hb1 : ((hi : Int) == 0) = false := beq_eq_false_iff_ne.2 (by omega)
  have hd1 : decide ((4294967296 : Int) ≤ (q1 : Int)) = false := decide_eq_false (by omega)
  have hd2 : decide ((4294967296 : Int) ≤ (q0 : Int)) = false := decide_eq_false (by omega)
  have z0 := and00
  go_enter Yba.func19, Yba.ntmps19
  go_wp2_with (go_at_call 21; refine (lz64_any y _ (by omega) (by omega)).mono ?_; rintro e w' ⟨rfl, rfl⟩; simp only [Int.toNat_natCast, hk])
  refine wp_loop_rounds 1 ?_
  rw [rounds_succ]
  go_wp2
  refine wp_loop_rounds 1 ?_
  rw [rounds_succ]
  go_wp2
  go_ret2
  exact ⟨rfl, rfl⟩

theorem wrapNat (n : Nat) : IntKind.u64.wrap (n : Int) = ((n % 18446744073709551616 : Nat) : Int) := by rw [IntKind.wrap_u64]; omega
theorem wrapLt (n : Nat) (h : n < 18446744073709551616) : IntKind.u64.wrap (n : Int) = (n : Int) := by rw [IntKind.wrap_u64]; omega
theorem wrapMul (a b : Nat) : IntKind.u64.wrap ((a : Int) * (b : Int)) = ((a * b % 18446744073709551616 : Nat) : Int) := by rw [← Int.natCast_mul]; exact wrapNat _
theorem wrapMulLt (a b : Nat) (h : a * b < 18446744073709551616) : IntKind.u64.wrap ((a : Int) * (b : Int)) = ((a * b : Nat) : Int) := by rw [← Int.natCast_mul]; exact wrapLt _ h
theorem wrapShl (a k : Nat) (h : a * 2 ^ k < 18446744073709551616) : IntKind.u64.wrap ((a : Int) * 2 ^ k) = ((a * 2 ^ k : Nat) : Int) := by
  have e : ((a : Int) * 2 ^ k) = ((a * 2 ^ k : Nat) : Int) := by simp
  rw [e]; exact wrapLt _ h

/-- The quotient and the remainder of hi * K * K by y, from the two half steps. -/
theorem two_halves (K hi y p D q1 r1 q0 r0 : Nat) (hp : 0 < p) (hD : D = y * p) (h1 : hi * p * K = q1 * D + r1) (h0 : r1 * K = q0 * D + r0) (hr : r0 < D) :
    q1 * K + q0 = hi * (K * K) / y ∧ r0 / p = hi * (K * K) % y := by
  have hA : hi * (K * K) * p = (q1 * K + q0) * y * p + r0 := by
    have e1 : hi * (K * K) * p = hi * p * K * K := by rw [Nat.mul_right_comm, Nat.mul_assoc (hi * p)]
    have e2 : (q1 * K + q0) * y * p = q1 * D * K + q0 * D := by rw [hD, Nat.mul_assoc, Nat.add_mul, Nat.mul_right_comm]
    rw [e1, e2, h1, Nat.add_mul]
    omega
  generalize q1 * K + q0 = Q at *
  generalize hi * (K * K) = N at *
  have hdv : r0 = p * (N - Q * y) := by
    rw [Nat.mul_comm p, Nat.sub_mul]; omega
  have hle : Q * y ≤ N := by
    rcases Nat.lt_or_ge N (Q * y) with h | h
    · have := (Nat.mul_lt_mul_right hp).2 h; omega
    · exact h
  have hR : r0 / p = N - Q * y := by rw [hdv]; exact Nat.mul_div_cancel_left _ hp
  have hlt : N - Q * y < y := by
    rw [hD, hdv, Nat.mul_comm y p] at hr
    exact Nat.lt_of_mul_lt_mul_left hr
  generalize hT : N - Q * y = T at *
  have hN : N = y * Q + T := by rw [Nat.mul_comm y Q]; omega
  constructor
  · rw [hN, Nat.mul_add_div (by omega), Nat.div_eq_of_lt hlt]; omega
  · rw [hR, hN, Nat.mul_add_mod, Nat.mod_eq_of_lt hlt]

theorem bitLen_bounds (y : Nat) (h0 : 0 < y) (h : y ≤ 1024) : 1 ≤ Lib.bitLen y ∧ Lib.bitLen y ≤ 11 ∧ 2 ^ (Lib.bitLen y - 1) ≤ y ∧ y < 2 ^ Lib.bitLen y := by
  have := Lib.bitLenAux_bounds 64 y (by omega) (by omega)
  have h2 := Lib.bitLen_le y 11 (by omega) (by omega)
  exact ⟨this.1, h2, this.2.1, this.2.2⟩

theorem subWrap (X Z U : Nat) (h : X = Z + U) (hU : U < 18446744073709551616) : IntKind.u64.wrap (((X % 18446744073709551616 : Nat) : Int) - ((Z % 18446744073709551616 : Nat) : Int)) = (U : Int) := by
  rw [IntKind.wrap_u64]; omega

theorem div64_pos (hi y : Nat) (w : World) (h0 : 0 < hi) (h1 : hi < y) (h2 : y ≤ 1024) :
    Calls Yba.prog 19 #[.int .u64 hi, .int .u64 0, .int .u64 y] w fun e w' => e = .returned (.tuple #[.int .u64 ((hi * 18446744073709551616 / y : Nat) : Int), .int .u64 ((hi * 18446744073709551616 % y : Nat) : Int)]) ∧ w' = w := by
  obtain ⟨k1, k2, k3, k4⟩ := bitLen_bounds y (by omega) h2
  generalize hk : Lib.bitLen y = k at *
  obtain ⟨p, hp⟩ : ∃ p, p = 2 ^ (32 - k) := ⟨_, rfl⟩
  have hp0 : 0 < p := by rw [hp]; exact Nat.pow_pos (by omega)
  have hP : 2 ^ (64 - k) = p * 4294967296 := by
    rw [hp, show (4294967296 : Nat) = 2 ^ 32 from rfl, ← Nat.pow_add]; congr 1; omega
  have hDlt : y * p < 4294967296 := by
    have := (Nat.mul_lt_mul_right hp0).2 k4
    rw [hp, ← Nat.pow_add, show k + (32 - k) = 32 by omega] at this
    rw [hp]; exact this
  have hD0 : 0 < y * p := Nat.mul_pos (by omega) hp0
  have haD : hi * p < y * p := (Nat.mul_lt_mul_right hp0).2 h1
  obtain ⟨D, hD⟩ : ∃ D, D = y * p := ⟨_, rfl⟩
  obtain ⟨a, ha⟩ : ∃ a, a = hi * p := ⟨_, rfl⟩
  rw [← hD] at hDlt hD0 haD
  rw [← ha] at haD
  obtain ⟨A, hA⟩ : ∃ A, A = a * 4294967296 := ⟨_, rfl⟩
  obtain ⟨Y, hY⟩ : ∃ Y, Y = D * 4294967296 := ⟨_, rfl⟩
  have eY : y * 2 ^ (64 - k) = Y := by rw [hP, ← Nat.mul_assoc, ← hD, ← hY]
  have eA : hi * 2 ^ (64 - k) = A := by rw [hP, ← Nat.mul_assoc, ← ha, ← hA]
  have d1 := Nat.div_add_mod A D
  have m1 := Nat.mod_lt A hD0
  have hq1 : A / D < 4294967296 := (Nat.div_lt_iff_lt_mul hD0).2 (by rw [Nat.mul_comm]; omega)
  obtain ⟨q1, hq⟩ : ∃ q1, q1 = A / D := ⟨_, rfl⟩
  obtain ⟨r1, hr1⟩ : ∃ r1, r1 = A % D := ⟨_, rfl⟩
  rw [← hq, ← hr1] at d1
  rw [← hr1] at m1
  rw [← hq] at hq1
  obtain ⟨U, hU⟩ : ∃ U, U = r1 * 4294967296 := ⟨_, rfl⟩
  have d0 := Nat.div_add_mod U D
  have m0 := Nat.mod_lt U hD0
  have hq0 : U / D < 4294967296 := (Nat.div_lt_iff_lt_mul hD0).2 (by rw [Nat.mul_comm]; omega)
  obtain ⟨q0, hqq⟩ : ∃ q0, q0 = U / D := ⟨_, rfl⟩
  obtain ⟨r0, hr0⟩ : ∃ r0, r0 = U % D := ⟨_, rfl⟩
  rw [← hqq, ← hr0] at d0
  rw [← hr0] at m0
  rw [← hqq] at hq0
  rw [Nat.mul_comm] at d1 d0
  obtain ⟨fQ, fR⟩ := two_halves 4294967296 hi y p D q1 r1 q0 r0 hp0 hD (by rw [← ha, ← hA]; exact d1.symm) (by rw [← hU]; exact d0.symm) m0
  have e64 : (4294967296 : Nat) * 4294967296 = 18446744073709551616 := rfl
  rw [e64] at fQ fR
  rw [← fQ, ← fR]
  have eMq : q1 * Y = q1 * D * 4294967296 := by rw [hY, Nat.mul_assoc]
  have eM0 : q0 * Y = q0 * D * 4294967296 := by rw [hY, Nat.mul_assoc]
  have l1 : A * 4294967296 = q1 * Y + U := by
    have e : q1 * D * 4294967296 + U = A * 4294967296 := by rw [hU, ← d1, Nat.add_mul]
    rw [eMq]; exact e.symm
  have l2 : U * 4294967296 = q0 * Y + r0 * 4294967296 := by
    have e : q0 * D * 4294967296 + r0 * 4294967296 = U * 4294967296 := by rw [← d0, Nat.add_mul]
    rw [eM0]; exact e.symm
  have sU := subWrap _ _ _ l1 (by omega)
  have sR := subWrap _ _ _ l2 (by omega)
  refine div64_core hi y k A Y D q1 r1 (q1 * D) (4294967296 * r1) (A * 4294967296 % 18446744073709551616) (q1 * Y % 18446744073709551616) U q0 (q0 * D) r0 (4294967296 * r0) (q1 * 4294967296) (U * 4294967296 % 18446744073709551616) (q0 * Y % 18446744073709551616) (r0 * 4294967296) _ _ w h0 h1 h2 hk
    ?_ (by omega) ?_ ?_ ?_ hD0 (by rw [← Int.natCast_ediv, ← hq]) hq1 (wrapMulLt _ _ (by omega)) ?_ (wrapMulLt 4294967296 _ (by omega)) (wrapMul A 4294967296) (wrapMul _ _) sU
    (by rw [← Int.natCast_ediv, ← hqq]) hq0 (wrapMulLt _ _ (by omega)) ?_ (wrapMulLt 4294967296 _ (by omega)) (wrapMulLt _ 4294967296 (by omega)) ?_ (wrapMul U 4294967296) (wrapMul _ _) sR ?_ (wrapLt _ (by omega)) (wrapLt _ (by omega)) (wrapLt _ (by omega)) (wrapLt _ (by omega))
  · rw [wrapShl _ _ (by rw [eY]; omega), eY]
  · rw [wrapShl _ _ (by rw [eA]; omega), eA]
  · have h := bits_and_u64_nat Y 4294967295 (by omega) (by omega)
    have e : Y &&& 4294967295 = Y % 4294967296 := Nat.and_two_pow_sub_one_eq_mod Y 32
    rw [e] at h
    refine h.trans ?_
    omega
  · have h := bits_or_u64_nat A 0 (by omega) (by omega)
    rw [Nat.or_zero] at h
    exact h
  · rw [IntKind.wrap_u64]; omega
  · rw [IntKind.wrap_u64]; omega
  · rw [IntKind.wrap_u64]; omega
  · have e : ((r0 * 4294967296 : Nat) : Int) / 2 ^ (64 - k) = ((r0 * 4294967296 / 2 ^ (64 - k) : Nat) : Int) := by simp
    rw [e, hP, Nat.mul_div_mul_right _ _ (by omega)]
end Go.Proofs.Ybulkbdtm
