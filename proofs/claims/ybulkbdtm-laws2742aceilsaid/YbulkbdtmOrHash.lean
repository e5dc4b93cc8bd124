import Derived.Test.YbulkbdtmOrTable
import Derived.Test.YbulkbdtmOrDiv
import Derived.Deep.Draws
namespace Go.Proofs.Ybulkbdtm
open Go.RowKit

set_option maxHeartbeats 1000000 in
set_option maxRecDepth 100000 in
theorem div64_zero (y : Nat) (w : World) (h1 : 0 < y) (h2 : y ≤ 1024) :
    Calls Yba.prog 19 #[.int .u64 0, .int .u64 0, .int .u64 y] w fun e w' => e = .returned (.tuple #[.int .u64 0, .int .u64 0]) ∧ ∃ n, w' = w.drewN n := by
  have hb0 : ((y : Int) == 0) = false := beq_eq_false_iff_ne.2 (by omega)
  have hd : decide ((y : Int) ≤ 0) = false := decide_eq_false (by omega)
  go_enter Yba.func19, Yba.ntmps19
  go_wp2
  go_quiet (fail)
  go_wp2
  go_ret2
  exact ⟨rfl, _, rfl⟩

theorem div64_any (g y : Nat) (w : World) (h1 : g < y) (h2 : y ≤ 1024) :
    Calls Yba.prog 19 #[.int .u64 g, .int .u64 0, .int .u64 y] w fun e w' => e = .returned (.tuple #[.int .u64 ((g * 18446744073709551616 / y : Nat) : Int), .int .u64 ((g * 18446744073709551616 % y : Nat) : Int)]) ∧ ∃ n, w' = w.drewN n := by
  rcases Nat.eq_zero_or_pos g with rfl | hg
  · refine (div64_zero y w h1 h2).mono ?_
    rintro e w' ⟨rfl, n, rfl⟩
    exact ⟨by simp, n, rfl⟩
  · refine (div64_pos g y w hg h1 h2).mono ?_
    rintro e w' ⟨rfl, rfl⟩
    exact ⟨rfl, 0, rfl⟩

/-- The first place of group g among G: g * 2^64 / G, rounded up. -/
def place (g G : Nat) : Nat := g * 18446744073709551616 / G + if g * 18446744073709551616 % G = 0 then 0 else 1

theorem q_lt (g G : Nat) (h : g < G) (h2 : G ≤ 1024) : g * 18446744073709551616 / G + 1 < 18446744073709551616 := by
  have h1 : g * 18446744073709551616 / G ≤ 18446744073709551616 - 18014398509481984 := by
    rw [Nat.div_le_iff_le_mul_add_pred (by omega)]
    have : G * (18446744073709551616 - 18014398509481984) = G * 18446744073709551616 - G * 18014398509481984 := by omega
    omega
  omega
theorem place_lt (g G : Nat) (h : g < G) (h2 : G ≤ 1024) : place g G < 18446744073709551616 := by
  have := q_lt g G h h2
  unfold place
  split <;> omega

set_option maxHeartbeats 1000000 in
theorem fh_any (g G : Nat) (w : World) (h1 : g < G) (h2 : G ≤ 1024) :
    Calls Yba.prog 15 #[.int .i64 g, .int .i64 G] w fun e w' => e = .returned (.int .u64 (place g G)) ∧ ∃ n, w' = w.drewN n := by
  have hq := q_lt g G h1 h2
  have hne : ((g : Int) == (G : Int)) = false := beq_eq_false_iff_ne.2 (by omega)
  have hP : Hid (place g G = g * 18446744073709551616 / G + if g * 18446744073709551616 % G = 0 then 0 else 1) := rfl
  have hc := div64_any g G w h1 h2
  generalize hQ : g * 18446744073709551616 / G = Q at *
  generalize hR : g * 18446744073709551616 % G = R at *
  generalize place g G = p at *
  clear hQ hR
  have HC : Hid (Calls Yba.prog 19 #[.int .u64 g, .int .u64 0, .int .u64 G] w fun e w' => e = .returned (.tuple #[.int .u64 (Q : Int), .int .u64 (R : Int)]) ∧ ∃ n, w' = w.drewN n) := hc
  clear hc
  by_cases hr : R = 0
  · subst hr
    go_enter Yba.func15, Yba.ntmps15
    go_wp2_with (go_at_call 19; refine HC.out.mono ?_; rintro e w' ⟨rfl, n, rfl⟩)
    go_ret
    exact ⟨by rw [hP.out]; simp, n, rfl⟩
  · have hb : ((R : Int) != 0) = true := by rw [bne_iff_ne]; omega
    go_enter Yba.func15, Yba.ntmps15
    go_wp2_with (go_at_call 19; refine HC.out.mono ?_; rintro e w' ⟨rfl, n, rfl⟩)
    go_ret
    exact ⟨by rw [hP.out, if_neg hr]; simp, n, rfl⟩

theorem pow_le64 (d : Nat) (hd : d ≤ 64) : 2 ^ d ≤ 18446744073709551616 := by
  have : 2 ^ d ≤ 2 ^ 64 := Nat.pow_le_pow_right (by omega) hd
  have e : (2 : Nat) ^ 64 = 18446744073709551616 := rfl
  omega
theorem mask_eq (p d : Nat) (hp : p < 18446744073709551616) (hd : d ≤ 64) : bits BinOp.and IntKind.u64 (p : Int) (IntKind.u64.wrap (IntKind.u64.wrap (2 ^ d) - 1)) = ((p % 2 ^ d : Nat) : Int) := by
  have hle := pow_le64 d hd
  have hpos : 0 < 2 ^ d := Nat.pow_pos (by omega)
  have e1 : (2 : Int) ^ d = ((2 ^ d : Nat) : Int) := by simp
  have e2 : IntKind.u64.wrap (IntKind.u64.wrap (2 ^ d) - 1) = ((2 ^ d - 1 : Nat) : Int) := by
    rw [e1]
    generalize 2 ^ d = P at *
    rw [IntKind.wrap_u64, IntKind.wrap_u64]
    omega
  rw [e2, bits_and_u64_nat p (2 ^ d - 1) hp (by omega), Nat.and_two_pow_sub_one_eq_mod]

/-- p / 2^d, rounded up. -/
def low (p d : Nat) : Nat := p / 2 ^ d + if p % 2 ^ d = 0 then 0 else 1
theorem low_lt (p d : Nat) (hp : p < 18446744073709551616) : low p d < 18446744073709551616 := by
  unfold low
  by_cases h : p % 2 ^ d = 0
  · rw [if_pos h]
    have := Nat.div_le_self p (2 ^ d)
    omega
  · rw [if_neg h]
    have h2 : 2 ≤ 2 ^ d := by
      rcases d with _ | d
      · simp [Nat.mod_one] at h
      · rw [Nat.pow_succ]; have : 0 < 2 ^ d := Nat.pow_pos (by omega); omega
    have : p / 2 ^ d ≤ p / 2 := Nat.div_le_div_left h2 (by omega)
    omega

set_option maxHeartbeats 1000000 in
theorem tfh_any (T g n d : Nat) (st : Int) (a : Option Addr) (c : Nat) (w : World) (h1 : g < n) (h2 : n ≤ 1024) (hd : d ≤ 64)
    (c3 : w.cell? ⟨T, 3, none⟩ = some (.slice a n c)) (c5 : w.cell? ⟨T, 5, none⟩ = some (.int .i64 d)) (c6 : w.cell? ⟨T, 6, none⟩ = some (.int .u64 st)) :
    Calls Yba.prog 8 #[.pointer (some ⟨T, 0, none⟩), .int .i64 g] w fun e w' => e = .returned (.int .u64 (IntKind.u64.wrap (st + (low (place g n) d : Int)))) ∧ ∃ n, w' = w.drewN n := by
  have hne : ((g : Int) == (n : Int)) = false := beq_eq_false_iff_ne.2 (by omega)
  have HC : Hid (Calls Yba.prog 15 #[.int .i64 g, .int .i64 n] w fun e w' => e = .returned (.int .u64 (place g n)) ∧ ∃ n, w' = w.drewN n) := fh_any g n w h1 h2
  have hpl := place_lt g n h1 h2
  generalize place g n = p at *
  have hm := mask_eq p d hpl hd
  have hlow := low_lt p d hpl
  have hL : Hid (low p d = p / 2 ^ d + if p % 2 ^ d = 0 then 0 else 1) := rfl
  have edv : (p : Int) / 2 ^ d = ((p / 2 ^ d : Nat) : Int) := by simp
  have hqq : p / 2 ^ d + (if p % 2 ^ d = 0 then 0 else 1) < 18446744073709551616 := by rw [← hL.out]; exact hlow
  generalize low p d = lo at *
  generalize hq : p / 2 ^ d = q at *
  generalize hr : p % 2 ^ d = r at *
  clear hq hr
  by_cases hz : r = 0
  · subst hz
    rw [if_pos rfl] at hqq
    go_enter Yba.func8, Yba.ntmps8
    go_wp2_with (go_at_call 15; refine HC.out.mono ?_; rintro e w' ⟨rfl, nn, rfl⟩)
    go_ret
    exact ⟨by rw [hL.out]; simp, nn, rfl⟩
  · have hb : ((r : Int) != 0) = true := by rw [bne_iff_ne]; omega
    rw [if_neg hz] at hqq
    go_enter Yba.func8, Yba.ntmps8
    go_wp2_with (go_at_call 15; refine HC.out.mono ?_; rintro e w' ⟨rfl, nn, rfl⟩)
    go_ret
    exact ⟨by rw [hL.out, if_neg hz]; simp, nn, rfl⟩
end Go.Proofs.Ybulkbdtm
