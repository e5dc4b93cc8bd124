import Derived.Test.YbulkbdtmCeMul
namespace Go.Proofs.Ybulkbdtm
open Go.RowKit

theorem atl_plain (K V G g : Nat) (hK : 0 < K) : (g ≤ V / K * G / K * K + V / K * G % K + V % K * G / K) ↔ g * K ≤ V * G := by
  have e1 : V / K * G / K * K + V / K * G % K = V / K * G := by rw [Nat.mul_comm]; exact Nat.div_add_mod _ _
  have e2 : V * G / K = V / K * G + V % K * G / K := by
    have h : V * G = V % K * G + K * (V / K * G) := by
      conv => lhs; rw [← Nat.div_add_mod V K]
      rw [Nat.add_mul, Nat.mul_assoc]; omega
    rw [h, Nat.add_mul_div_left _ _ hK]; omega
  rw [e1, ← e2, Nat.le_div_iff_mul_le hK]

theorem shift_parts (K P Q V low : Nat) (hK : K = Q * P) (hP : 0 < P) (hV : V = low * P) : low / Q = V / K := by
  rw [hK, hV, Nat.mul_div_mul_right _ _ hP]

theorem atleast_any (low d G g : Nat) (w : World) (hlow : low < 18446744073709551616) (hd : d ≤ 64) (hG : G ≤ 1024) (hg : g ≤ 1024) :
    Calls Yba.prog 9 #[.int .u64 low, .int .i64 d, .int .u64 G, .int .u64 g] w fun e w' => e = .returned (.bool (decide (g * 18446744073709551616 ≤ low * 2 ^ d * G))) ∧ w' = w := by
  have hpow := pow_le64 d hd
  have hp0 : 0 < 2 ^ d := Nat.pow_pos (by omega)
  obtain ⟨V, hV⟩ : ∃ V, V = low * 2 ^ d := ⟨_, rfl⟩
  have hVle : V ≤ low * 18446744073709551616 := by rw [hV]; exact Nat.mul_le_mul_left _ hpow
  have hmh : V / 18446744073709551616 < 18446744073709551616 := by omega
  refine (atleast_core low d G g (V / 18446744073709551616) (V % 18446744073709551616) w hlow hd hG hg hmh (Nat.mod_lt _ (by omega)) ?_ ?_ ?_).mono ?_
  · rintro rfl
    have e : (2 : Nat) ^ 64 = 18446744073709551616 := rfl
    rw [e] at hV
    omega
  · intro hlt
    have hk : 18446744073709551616 = 2 ^ (64 - d) * 2 ^ d := by
      rw [← Nat.pow_add, show 64 - d + d = 64 by omega]
    have h := shift_parts 18446744073709551616 (2 ^ d) (2 ^ (64 - d)) V low hk hp0 hV
    rw [← h]
    simp
  · intro _
    have e : ((low : Int) * 2 ^ d) = ((V : Nat) : Int) := by rw [hV]; simp
    rw [e]; exact wrapNat V
  · rintro e w' ⟨rfl, rfl⟩
    refine ⟨?_, rfl⟩
    have h := atl_plain 18446744073709551616 V G g (by omega)
    unfold atl
    rw [← hV]
    congr 2
    exact decide_eq_decide.2 h

set_option maxHeartbeats 1000000 in
theorem end_any (T d : Nat) (st : Int) (w : World) (hd : d ≤ 64) (c5 : w.cell? ⟨T, 5, none⟩ = some (.int .i64 d)) (c6 : w.cell? ⟨T, 6, none⟩ = some (.int .u64 st)) :
    Calls Yba.prog 14 #[.pointer (some ⟨T, 0, none⟩)] w fun e w' => e = .returned (.int .u64 (IntKind.u64.wrap (st + IntKind.u64.wrap (2 ^ (64 - d))))) ∧ ∃ n, w' = w.drewN n := by
  have hd1 : (0 : Int) ≤ 64 - (d : Int) := by omega
  go_enter Yba.func14, Yba.ntmps14
  go_wp2
  go_quiet (fail)
  go_wp2
  go_ret
  exact ⟨rfl, _, rfl⟩

set_option maxHeartbeats 1000000 in
theorem tfh_end (T n d : Nat) (st : Int) (a : Option Addr) (c : Nat) (w : World) (hd : d ≤ 64)
    (c3 : w.cell? ⟨T, 3, none⟩ = some (.slice a n c)) (c5 : w.cell? ⟨T, 5, none⟩ = some (.int .i64 d)) (c6 : w.cell? ⟨T, 6, none⟩ = some (.int .u64 st)) :
    Calls Yba.prog 8 #[.pointer (some ⟨T, 0, none⟩), .int .i64 n] w fun e w' => e = .returned (.int .u64 (IntKind.u64.wrap (st + IntKind.u64.wrap (2 ^ (64 - d))))) ∧ ∃ n, w' = w.drewN n := by
  have HE : Hid (Calls Yba.prog 14 #[.pointer (some ⟨T, 0, none⟩)] w fun e w' => e = .returned (.int .u64 (IntKind.u64.wrap (st + IntKind.u64.wrap (2 ^ (64 - d))))) ∧ ∃ n, w' = w.drewN n) := end_any T d st w hd c5 c6
  go_enter Yba.func8, Yba.ntmps8
  go_wp2_with (go_at_call 14; refine HE.out.mono ?_; rintro e w' ⟨rfl, nn, rfl⟩)
  go_ret
  exact ⟨rfl, nn, rfl⟩

/-- The least low whose place comes to group g. -/
theorem ceil_yes (g G d : Nat) (hG : 0 < G) : g * 18446744073709551616 ≤ low (place g G) d * 2 ^ d * G :=
  (place_le g G _ hG).1 ((low_le _ d _).1 (Nat.le_refl _))
theorem ceil_no (g G d l : Nat) (hG : 0 < G) (hl : low (place g G) d = l + 1) : ¬ g * 18446744073709551616 ≤ l * 2 ^ d * G := by
  intro h
  have h1 := (low_le (place g G) d l).2 ((place_le g G _ hG).2 h)
  rw [hl] at h1
  exact Nat.not_succ_le_self l h1

set_option maxHeartbeats 1000000 in
theorem ceil_end (n gx d st : Int) (G D : Nat) (w : World) (hn0 : 0 ≤ n) (hn1 : n ≤ 65535) (hg0 : 0 ≤ gx) (hg1 : gx ≤ 65535) (hd0 : 0 ≤ d) (hd1 : d ≤ 255)
    (hG : n % 1024 + 1 = (G : Int)) (hD : d % 65 = (D : Int)) (hg : gx % ((G : Int) + 1) = (G : Int)) :
    Calls Yba.prog 3 #[.int .u16 n, .int .u16 gx, .int .u8 d, .int .u64 st] w fun e w' => e = .returned (.bool true) ∧ Below w.heap.size w w' := by
  have hG2 : G ≤ 1024 := by omega
  have hD2 : D ≤ 64 := by omega
  have HB : Hid (n % 1024 + 1 = (G : Int) ∧ d % 65 = (D : Int)) := ⟨hG, hD⟩
  clear hG hD
  go_enter Yba.func3, Yba.ntmps3
  go_wp2_with fail
  refine (build_any n d st G D _ hn0 hn1 hd0 hd1 HB.out.1 HB.out.2).mono ?_
  rintro e w1 ⟨T, C, GG, rfl, hN⟩
  have c3 := hN.tab.cell (i := 3) (by omega)
  have c5 := hN.tab.cell (i := 5) (by omega)
  have c6 := hN.tab.cell (i := 6) (by omega)
  have HE : Hid (Calls Yba.prog 8 #[.pointer (some ⟨T, 0, none⟩), .int .i64 G] w1 fun e w' => e = .returned (.int .u64 (IntKind.u64.wrap (st + IntKind.u64.wrap (2 ^ (64 - D))))) ∧ ∃ n, w' = w1.drewN n) := tfh_end T G D st (some ⟨GG, 0, none⟩) G w1 hD2 c3 c5 c6
  have HBel : Hid (Below w.heap.size w w1) := hN.below
  clear hN c3 c5 c6
  go_wp2_with fail
  refine HE.out.mono ?_
  rintro e w2 ⟨rfl, n1, rfl⟩
  by_cases hz : D = 0
  · subst hz
    have hK : IntKind.u64.wrap 18446744073709551616 = 0 := by rw [IntKind.wrap_u64]; decide
    go_wp2
    go_ret
    exact ⟨by simp, below_drewN HBel.out _⟩
  · have hpos : (0 : Int) < (D : Int) := by omega
    go_wp2
    go_ret
    exact ⟨by simp, below_drewN HBel.out _⟩

set_option maxHeartbeats 1000000 in
theorem ceil_core (n gx d st : Int) (G D g : Nat) (w : World) (hn0 : 0 ≤ n) (hn1 : n ≤ 65535) (hg0 : 0 ≤ gx) (hg1 : gx ≤ 65535) (hd0 : 0 ≤ d) (hd1 : d ≤ 255)
    (hG : n % 1024 + 1 = (G : Int)) (hD : d % 65 = (D : Int)) (hg : gx % ((G : Int) + 1) = (g : Int)) (hgG : g < G) :
    Calls Yba.prog 3 #[.int .u16 n, .int .u16 gx, .int .u8 d, .int .u64 st] w fun e w' => e = .returned (.bool true) ∧ Below w.heap.size w w' := by
  have hG2 : G ≤ 1024 := by omega
  have hD2 : D ≤ 64 := by omega
  have HB : Hid (n % 1024 + 1 = (G : Int) ∧ d % 65 = (D : Int)) := ⟨hG, hD⟩
  clear hG hD
  have hne : ((g : Int) == (G : Int)) = false := beq_eq_false_iff_ne.2 (by omega)
  go_enter Yba.func3, Yba.ntmps3
  go_wp2_with fail
  refine (build_any n d st G D _ hn0 hn1 hd0 hd1 HB.out.1 HB.out.2).mono ?_
  rintro e w1 ⟨T, C, GG, rfl, hN⟩
  have c3 := hN.tab.cell (i := 3) (by omega)
  have c5 := hN.tab.cell (i := 5) (by omega)
  have c6 := hN.tab.cell (i := 6) (by omega)
  have HE : Hid (Calls Yba.prog 8 #[.pointer (some ⟨T, 0, none⟩), .int .i64 g] w1 fun e w' => e = .returned (.int .u64 (IntKind.u64.wrap (st + (low (place g G) D : Int)))) ∧ ∃ n, w' = w1.drewN n) := tfh_any T g G D st (some ⟨GG, 0, none⟩) G w1 hgG hG2 hD2 c3 c5 c6
  have HBel : Hid (Below w.heap.size w w1) := hN.below
  have hlt := low_lt _ D (place_lt g G hgG hG2)
  have hyes : Hid (decide (g * 18446744073709551616 ≤ low (place g G) D * 2 ^ D * G) = true) := decide_eq_true (ceil_yes g G D (by omega))
  have hno : Hid (∀ l, low (place g G) D = l + 1 → decide (g * 18446744073709551616 ≤ l * 2 ^ D * G) = false) := fun l hl => decide_eq_false (ceil_no g G D l (by omega) hl)
  generalize low (place g G) D = L at *
  have e1 : IntKind.u64.wrap (IntKind.u64.wrap (st + (L : Int)) - st) = (L : Int) := by rw [IntKind.wrap_u64, IntKind.wrap_u64]; omega
  have A1 : Hid (∀ W, Calls Yba.prog 9 #[.int .u64 L, .int .i64 D, .int .u64 G, .int .u64 g] W fun e w' => e = .returned (.bool true) ∧ w' = W) := fun W => by
    have h := atleast_any L D G g W hlt hD2 hG2 (by omega)
    rw [hyes.out] at h
    exact h
  clear hN c3 c5 c6
  rcases L with _ | l
  · have HE' : Hid (Calls Yba.prog 8 #[.pointer (some ⟨T, 0, none⟩), .int .i64 g] w1 fun e w' => e = .returned (.int .u64 (IntKind.u64.wrap st)) ∧ ∃ n, w' = w1.drewN n) := by
      have h := HE.out
      rw [show st + ((0 : Nat) : Int) = st by omega] at h
      exact h
    have A1' : Hid (∀ W, Calls Yba.prog 9 #[.int .u64 0, .int .i64 D, .int .u64 G, .int .u64 g] W fun e w' => e = .returned (.bool true) ∧ w' = W) := A1
    have e1' : IntKind.u64.wrap (IntKind.u64.wrap st - st) = 0 := by rw [IntKind.wrap_u64, IntKind.wrap_u64]; omega
    clear HE A1 e1
    go_wp2_with fail
    refine HE'.out.mono ?_
    rintro e w2 ⟨rfl, n1, rfl⟩
    go_wp2_with fail
    refine (A1'.out _).mono ?_
    rintro e w2 ⟨rfl, rfl⟩
    go_wp2
    go_ret
    exact ⟨rfl, below_drewN HBel.out _⟩
  · have A2 : Hid (∀ W, Calls Yba.prog 9 #[.int .u64 l, .int .i64 D, .int .u64 G, .int .u64 g] W fun e w' => e = .returned (.bool false) ∧ w' = W) := fun W => by
      have h := atleast_any l D G g W (by omega) hD2 hG2 (by omega)
      rw [hno.out l rfl] at h
      exact h
    have hl0 : (((l : Int) + 1) == 0) = false := beq_eq_false_iff_ne.2 (by omega)
    have ec : ((l + 1 : Nat) : Int) = (l : Int) + 1 := by omega
    have HE' : Hid (Calls Yba.prog 8 #[.pointer (some ⟨T, 0, none⟩), .int .i64 g] w1 fun e w' => e = .returned (.int .u64 (IntKind.u64.wrap (st + ((l : Int) + 1)))) ∧ ∃ n, w' = w1.drewN n) := by
      have h := HE.out
      rw [ec] at h
      exact h
    have A1' : Hid (∀ W, Calls Yba.prog 9 #[.int .u64 ((l : Int) + 1), .int .i64 D, .int .u64 G, .int .u64 g] W fun e w' => e = .returned (.bool true) ∧ w' = W) := fun W => by
      have h := A1.out W
      rw [ec] at h
      exact h
    have e1' : IntKind.u64.wrap (IntKind.u64.wrap (st + ((l : Int) + 1)) - st) = (l : Int) + 1 := by rw [← ec]; exact e1
    clear HE A1 e1 ec hno hyes
    go_wp2_with fail
    refine HE'.out.mono ?_
    rintro e w2 ⟨rfl, n1, rfl⟩
    go_wp2_with fail
    refine (A1'.out _).mono ?_
    rintro e w2 ⟨rfl, rfl⟩
    go_wp2_with fail
    refine (A2.out _).mono ?_
    rintro e w2 ⟨rfl, rfl⟩
    go_wp2
    go_ret
    exact ⟨rfl, below_drewN HBel.out _⟩
end Go.Proofs.Ybulkbdtm
