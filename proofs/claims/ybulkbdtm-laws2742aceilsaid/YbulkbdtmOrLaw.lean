import Derived.Test.YbulkbdtmOrHash
namespace Go.Proofs.Ybulkbdtm
open Go.RowKit

/-! ### The plain law: rounding up keeps order -/
theorem cdiv_le (a b x : Nat) (hb : 0 < b) : (a / b + if a % b = 0 then 0 else 1) ≤ x ↔ a ≤ x * b := by
  have h := Nat.div_add_mod a b
  have hm := Nat.mod_lt a hb
  constructor
  · intro hx
    by_cases h0 : a % b = 0
    · rw [if_pos h0] at hx
      have : b * (a / b) ≤ b * x := Nat.mul_le_mul_left b hx
      rw [Nat.mul_comm x b]; omega
    · rw [if_neg h0] at hx
      have : b * (a / b + 1) ≤ b * x := Nat.mul_le_mul_left b hx
      rw [Nat.mul_add] at this
      rw [Nat.mul_comm x b]; omega
  · intro hx
    by_cases h0 : a % b = 0
    · rw [if_pos h0, Nat.add_zero]
      exact Nat.le_of_mul_le_mul_left (by rw [Nat.mul_comm b x]; omega) hb
    · rw [if_neg h0]
      have h2 : b * (a / b) < b * x := by rw [Nat.mul_comm b x]; omega
      have := Nat.lt_of_mul_lt_mul_left h2
      omega
theorem place_le (g G x : Nat) (hG : 0 < G) : place g G ≤ x ↔ g * 18446744073709551616 ≤ x * G := cdiv_le _ _ _ hG
theorem low_le (p d x : Nat) : low p d ≤ x ↔ p ≤ x * 2 ^ d := cdiv_le _ _ _ (Nat.pow_pos (by omega))
theorem place_mono (g G : Nat) (hG : 0 < G) : place g G ≤ place (g + 1) G := by
  have h := (place_le (g + 1) G _ hG).1 (Nat.le_refl _)
  have h2 : g * 18446744073709551616 ≤ (g + 1) * 18446744073709551616 := Nat.mul_le_mul_right _ (Nat.le_succ g)
  exact (place_le g G _ hG).2 (Nat.le_trans h2 h)
theorem low_mono (p q d : Nat) (h : p ≤ q) : low p d ≤ low q d := by
  rw [low_le]
  have := (low_le q d _).1 (Nat.le_refl _)
  omega

set_option maxHeartbeats 1000000 in
theorem build_any (n d : Int) (st : Int) (G D : Nat) (w : World) (hn0 : 0 ≤ n) (hn1 : n ≤ 65535) (hd0 : 0 ≤ d) (hd1 : d ≤ 255) (hG : n % 1024 + 1 = (G : Int)) (hD : d % 65 = (D : Int)) :
    Calls Yba.prog 7 #[.int .u16 n, .int .u8 d, .int .u64 st] w fun e w' => ∃ T C GG, e = .returned (.tuple #[.pointer (some ⟨T, 0, none⟩), .int .i64 G, .int .i64 D]) ∧ NewTab G D st w T C GG w' := by
  have hG2 : G ≤ 1024 := by omega
  have HC : Hid (∀ w, Calls Yba.prog 13 #[.int .i64 G, .int .i64 0, .int .i64 D, .int .u64 st] w fun e w' => ∃ T C GG, e = .returned (.pointer (some ⟨T, 0, none⟩)) ∧ NewTab G D st w T C GG w') := fun w => newTable_any G D st w hG2
  go_enter Yba.func7, Yba.ntmps7
  go_wp2_with (go_at_call 13; refine (HC.out _).mono ?_; rintro e w' ⟨T, C, GG, rfl, hN⟩)
  go_ret3
  exact ⟨T, C, GG, rfl, hN⟩

set_option maxHeartbeats 1000000 in
theorem order_core (n gx d st : Int) (G D g : Nat) (w : World) (hn0 : 0 ≤ n) (hn1 : n ≤ 65535) (hg0 : 0 ≤ gx) (hg1 : gx ≤ 65535) (hd0 : 0 ≤ d) (hd1 : d ≤ 255)
    (hG : n % 1024 + 1 = (G : Int)) (hD : d % 65 = (D : Int)) (h2 : 2 ≤ G) (hg : gx % ((G : Int) - 1) = (g : Int)) (hgG : g + 1 < G) :
    Calls Yba.prog 4 #[.int .u16 n, .int .u16 gx, .int .u8 d, .int .u64 st] w fun e w' => e = .returned (.bool true) ∧ Below w.heap.size w w' := by
  have hG2 : G ≤ 1024 := by omega
  have hD2 : D ≤ 64 := by omega
  have HB : Hid (n % 1024 + 1 = (G : Int) ∧ d % 65 = (D : Int)) := ⟨hG, hD⟩
  clear hG hD
  go_enter Yba.func4, Yba.ntmps4
  go_wp2_with fail
  refine (build_any n d st G D _ hn0 hn1 hd0 hd1 HB.out.1 HB.out.2).mono ?_
  rintro e w1 ⟨T, C, GG, rfl, hN⟩
  have c3 := hN.tab.cell (i := 3) (by omega)
  have c5 := hN.tab.cell (i := 5) (by omega)
  have c6 := hN.tab.cell (i := 6) (by omega)
  simp only [tabF, tabL] at c3 c5 c6
  have hbel := hN.below
  have hlt1 := low_lt _ D (place_lt g G (by omega) hG2)
  have hlt2 := low_lt _ D (place_lt (g + 1) G (by omega) hG2)
  have hmono := low_mono _ _ D (place_mono g G (by omega))
  have hc1 : Hid (∀ W : World, W.cell? ⟨T, 3, none⟩ = some (.slice (some ⟨GG, 0, none⟩) G G) → W.cell? ⟨T, 5, none⟩ = some (.int .i64 D) → W.cell? ⟨T, 6, none⟩ = some (.int .u64 st) →
      Calls Yba.prog 8 #[.pointer (some ⟨T, 0, none⟩), .int .i64 g] W fun e w' => e = .returned (.int .u64 (IntKind.u64.wrap (st + (low (place g G) D : Int)))) ∧ ∃ n, w' = W.drewN n) := fun W h3 h5 h6 => tfh_any T g G D st (some ⟨GG, 0, none⟩) G W (by omega) hG2 hD2 h3 h5 h6
  have hc2 : Hid (∀ W : World, W.cell? ⟨T, 3, none⟩ = some (.slice (some ⟨GG, 0, none⟩) G G) → W.cell? ⟨T, 5, none⟩ = some (.int .i64 D) → W.cell? ⟨T, 6, none⟩ = some (.int .u64 st) →
      Calls Yba.prog 8 #[.pointer (some ⟨T, 0, none⟩), .int .i64 ((g : Int) + 1)] W fun e w' => e = .returned (.int .u64 (IntKind.u64.wrap (st + (low (place (g + 1) G) D : Int)))) ∧ ∃ n, w' = W.drewN n) := fun W h3 h5 h6 => tfh_any T (g + 1) G D st (some ⟨GG, 0, none⟩) G W (by omega) hG2 hD2 h3 h5 h6
  generalize low (place g G) D = l1 at *
  generalize low (place (g + 1) G) D = l2 at *
  have e1 : IntKind.u64.wrap (IntKind.u64.wrap (st + (l1 : Int)) - st) = (l1 : Int) := by rw [IntKind.wrap_u64, IntKind.wrap_u64]; omega
  have e2 : IntKind.u64.wrap (IntKind.u64.wrap (st + (l2 : Int)) - st) = (l2 : Int) := by rw [IntKind.wrap_u64, IntKind.wrap_u64]; omega
  have HBel : Hid (Below w.heap.size w w1) := hbel
  have c3' : w1.cell? ⟨T, 3, none⟩ = some (.slice (some ⟨GG, 0, none⟩) G G) := c3
  have c5' : w1.cell? ⟨T, 5, none⟩ = some (.int .i64 D) := c5
  have c6' : w1.cell? ⟨T, 6, none⟩ = some (.int .u64 st) := c6
  have hle : (l1 : Int) ≤ (l2 : Int) := by omega
  clear hN hbel c3 c5 c6
  go_wp2_with fail
  refine (hc1.out _ (by exact c3') (by exact c5') (by exact c6')).mono ?_
  rintro e w2 ⟨rfl, n1, rfl⟩
  go_wp2_with fail
  refine (hc2.out _ (by exact c3') (by exact c5') (by exact c6')).mono ?_
  rintro e w2 ⟨rfl, n2, rfl⟩
  go_wp2
  go_ret
  exact ⟨rfl, below_drewN HBel.out _⟩

set_option maxHeartbeats 1000000 in
theorem order_one (n gx d st : Int) (G D : Nat) (w : World) (hn0 : 0 ≤ n) (hn1 : n ≤ 65535) (hd0 : 0 ≤ d) (hd1 : d ≤ 255)
    (hG : n % 1024 + 1 = (G : Int)) (hD : d % 65 = (D : Int)) (h2 : (G : Int) < 2) :
    Calls Yba.prog 4 #[.int .u16 n, .int .u16 gx, .int .u8 d, .int .u64 st] w fun e w' => e = .returned (.bool true) ∧ Below w.heap.size w w' := by
  have HB : Hid (n % 1024 + 1 = (G : Int) ∧ d % 65 = (D : Int)) := ⟨hG, hD⟩
  clear hG hD
  go_enter Yba.func4, Yba.ntmps4
  go_wp2_with fail
  refine (build_any n d st G D _ hn0 hn1 hd0 hd1 HB.out.1 HB.out.2).mono ?_
  rintro e w1 ⟨T, C, GG, rfl, hN⟩
  have HBel : Hid (Below w.heap.size w w1) := hN.below
  clear hN
  go_wp2
  go_ret
  exact ⟨rfl, HBel.out⟩
end Go.Proofs.Ybulkbdtm
