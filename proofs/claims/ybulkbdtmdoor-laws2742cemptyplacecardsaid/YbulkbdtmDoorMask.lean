import Derived.Test.YbulkbdtmDoorSlots
namespace Go.Proofs.YbulkbdtmDoor
open Go.RowKit

theorem and1_u8' : ∀ a : Fin 256, bits BinOp.and IntKind.u8 (a.val : Int) 1 = ((a.val % 2 : Nat) : Int) := by decide +kernel
/-- The bit i of a mask, as the laws ask for it. -/
theorem bit_u8 (m i : Nat) (hm : m < 256) (hi : i < 8) : bits BinOp.and IntKind.u8 ((m : Int) / 2 ^ i) 1 = if m.testBit i then 1 else 0 := by
  have e : (m : Int) / 2 ^ i = ((m / 2 ^ i : Nat) : Int) := by simp
  have hl : m / 2 ^ i < 256 := Nat.lt_of_le_of_lt (Nat.div_le_self _ _) hm
  rw [e, and1_u8' ⟨m / 2 ^ i, hl⟩]
  have := bit_div ⟨m, hm⟩ ⟨i, hi⟩
  dsimp only at this ⊢
  rw [this]
  split <;> rfl
theorem spreadTo_lt : ∀ m : Fin 256, ∀ i : Fin 9, spreadTo m.val i.val < 18446744073709551616 := by decide +kernel

set_option maxHeartbeats 1000000 in
theorem cmask_any (m : Nat) (w : World) (hm : m < 256) : Calls Ybad.prog 9 #[.int .u8 m] w fun e w' => e = .returned (.int .u64 (spread m)) ∧ w' = w := by
  go_enter Ybad.func9, Ybad.ntmps9
  go_wp2_with fail
  go_loop [3, 4] (fun s i => ∃ k : Nat, k ≤ 8 ∧ i = .int .i64 k ∧ s = .int .u64 (spreadTo m k)) (fun _ i => 8 - (intOf i).toNat)
  case atStart => exact ⟨0, Nat.zero_le _, rfl, rfl⟩
  case round =>
    obtain ⟨k, hk, rfl, rfl⟩ := hrel
    by_cases hlt : k < 8
    · have hb := bit_u8 m k hm hlt
      have hs1 := spreadTo_lt ⟨m, hm⟩ ⟨k, by omega⟩
      have hs2 := spreadTo_lt ⟨m, hm⟩ ⟨k + 1, by omega⟩
      dsimp only at hs1 hs2
      by_cases ht : m.testBit k = true
      · rw [if_pos ht] at hb
        have HS : Hid (spreadTo m (k + 1) = spreadTo m k ||| 2 ^ (8 * k + 7)) := by show spreadTo m (k + 1) = _; rw [spreadTo, if_pos ht]
        have hp : 2 ^ (8 * k + 7) < 18446744073709551616 := by
          have : 2 ^ (8 * k + 7) ≤ 2 ^ 63 := Nat.pow_le_pow_right (by omega) (by omega)
          have e : (2 : Nat) ^ 63 = 9223372036854775808 := rfl
          omega
        have e1 : bits BinOp.or IntKind.u64 (spreadTo m k : Int) ((2 ^ (8 * k + 7) : Nat) : Int) = ((spreadTo m (k + 1) : Nat) : Int) := by rw [HS.out]; exact bits_or_u64_nat _ _ hs1 hp
        have HO : Hid (∀ w, Calls Ybad.prog 14 #[.int .i64 k] w fun e w' => e = .returned (.int .u64 ((2 ^ (8 * k + 7) : Nat) : Int)) ∧ w' = w) := fun w => onlySlot_any k w hlt
        generalize 2 ^ (8 * k + 7) = r at *
        clear HS ht
        go_wp2_with (go_at_call 14; refine (HO.out _).mono ?_; rintro e w' ⟨rfl, rfl⟩)
        go_round
        case rel => exact ⟨k + 1, by omega, by go_num, rfl⟩
        case measure => simp [intOf]; omega
      · rw [if_neg ht] at hb
        have HS : Hid (spreadTo m (k + 1) = spreadTo m k) := by show spreadTo m (k + 1) = _; rw [spreadTo, if_neg ht]
        clear ht
        go_wp2
        go_round
        case rel => exact ⟨k + 1, by omega, by go_num, by rw [HS.out]⟩
        case measure => simp [intOf]; omega
    · obtain rfl : k = 8 := by omega
      go_wp2
      go_ret
      exact ⟨rfl, rfl⟩
end Go.Proofs.YbulkbdtmDoor
