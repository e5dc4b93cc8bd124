import Derived.Test.YbulkbdtmDoorSmall
/-! Contracts of the functions on slot sets and control words. -/
namespace Go.Proofs.YbulkbdtmDoor
open Go.RowKit

/-- A key's fingerprint. -/
def fpOf (p : Nat) : Nat := if p % 256 < 2 then 2 else p % 256
theorem fpOf_range (p : Nat) : 2 ≤ fpOf p ∧ fpOf p < 256 := by unfold fpOf; split <;> omega

theorem cfp_any (p : Nat) (w : World) : Calls Ybad.prog 6 #[.int .u64 p] w fun e w' => e = .returned (.int .u8 (fpOf p)) ∧ w' = w := by
  have e1 : IntKind.u8.wrap (p : Int) = ((p % 256 : Nat) : Int) := by simp [IntKind.wrap, IntKind.bits, IntKind.signed]
  unfold fpOf
  generalize p % 256 = b at *
  by_cases h : b < 2
  · rw [if_pos h]
    go_enter Ybad.func6, Ybad.ntmps6
    go_wp2
    go_ret
    exact ⟨rfl, rfl⟩
  · rw [if_neg h]
    go_enter Ybad.func6, Ybad.ntmps6
    go_wp2
    go_ret
    exact ⟨rfl, rfl⟩

theorem fingerprint_any (p : Nat) (w : World) : Calls Ybad.prog 19 #[.int .u64 p] w fun e w' => e = .returned (.int .u8 (fpOf p)) ∧ w' = w := by
  have e1 : IntKind.u8.wrap (p : Int) = ((p % 256 : Nat) : Int) := by simp [IntKind.wrap, IntKind.bits, IntKind.signed]
  unfold fpOf
  generalize p % 256 = b at *
  go_enter Ybad.func19, Ybad.ntmps19
  go_wp2
  all_goals
    go_ret
    exact ⟨congrArg Ending.returned (congrArg (Value.int IntKind.u8) (show max (b : Int) 2 = _ by omega)), rfl⟩

/-- math/bits.TrailingZeros64's table, as its variable holds it. -/
def Tab (w : World) : Prop := ∀ j, j < 64 → w.cell? ⟨0, j, none⟩ = some (.int .u8 (tabL.getD j 0))

set_option maxHeartbeats 1000000 in
theorem tz64_core (x k idx : Nat) (w : World) (hx0 : ((x : Int) == 0) = false)
    (key : IntKind.u64.wrap (bits BinOp.and IntKind.u64 (x : Int) (IntKind.u64.wrap (-(x : Int))) * 285870213051353865) / 288230376151711744 = (idx : Int))
    (hi : idx < 64) (hk : k < 64) (hcell : w.cell? ⟨0, idx, none⟩ = some (.int .u8 k)) :
    Calls Ybad.prog 25 #[.int .u64 x] w fun e w' => e = .returned (.int .i64 k) ∧ w' = w := by
  go_enter Ybad.func25, Ybad.ntmps25
  go_wp2_with (simp only [key])
  go_ret
  exact ⟨rfl, rfl⟩
theorem tz64_key (x a : Nat) (hx : x < 18446744073709551616) (hx0 : x ≠ 0) (hlow : x &&& (18446744073709551616 - x) = a) :
    IntKind.u64.wrap (bits BinOp.and IntKind.u64 (x : Int) (IntKind.u64.wrap (-(x : Int))) * 285870213051353865) / 288230376151711744 = ((a * 285870213051353865 % 18446744073709551616 / 288230376151711744 : Nat) : Int) := by
  have e1 : IntKind.u64.wrap (-(x : Int)) = ((18446744073709551616 - x : Nat) : Int) := by rw [IntKind.wrap_u64]; omega
  rw [e1, bits_and_u64_nat x _ hx (by omega), hlow, IntKind.wrap_u64]
  omega
/-- slotSet.first of a set that is not empty: its lowest slot. -/
theorem first_any (m : Nat) (w : World) (hT : Tab w) (hm : m < 256) (h0 : m ≠ 0) :
    Calls Ybad.prog 17 #[.int .u64 (spread m)] w fun e w' => e = .returned (.int .i64 (tz m)) ∧ w' = w := by
  obtain ⟨h1, h2, h3, h4, _⟩ := spread_facts ⟨m, hm⟩ h0
  dsimp only at h1 h2 h3 h4
  have ht := tab_at ⟨tz m, h4⟩
  dsimp only at ht
  have hc := hT _ (tab_lt (2 ^ (8 * tz m + 7) * 285870213051353865))
  rw [ht] at hc
  have HZ : Hid (∀ w', w' = w → Calls Ybad.prog 25 #[.int .u64 (spread m)] w' fun e w'' => e = .returned (.int .i64 ((8 * tz m + 7 : Nat) : Int)) ∧ w'' = w') := fun w' h => by
    subst h
    exact tz64_core (spread m) (8 * tz m + 7) _ w' (by simp; omega) (tz64_key _ _ h3 h2 h1) (tab_lt _) (by omega) (by simpa using hc)
  generalize spread m = x at *
  generalize tz m = t at *
  clear ht hc h1
  go_enter Ybad.func17, Ybad.ntmps17
  go_wp2_with (go_at_call 25; refine (HZ.out _ rfl).mono ?_; rintro e w' ⟨rfl, rfl⟩)
  go_ret
  exact ⟨congrArg Ending.returned (congrArg (Value.int IntKind.i64) (show (8 * (t : Int) + 7) / 8 = (t : Int) by omega)), rfl⟩

theorem dropFirst_any (x : Nat) (w : World) (h0 : x ≠ 0) (hx : x < 18446744073709551616) :
    Calls Ybad.prog 16 #[.int .u64 x] w fun e w' => e = .returned (.int .u64 ((x &&& (x - 1) : Nat) : Int)) ∧ w' = w := by
  have e1 : IntKind.u64.wrap ((x : Int) - 1) = ((x - 1 : Nat) : Int) := by rw [IntKind.wrap_u64]; omega
  have e2 := bits_and_u64_nat x (x - 1) hx (by omega)
  generalize x &&& (x - 1) = r at *
  generalize x - 1 = y at *
  go_enter Ybad.func16, Ybad.ntmps16
  go_wp2
  go_ret
  exact ⟨rfl, rfl⟩

theorem matchFull_any (c : Nat) (w : World) (hc : c < 18446744073709551616) :
    Calls Ybad.prog 30 #[.int .u64 c] w fun e w' => e = .returned (.int .u64 ((((c &&& 9114861777597660798) + 9114861777597660798) ||| c) &&& 9259542123273814144 : Nat)) ∧ w' = w := by
  obtain ⟨a, ha⟩ : ∃ a, a = c &&& 9114861777597660798 := ⟨_, rfl⟩
  have hale : a ≤ 9114861777597660798 := by rw [ha]; exact Nat.and_le_right
  have e1 : bits BinOp.and IntKind.u64 (c : Int) 9114861777597660798 = (a : Int) := by rw [ha]; exact bits_and_u64_nat c 9114861777597660798 hc (by omega)
  obtain ⟨b, hb⟩ : ∃ b, b = a + 9114861777597660798 := ⟨_, rfl⟩
  have e2 : IntKind.u64.wrap ((a : Int) + 9114861777597660798) = (b : Int) := by rw [IntKind.wrap_u64]; omega
  obtain ⟨o, ho⟩ : ∃ o, o = b ||| c := ⟨_, rfl⟩
  have hol : o < 18446744073709551616 := by rw [ho]; exact @Nat.or_lt_two_pow b c 64 (by omega) hc
  have e3 : bits BinOp.or IntKind.u64 (b : Int) (c : Int) = (o : Int) := by rw [ho]; exact bits_or_u64_nat b c (by omega) hc
  obtain ⟨r, hr⟩ : ∃ r, r = o &&& 9259542123273814144 := ⟨_, rfl⟩
  have e4 : bits BinOp.and IntKind.u64 (o : Int) 9259542123273814144 = (r : Int) := by rw [hr]; exact bits_and_u64_nat o 9259542123273814144 hol (by omega)
  rw [← ha, ← hb, ← ho, ← hr]
  clear ha hb ho hr
  go_enter Ybad.func30, Ybad.ntmps30
  go_wp2
  go_ret
  exact ⟨rfl, rfl⟩

theorem matchFree_any (c : Nat) (w : World) (hc : c < 18446744073709551616) :
    Calls Ybad.prog 23 #[.int .u64 c] w fun e w' => e = .returned (.int .u64 (spread (freeM c) : Nat)) ∧ w' = w := by
  have hm := match_free c hc
  have HF : Hid (∀ w, Calls Ybad.prog 30 #[.int .u64 c] w fun e w' => e = .returned (.int .u64 ((((c &&& 9114861777597660798) + 9114861777597660798) ||| c) &&& 9259542123273814144 : Nat)) ∧ w' = w) := fun w => matchFull_any c w hc
  obtain ⟨f, hf⟩ : ∃ f, f = (((c &&& 9114861777597660798) + 9114861777597660798) ||| c) &&& 9259542123273814144 := ⟨_, rfl⟩
  have hfl : f < 18446744073709551616 := by rw [hf]; exact Nat.lt_of_le_of_lt Nat.and_le_right (by omega)
  rw [← hf] at hm HF
  have e1 : bits BinOp.xor IntKind.u64 (f : Int) 9259542123273814144 = ((spread (freeM c) : Nat) : Int) := by rw [← hm]; exact bits_xor_u64_nat f 9259542123273814144 hfl (by omega)
  generalize spread (freeM c) = r at *
  clear hm hf
  go_enter Ybad.func23, Ybad.ntmps23
  go_wp2_with (go_at_call 30; refine (HF.out _).mono ?_; rintro e w' ⟨rfl, rfl⟩)
  go_ret
  exact ⟨rfl, rfl⟩

/-- A control word with the byte of slot k set to b. -/
def withB (c k b : Nat) : Int := bits BinOp.or IntKind.u64 (bits BinOp.andNot IntKind.u64 (c : Int) (IntKind.u64.wrap (255 * 2 ^ (8 * k)))) (IntKind.u64.wrap ((b : Int) * 2 ^ (8 * k)))
def withN (c k b : Nat) : Nat := (withB c k b).toNat
theorem bits_or_range (x y : Int) : 0 ≤ bits BinOp.or IntKind.u64 x y ∧ bits BinOp.or IntKind.u64 x y < 18446744073709551616 := by
  show 0 ≤ IntKind.u64.wrap ((BitVec.ofInt 64 x ||| BitVec.ofInt 64 y).toNat : Int) ∧ IntKind.u64.wrap ((BitVec.ofInt 64 x ||| BitVec.ofInt 64 y).toNat : Int) < 18446744073709551616
  rw [IntKind.wrap_u64]
  omega
theorem withN_eq (c k b : Nat) : bits BinOp.or IntKind.u64 (bits BinOp.andNot IntKind.u64 (c : Int) (IntKind.u64.wrap (255 * 2 ^ (8 * k)))) (IntKind.u64.wrap ((b : Int) * 2 ^ (8 * k))) = (withN c k b : Int) := by
  have h := bits_or_range (bits BinOp.andNot IntKind.u64 (c : Int) (IntKind.u64.wrap (255 * 2 ^ (8 * k)))) (IntKind.u64.wrap ((b : Int) * 2 ^ (8 * k)))
  unfold withN withB
  omega
theorem withN_lt (c k b : Nat) : withN c k b < 18446744073709551616 := by
  have h := bits_or_range (bits BinOp.andNot IntKind.u64 (c : Int) (IntKind.u64.wrap (255 * 2 ^ (8 * k)))) (IntKind.u64.wrap ((b : Int) * 2 ^ (8 * k)))
  unfold withN withB
  omega

set_option maxHeartbeats 1000000 in
theorem with_any (c k b : Nat) (w : World) (hk : k < 8) (hb : b < 256) :
    Calls Ybad.prog 24 #[.int .u64 c, .int .i64 k, .int .u8 b] w fun e w' => e = .returned (.int .u64 (withN c k b)) ∧ w' = w := by
  have hk8 : k % 8 = k := by omega
  have e1 := withN_eq c k b
  generalize withN c k b = r at *
  go_enter Ybad.func24, Ybad.ntmps24
  go_wp2
  go_ret
  exact ⟨rfl, rfl⟩

theorem onlySlot_any (i : Nat) (w : World) (hi : i < 8) : Calls Ybad.prog 14 #[.int .i64 i] w fun e w' => e = .returned (.int .u64 ((2 ^ (8 * i + 7) : Nat) : Int)) ∧ w' = w := by
  have hi8 : i % 8 = i := by omega
  have hp : 2 ^ (8 * i + 7) < 18446744073709551616 := by
    have : 2 ^ (8 * i + 7) ≤ 2 ^ 63 := Nat.pow_le_pow_right (by omega) (by omega)
    have e : (2 : Nat) ^ 63 = 9223372036854775808 := rfl
    omega
  have e1 : IntKind.u64.wrap (2 ^ (8 * i + 7)) = ((2 ^ (8 * i + 7) : Nat) : Int) := by
    have e : (2 : Int) ^ (8 * i + 7) = ((2 ^ (8 * i + 7) : Nat) : Int) := by simp
    rw [e]; exact wrapLt _ hp
  have e2 : IntKind.u64.wrap (2 ^ (8 * (i % 8) + 7)) = ((2 ^ (8 * i + 7) : Nat) : Int) := by rw [hi8]; exact e1
  generalize 2 ^ (8 * i + 7) = r at *
  go_enter Ybad.func14, Ybad.ntmps14
  go_wp2
  go_ret
  exact ⟨congrArg Ending.returned (congrArg (Value.int IntKind.u64) e2), rfl⟩

theorem len_close (t : Int) (B X : Nat) (hB : B ≤ 8) (h0 : 0 ≤ t) (ht : t ≤ 56) (h : (X : Int) = t + B) : wrap64 (t + wrap64 (B : Int)) = (X : Int) := by
  simp only [wrap64]; omega
theorem len_close0 (B X : Nat) (hB : B ≤ 8) (h : X = B) : wrap64 (wrap64 (B : Int)) = (X : Int) := by
  simp only [wrap64]; omega

set_option maxHeartbeats 1000000 in
theorem len64_0 (x : Int) (w : World) (h0 : 0 ≤ x) (h1 : x < 256) : Calls Ybad.prog 18 #[.int .u64 x] w fun e w' => e = .returned (.int .i64 (Lib.bitLen x.toNat)) ∧ w' = w := by
  have hx1 : x ≤ 255 := by omega
  have hx0 : 0 ≤ x := by omega
  have HL : Hid (Lib.len8 (x) = (Lib.bitLen (x).toNat : Int)) := Lib.len8_of (x) hx0 hx1
  have l := Lib.bitLen_le8' (x) hx0 hx1
  go_enter Ybad.func18, Ybad.ntmps18
  go_wp2
  go_ret
  refine ⟨congrArg Ending.returned (congrArg (Value.int IntKind.i64) ?_), rfl⟩
  rw [HL.out]
  exact len_close0 _ _ l rfl

set_option maxHeartbeats 1000000 in
theorem len64_1 (x : Int) (w : World) (h0 : 256 ≤ x) (h1 : x < 65536) : Calls Ybad.prog 18 #[.int .u64 x] w fun e w' => e = .returned (.int .i64 (Lib.bitLen x.toNat)) ∧ w' = w := by
  have hx1 : x / 256 ≤ 255 := by omega
  have hx0 : 0 ≤ x / 256 := by omega
  have HL : Hid (Lib.len8 (x / 256) = (Lib.bitLen (x / 256).toNat : Int)) := Lib.len8_of (x / 256) hx0 hx1
  have l := Lib.bitLen_le8' (x / 256) hx0 hx1
  have e : (x / 256).toNat = x.toNat / 256 := by omega
  have HS : Hid (Lib.bitLen x.toNat = 8 + Lib.bitLen (x / 256).toNat) := by rw [e]; exact Lib.bitLen_shift8 x.toNat (by omega) (by omega)
  clear e
  go_enter Ybad.func18, Ybad.ntmps18
  go_wp2
  go_ret
  refine ⟨congrArg Ending.returned (congrArg (Value.int IntKind.i64) ?_), rfl⟩
  rw [HL.out]
  refine len_close 8 _ _ l (by decide) (by decide) ?_
  rw [HS.out]
  exact Int.natCast_add _ _

set_option maxHeartbeats 1000000 in
theorem len64_2 (x : Int) (w : World) (h0 : 65536 ≤ x) (h1 : x < 16777216) : Calls Ybad.prog 18 #[.int .u64 x] w fun e w' => e = .returned (.int .i64 (Lib.bitLen x.toNat)) ∧ w' = w := by
  have hx1 : x / 65536 ≤ 255 := by omega
  have hx0 : 0 ≤ x / 65536 := by omega
  have HL : Hid (Lib.len8 (x / 65536) = (Lib.bitLen (x / 65536).toNat : Int)) := Lib.len8_of (x / 65536) hx0 hx1
  have l := Lib.bitLen_le8' (x / 65536) hx0 hx1
  have e : (x / 65536).toNat = x.toNat / 65536 := by omega
  have HS : Hid (Lib.bitLen x.toNat = 16 + Lib.bitLen (x / 65536).toNat) := by rw [e]; exact Lib.bitLen_shift16 x.toNat (by omega) (by omega)
  clear e
  go_enter Ybad.func18, Ybad.ntmps18
  go_wp2
  go_ret
  refine ⟨congrArg Ending.returned (congrArg (Value.int IntKind.i64) ?_), rfl⟩
  rw [HL.out]
  refine len_close 16 _ _ l (by decide) (by decide) ?_
  rw [HS.out]
  exact Int.natCast_add _ _

set_option maxHeartbeats 1000000 in
theorem len64_3 (x : Int) (w : World) (h0 : 16777216 ≤ x) (h1 : x < 4294967296) : Calls Ybad.prog 18 #[.int .u64 x] w fun e w' => e = .returned (.int .i64 (Lib.bitLen x.toNat)) ∧ w' = w := by
  have hx1 : x / 65536 / 256 ≤ 255 := by omega
  have hx0 : 0 ≤ x / 65536 / 256 := by omega
  have HL : Hid (Lib.len8 (x / 65536 / 256) = (Lib.bitLen (x / 65536 / 256).toNat : Int)) := Lib.len8_of (x / 65536 / 256) hx0 hx1
  have l := Lib.bitLen_le8' (x / 65536 / 256) hx0 hx1
  have e : (x / 65536 / 256).toNat = x.toNat / 16777216 := by omega
  have HS : Hid (Lib.bitLen x.toNat = 24 + Lib.bitLen (x / 65536 / 256).toNat) := by rw [e]; exact Lib.bitLen_shift24 x.toNat (by omega) (by omega)
  clear e
  go_enter Ybad.func18, Ybad.ntmps18
  go_wp2
  go_ret
  refine ⟨congrArg Ending.returned (congrArg (Value.int IntKind.i64) ?_), rfl⟩
  rw [HL.out]
  refine len_close 24 _ _ l (by decide) (by decide) ?_
  rw [HS.out]
  exact Int.natCast_add _ _

set_option maxHeartbeats 1000000 in
theorem len64_4 (x : Int) (w : World) (h0 : 4294967296 ≤ x) (h1 : x < 1099511627776) : Calls Ybad.prog 18 #[.int .u64 x] w fun e w' => e = .returned (.int .i64 (Lib.bitLen x.toNat)) ∧ w' = w := by
  have hx1 : x / 4294967296 ≤ 255 := by omega
  have hx0 : 0 ≤ x / 4294967296 := by omega
  have HL : Hid (Lib.len8 (x / 4294967296) = (Lib.bitLen (x / 4294967296).toNat : Int)) := Lib.len8_of (x / 4294967296) hx0 hx1
  have l := Lib.bitLen_le8' (x / 4294967296) hx0 hx1
  have e : (x / 4294967296).toNat = x.toNat / 4294967296 := by omega
  have HS : Hid (Lib.bitLen x.toNat = 32 + Lib.bitLen (x / 4294967296).toNat) := by rw [e]; exact Lib.bitLen_shift32 x.toNat (by omega) (by omega)
  clear e
  go_enter Ybad.func18, Ybad.ntmps18
  go_wp2
  go_ret
  refine ⟨congrArg Ending.returned (congrArg (Value.int IntKind.i64) ?_), rfl⟩
  rw [HL.out]
  refine len_close 32 _ _ l (by decide) (by decide) ?_
  rw [HS.out]
  exact Int.natCast_add _ _

set_option maxHeartbeats 1000000 in
theorem len64_5 (x : Int) (w : World) (h0 : 1099511627776 ≤ x) (h1 : x < 281474976710656) : Calls Ybad.prog 18 #[.int .u64 x] w fun e w' => e = .returned (.int .i64 (Lib.bitLen x.toNat)) ∧ w' = w := by
  have hx1 : x / 4294967296 / 256 ≤ 255 := by omega
  have hx0 : 0 ≤ x / 4294967296 / 256 := by omega
  have HL : Hid (Lib.len8 (x / 4294967296 / 256) = (Lib.bitLen (x / 4294967296 / 256).toNat : Int)) := Lib.len8_of (x / 4294967296 / 256) hx0 hx1
  have l := Lib.bitLen_le8' (x / 4294967296 / 256) hx0 hx1
  have e : (x / 4294967296 / 256).toNat = x.toNat / 1099511627776 := by omega
  have HS : Hid (Lib.bitLen x.toNat = 40 + Lib.bitLen (x / 4294967296 / 256).toNat) := by rw [e]; exact Lib.bitLen_shift40 x.toNat (by omega) (by omega)
  clear e
  go_enter Ybad.func18, Ybad.ntmps18
  go_wp2
  go_ret
  refine ⟨congrArg Ending.returned (congrArg (Value.int IntKind.i64) ?_), rfl⟩
  rw [HL.out]
  refine len_close 40 _ _ l (by decide) (by decide) ?_
  rw [HS.out]
  exact Int.natCast_add _ _

set_option maxHeartbeats 1000000 in
theorem len64_6 (x : Int) (w : World) (h0 : 281474976710656 ≤ x) (h1 : x < 72057594037927936) : Calls Ybad.prog 18 #[.int .u64 x] w fun e w' => e = .returned (.int .i64 (Lib.bitLen x.toNat)) ∧ w' = w := by
  have hx1 : x / 4294967296 / 65536 ≤ 255 := by omega
  have hx0 : 0 ≤ x / 4294967296 / 65536 := by omega
  have HL : Hid (Lib.len8 (x / 4294967296 / 65536) = (Lib.bitLen (x / 4294967296 / 65536).toNat : Int)) := Lib.len8_of (x / 4294967296 / 65536) hx0 hx1
  have l := Lib.bitLen_le8' (x / 4294967296 / 65536) hx0 hx1
  have e : (x / 4294967296 / 65536).toNat = x.toNat / 281474976710656 := by omega
  have HS : Hid (Lib.bitLen x.toNat = 48 + Lib.bitLen (x / 4294967296 / 65536).toNat) := by rw [e]; exact Lib.bitLen_shift48 x.toNat (by omega) (by omega)
  clear e
  go_enter Ybad.func18, Ybad.ntmps18
  go_wp2
  go_ret
  refine ⟨congrArg Ending.returned (congrArg (Value.int IntKind.i64) ?_), rfl⟩
  rw [HL.out]
  refine len_close 48 _ _ l (by decide) (by decide) ?_
  rw [HS.out]
  exact Int.natCast_add _ _

/-- math/bits.Len64 of a word of at most seven bytes, walked as the library's text stands in this dump. -/
theorem len64_any (x : Int) (w : World) (h0 : 0 ≤ x) (h1 : x < 72057594037927936) : Calls Ybad.prog 18 #[.int .u64 x] w fun e w' => e = .returned (.int .i64 (Lib.bitLen x.toNat)) ∧ w' = w := by
  by_cases g0 : x < 256
  · exact len64_0 x w (by omega) g0
  by_cases g1 : x < 65536
  · exact len64_1 x w (by omega) g1
  by_cases g2 : x < 16777216
  · exact len64_2 x w (by omega) g2
  by_cases g3 : x < 4294967296
  · exact len64_3 x w (by omega) g3
  by_cases g4 : x < 1099511627776
  · exact len64_4 x w (by omega) g4
  by_cases g5 : x < 281474976710656
  · exact len64_5 x w (by omega) g5
  exact len64_6 x w (by omega) h1
end Go.Proofs.YbulkbdtmDoor
