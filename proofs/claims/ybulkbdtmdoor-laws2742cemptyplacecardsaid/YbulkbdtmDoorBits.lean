import Derived.Lib.BitFns
import Derived.Lib.ItoaNum
import Derived.Laws.Bits64b
/-! Plain numbers: words of eight bytes. No program here. -/
namespace Go.Proofs.YbulkbdtmDoor

/-! ### Words out of bytes -/
def ofBytes : List Nat → Nat
  | [] => 0
  | b :: r => b + 256 * ofBytes r
theorem step_and (a b r s : Nat) (ha : a < 256) (hb : b < 256) : (a + 256 * r) &&& (b + 256 * s) = (a &&& b) + 256 * (r &&& s) := by
  have h1 := @Nat.and_mod_two_pow (a + 256 * r) (b + 256 * s) 8
  have h2 := @Nat.and_div_two_pow (a + 256 * r) (b + 256 * s) 8
  rw [show (a + 256 * r) % 2 ^ 8 = a by omega, show (b + 256 * s) % 2 ^ 8 = b by omega] at h1
  rw [show (a + 256 * r) / 2 ^ 8 = r by omega, show (b + 256 * s) / 2 ^ 8 = s by omega] at h2
  omega
theorem step_or (a b r s : Nat) (ha : a < 256) (hb : b < 256) : (a + 256 * r) ||| (b + 256 * s) = (a ||| b) + 256 * (r ||| s) := by
  have h1 := @Nat.or_mod_two_pow (a + 256 * r) (b + 256 * s) 8
  have h2 := @Nat.or_div_two_pow (a + 256 * r) (b + 256 * s) 8
  rw [show (a + 256 * r) % 2 ^ 8 = a by omega, show (b + 256 * s) % 2 ^ 8 = b by omega] at h1
  rw [show (a + 256 * r) / 2 ^ 8 = r by omega, show (b + 256 * s) / 2 ^ 8 = s by omega] at h2
  omega
theorem step_xor (a b r s : Nat) (ha : a < 256) (hb : b < 256) : (a + 256 * r) ^^^ (b + 256 * s) = (a ^^^ b) + 256 * (r ^^^ s) := by
  have h1 := @Nat.xor_mod_two_pow (a + 256 * r) (b + 256 * s) 8
  have h2 := @Nat.xor_div_two_pow (a + 256 * r) (b + 256 * s) 8
  rw [show (a + 256 * r) % 2 ^ 8 = a by omega, show (b + 256 * s) % 2 ^ 8 = b by omega] at h1
  rw [show (a + 256 * r) / 2 ^ 8 = r by omega, show (b + 256 * s) / 2 ^ 8 = s by omega] at h2
  omega

/-- What matchFree makes of one byte. -/
def freeByte (b : Nat) : Nat := (((b &&& 126) + 126 ||| b) &&& 128) ^^^ 128
theorem freeByte_eq : ∀ b : Fin 256, freeByte b.val = if b.val < 2 then 128 else 0 := by decide +kernel
theorem and126 : ∀ b : Fin 256, b.val &&& 126 ≤ 126 := by decide +kernel
theorem or256 (a b : Nat) (ha : a < 256) (hb : b < 256) : a ||| b < 256 := @Nat.or_lt_two_pow a b 8 ha hb
theorem and128 : ∀ a : Fin 256, a.val &&& 128 < 256 := by decide +kernel

/-- matchFree, byte by byte. -/
def freeW : List Nat → Nat
  | [] => 0
  | b :: r => freeByte b + 256 * freeW r
def rep (x : Nat) : Nat → Nat
  | 0 => 0
  | n + 1 => x + 256 * rep x n
theorem free_word : ∀ l : List Nat, (∀ b ∈ l, b < 256) →
    ((((ofBytes l &&& rep 126 l.length) + rep 126 l.length) ||| ofBytes l) &&& rep 128 l.length) ^^^ rep 128 l.length = freeW l
  | [], _ => rfl
  | b :: r, h => by
    have ih := free_word r (fun x hx => h x (List.mem_cons_of_mem _ hx))
    have hb : b < 256 := h b (List.mem_cons_self ..)
    simp only [ofBytes, rep, List.length_cons, freeW]
    rw [step_and b 126 _ _ hb (by omega)]
    have h1 := and126 ⟨b, hb⟩
    dsimp only at h1
    have h2 := or256 ((b &&& 126) + 126) b (by omega) hb
    have e : (b &&& 126) + 256 * (ofBytes r &&& rep 126 r.length) + (126 + 256 * rep 126 r.length) = ((b &&& 126) + 126) + 256 * ((ofBytes r &&& rep 126 r.length) + rep 126 r.length) := by omega
    rw [e, step_or _ _ _ _ (by omega) hb, step_and _ 128 _ _ h2 (by omega), step_xor _ 128 _ _ (and128 ⟨_, h2⟩) (by omega), ih]
    rfl

theorem ofBytes8 (c : Nat) (h : c < 18446744073709551616) : c = ofBytes [c % 256, c / 256 % 256, c / 65536 % 256, c / 16777216 % 256, c / 4294967296 % 256, c / 1099511627776 % 256, c / 281474976710656 % 256, c / 72057594037927936 % 256] := by
  simp only [ofBytes]; omega

/-- The byte of slot k. -/
def byteAt (c k : Nat) : Nat := c / 256 ^ k % 256

/-! ### Sets of slots: a mask of eight bits, and the word that stands for it -/
def spreadTo (m : Nat) : Nat → Nat
  | 0 => 0
  | i + 1 => if m.testBit i then spreadTo m i ||| 2 ^ (8 * i + 7) else spreadTo m i
def spread (m : Nat) : Nat := spreadTo m 8
/-- The lowest set bit of m. -/
def tz (m : Nat) : Nat := if m.testBit 0 then 0 else if m.testBit 1 then 1 else if m.testBit 2 then 2 else if m.testBit 3 then 3 else if m.testBit 4 then 4 else if m.testBit 5 then 5 else if m.testBit 6 then 6 else 7
/-- The mask's bits from i on. -/
def hiM (m i : Nat) : Nat := m / 2 ^ i * 2 ^ i
def maskOf (f0 f1 f2 f3 f4 f5 f6 f7 : Bool) : Nat := f0.toNat + 2 * f1.toNat + 4 * f2.toNat + 8 * f3.toNat + 16 * f4.toNat + 32 * f5.toNat + 64 * f6.toNat + 128 * f7.toNat
/-- The free slots of a control word. -/
def freeM (c : Nat) : Nat := maskOf (decide (byteAt c 0 < 2)) (decide (byteAt c 1 < 2)) (decide (byteAt c 2 < 2)) (decide (byteAt c 3 < 2)) (decide (byteAt c 4 < 2)) (decide (byteAt c 5 < 2)) (decide (byteAt c 6 < 2)) (decide (byteAt c 7 < 2))

theorem spread_bytes : ∀ f0 f1 f2 f3 f4 f5 f6 f7 : Bool, spread (maskOf f0 f1 f2 f3 f4 f5 f6 f7) =
    f0.toNat * 128 + 256 * (f1.toNat * 128 + 256 * (f2.toNat * 128 + 256 * (f3.toNat * 128 + 256 * (f4.toNat * 128 + 256 * (f5.toNat * 128 + 256 * (f6.toNat * 128 + 256 * (f7.toNat * 128 + 256 * 0))))))) := by decide +kernel
theorem maskOf_lt : ∀ f0 f1 f2 f3 f4 f5 f6 f7 : Bool, maskOf f0 f1 f2 f3 f4 f5 f6 f7 < 256 := by decide +kernel
theorem freeM_lt (c : Nat) : freeM c < 256 := maskOf_lt ..
theorem freeByte_of (b : Nat) (h : b < 256) : freeByte b = (decide (b < 2)).toNat * 128 := by
  rw [freeByte_eq ⟨b, h⟩]
  by_cases h2 : b < 2 <;> simp [h2]
/-- ████ matchFree: the word of the free slots. -/
theorem match_free (c : Nat) (h : c < 18446744073709551616) : ((((c &&& 9114861777597660798) + 9114861777597660798) ||| c) &&& 9259542123273814144) ^^^ 9259542123273814144 = spread (freeM c) := by
  have e := free_word [c % 256, c / 256 % 256, c / 65536 % 256, c / 16777216 % 256, c / 4294967296 % 256, c / 1099511627776 % 256, c / 281474976710656 % 256, c / 72057594037927936 % 256] (by
    intro b hb
    simp only [List.mem_cons, List.not_mem_nil, or_false] at hb
    omega)
  rw [← ofBytes8 c h] at e
  have r1 : rep 126 8 = 9114861777597660798 := by decide
  have r2 : rep 128 8 = 9259542123273814144 := by decide
  simp only [List.length_cons, List.length_nil, Nat.zero_add, Nat.reduceAdd] at e
  rw [r1, r2] at e
  rw [e, freeM, spread_bytes]
  have b0 : byteAt c 0 = c % 256 := by unfold byteAt; omega
  have b1 : byteAt c 1 = c / 256 % 256 := by unfold byteAt; omega
  have b2 : byteAt c 2 = c / 65536 % 256 := by unfold byteAt; omega
  have b3 : byteAt c 3 = c / 16777216 % 256 := by unfold byteAt; omega
  have b4 : byteAt c 4 = c / 4294967296 % 256 := by unfold byteAt; omega
  have b5 : byteAt c 5 = c / 1099511627776 % 256 := by unfold byteAt; omega
  have b6 : byteAt c 6 = c / 281474976710656 % 256 := by unfold byteAt; omega
  have b7 : byteAt c 7 = c / 72057594037927936 % 256 := by unfold byteAt; omega
  rw [b0, b1, b2, b3, b4, b5, b6, b7]
  simp only [freeW]
  rw [freeByte_of _ (by omega), freeByte_of _ (by omega), freeByte_of _ (by omega), freeByte_of _ (by omega), freeByte_of _ (by omega), freeByte_of _ (by omega), freeByte_of _ (by omega), freeByte_of _ (by omega)]

/-! ### What holds of every mask -/
theorem spread_facts : ∀ m : Fin 256, m.val ≠ 0 → spread m.val &&& (18446744073709551616 - spread m.val) = 2 ^ (8 * tz m.val + 7) ∧ spread m.val ≠ 0 ∧ spread m.val < 18446744073709551616 ∧ tz m.val < 8 ∧ m.val.testBit (tz m.val) = true := by decide +kernel
theorem spread_lt : ∀ m : Fin 256, spread m.val < 18446744073709551616 := by decide +kernel
theorem tz_least : ∀ m : Fin 256, ∀ x : Fin 8, x.val < tz m.val → m.val.testBit x.val = false := by decide +kernel
theorem hiM_facts : ∀ m : Fin 256, ∀ i : Fin 9, hiM m.val i.val ≠ 0 → i.val ≤ tz (hiM m.val i.val) ∧ tz (hiM m.val i.val) < 8 ∧ m.val.testBit (tz (hiM m.val i.val)) = true ∧
    spread (hiM m.val i.val) &&& (spread (hiM m.val i.val) - 1) = spread (hiM m.val (tz (hiM m.val i.val) + 1)) ∧ hiM m.val i.val < 256 := by decide +kernel
theorem hiM_gap : ∀ m : Fin 256, ∀ i : Fin 9, hiM m.val i.val ≠ 0 → ∀ x : Fin 8, i.val ≤ x.val → x.val < tz (hiM m.val i.val) → m.val.testBit x.val = false := by decide +kernel
theorem hiM_none : ∀ m : Fin 256, ∀ i : Fin 9, hiM m.val i.val = 0 → ∀ x : Fin 8, i.val ≤ x.val → m.val.testBit x.val = false := by decide +kernel
theorem hiM_lt : ∀ m : Fin 256, ∀ i : Fin 9, hiM m.val i.val < 256 := by decide +kernel
theorem spread_zero : ∀ m : Fin 256, spread m.val = 0 → m.val = 0 := by decide +kernel
theorem hiM_zero (m : Nat) : hiM m 0 = m := by simp [hiM]
theorem bit_div : ∀ m : Fin 256, ∀ i : Fin 8, m.val / 2 ^ i.val % 2 = if m.val.testBit i.val then 1 else 0 := by decide +kernel
theorem maskOf_bits : ∀ f0 f1 f2 f3 f4 f5 f6 f7 : Bool, (maskOf f0 f1 f2 f3 f4 f5 f6 f7).testBit 0 = f0 ∧ (maskOf f0 f1 f2 f3 f4 f5 f6 f7).testBit 1 = f1 ∧ (maskOf f0 f1 f2 f3 f4 f5 f6 f7).testBit 2 = f2 ∧ (maskOf f0 f1 f2 f3 f4 f5 f6 f7).testBit 3 = f3 ∧
    (maskOf f0 f1 f2 f3 f4 f5 f6 f7).testBit 4 = f4 ∧ (maskOf f0 f1 f2 f3 f4 f5 f6 f7).testBit 5 = f5 ∧ (maskOf f0 f1 f2 f3 f4 f5 f6 f7).testBit 6 = f6 ∧ (maskOf f0 f1 f2 f3 f4 f5 f6 f7).testBit 7 = f7 := by decide +kernel
theorem freeM_bit (c k : Nat) (hk : k < 8) : (freeM c).testBit k = decide (byteAt c k < 2) := by
  have h := maskOf_bits (decide (byteAt c 0 < 2)) (decide (byteAt c 1 < 2)) (decide (byteAt c 2 < 2)) (decide (byteAt c 3 < 2)) (decide (byteAt c 4 < 2)) (decide (byteAt c 5 < 2)) (decide (byteAt c 6 < 2)) (decide (byteAt c 7 < 2))
  obtain ⟨h0, h1, h2, h3, h4, h5, h6, h7⟩ := h
  have hk' : k = 0 ∨ k = 1 ∨ k = 2 ∨ k = 3 ∨ k = 4 ∨ k = 5 ∨ k = 6 ∨ k = 7 := by omega
  rcases hk' with rfl | rfl | rfl | rfl | rfl | rfl | rfl | rfl
  · exact h0
  · exact h1
  · exact h2
  · exact h3
  · exact h4
  · exact h5
  · exact h6
  · exact h7
/-- The lowest free slot of a control word that has one. -/
theorem free_first (c : Nat) (h : freeM c ≠ 0) : tz (freeM c) < 8 ∧ byteAt c (tz (freeM c)) < 2 ∧ ∀ x, x < tz (freeM c) → ¬ byteAt c x < 2 := by
  obtain ⟨_, _, _, h1, h2⟩ := spread_facts ⟨freeM c, freeM_lt c⟩ h
  have h1' : tz (freeM c) < 8 := h1
  refine ⟨h1, ?_, fun x hx => ?_⟩
  · have := freeM_bit c (tz (freeM c)) h1
    rw [h2] at this
    exact of_decide_eq_true this.symm
  · have := tz_least ⟨freeM c, freeM_lt c⟩ ⟨x, by omega⟩ hx
    have h3 := freeM_bit c x (by omega)
    dsimp only at this
    rw [this] at h3
    exact of_decide_eq_false h3.symm
theorem free_none (c : Nat) (h : freeM c = 0) (k : Nat) (hk : k < 8) : ¬ byteAt c k < 2 := by
  have h3 := freeM_bit c k hk
  rw [h, Nat.zero_testBit] at h3
  exact of_decide_eq_false h3.symm
theorem free_some (c k : Nat) (hk : k < 8) (h : byteAt c k < 2) : freeM c ≠ 0 := fun e => free_none c e k hk h
/-- Which slot the lowest free one is. -/
theorem free_at (c k : Nat) (hk : k < 8) (h : byteAt c k < 2) (hl : ∀ x, x < k → ¬ byteAt c x < 2) : tz (freeM c) = k := by
  obtain ⟨_, h2, h3⟩ := free_first c (free_some c k hk h)
  rcases Nat.lt_trichotomy (tz (freeM c)) k with h4 | h4 | h4
  · exact absurd h2 (hl _ h4)
  · exact h4
  · exact absurd h (h3 _ h4)

/-! ### math/bits.TrailingZeros64's table -/
def tabL : List Int := [0, 1, 56, 2, 57, 49, 28, 3, 61, 58, 42, 50, 38, 29, 17, 4, 62, 47, 59, 36, 45, 43, 51, 22, 53, 39, 33, 30, 24, 18, 12, 5, 63, 55, 48, 27, 60, 41, 37, 16, 46, 35, 44, 21, 52, 32, 23, 11, 54, 26, 40, 15, 34, 20, 31, 10, 25, 14, 19, 9, 13, 8, 7, 6]
theorem tab_at : ∀ t : Fin 8, tabL.getD (2 ^ (8 * t.val + 7) * 285870213051353865 % 18446744073709551616 / 288230376151711744) 0 = 8 * (t.val : Int) + 7 := by decide +kernel
theorem tab_lt (x : Nat) : x % 18446744073709551616 / 288230376151711744 < 64 := by omega
end Go.Proofs.YbulkbdtmDoor
