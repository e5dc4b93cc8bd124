import Derived.Test.YbulkbdtmDoorModel
import Derived.Laws.BitsAllLaws
import Derived.Laws.Bits64b
import Derived.Lib.ItoaNum
/-! A word whose first q bytes are full and whose others are zero: its lowest free slot is q, its length in bits rounds up to 8 q. -/
namespace Go.Proofs.YbulkbdtmDoor
open Go.RowKit

def Filled (c q : Nat) : Prop := c < 256 ^ q ∧ ∀ t, t < q → 2 ≤ byteAt c t

theorem filled_zero : Filled 0 0 := ⟨by decide, fun t ht => absurd ht (by omega)⟩

theorem byteAt_high {c q : Nat} (h : c < 256 ^ q) : byteAt c q = 0 := by
  unfold byteAt
  rw [Nat.div_eq_of_lt h]

theorem filled_free {c q : Nat} (h : Filled c q) (hq : q < 8) : freeM c ≠ 0 ∧ tz (freeM c) = q := by
  have e := byteAt_high h.1
  exact ⟨free_some c q hq (by omega), free_at c q hq (by omega) (fun x hx => by have := h.2 x hx; omega)⟩

theorem pow256 (q : Nat) : (256 : Nat) ^ q = 2 ^ (8 * q) := by rw [show (256 : Nat) = 2 ^ 8 from rfl, ← Nat.pow_mul]

theorem filled_lt {c q : Nat} (h : Filled c q) (hq : q < 8) : c < 72057594037927936 := by
  have : (256 : Nat) ^ q ≤ 256 ^ 7 := Nat.pow_le_pow_right (by omega) (by omega)
  have e : (256 : Nat) ^ 7 = 72057594037927936 := by decide
  have := h.1
  omega

theorem and_low (c k Y : Nat) (hc : c < 2 ^ k) (hY : Y % 2 ^ k = 2 ^ k - 1) : c &&& Y = c := by
  have h1 : c &&& Y < 2 ^ k := Nat.lt_of_le_of_lt Nat.and_le_left hc
  rw [← Nat.mod_eq_of_lt h1, Nat.and_mod_two_pow, hY, Nat.mod_eq_of_lt hc, Nat.and_two_pow_sub_one_eq_mod, Nat.mod_eq_of_lt hc]

theorem low_mask : ∀ q : Fin 8, (18446744073709551615 - 255 * 2 ^ (8 * q.val)) % 2 ^ (8 * q.val) = 2 ^ (8 * q.val) - 1 := by decide +kernel
theorem top_lt : ∀ q : Fin 8, 255 * 2 ^ (8 * q.val) < 18446744073709551616 := by decide +kernel

theorem bits_or_new {c q b : Nat} (h : Filled c q) (hq : q < 8) (hb : b < 256) : bits BinOp.or IntKind.u64 (c : Int) (IntKind.u64.wrap ((b : Int) * 2 ^ (8 * q))) = ((c + b * 256 ^ q : Nat) : Int) := by
  have hc := h.1
  have ht := top_lt ⟨q, hq⟩
  dsimp only at ht
  have hbl : b * 2 ^ (8 * q) ≤ 255 * 2 ^ (8 * q) := Nat.mul_le_mul_right _ (by omega)
  have e1 : ((b : Int) * 2 ^ (8 * q)) = ((b * 2 ^ (8 * q) : Nat) : Int) := by simp
  have hcl := filled_lt h hq
  rw [e1, wrapLt _ (by omega), bits_or_u64_nat _ _ (by omega) (by omega)]
  congr 1
  rw [pow256] at hc ⊢
  rw [Nat.or_comm, ← Nat.shiftLeft_eq, ← Nat.shiftLeft_add_eq_or_of_lt hc, Nat.add_comm]

theorem withN_new {c q b : Nat} (h : Filled c q) (hq : q < 8) (hb : b < 256) : withN c q b = c + b * 256 ^ q := by
  have e := withN_eq c q b
  have ht := top_lt ⟨q, hq⟩
  have hm := low_mask ⟨q, hq⟩
  dsimp only at ht hm
  have hcl := filled_lt h hq
  have e1 : ((255 : Int) * 2 ^ (8 * q)) = ((255 * 2 ^ (8 * q) : Nat) : Int) := by simp
  have hc := h.1
  rw [pow256] at hc
  rw [e1, wrapLt _ ht, u64_andNot_nat _ _ (by omega) ht, and_low c (8 * q) _ hc hm, bits_or_new h hq hb] at e
  exact_mod_cast e.symm

theorem byteAt_new {c q b : Nat} (hc : c < 256 ^ q) (hb : b < 256) (t : Nat) (ht : t ≤ q) : byteAt (c + b * 256 ^ q) t = if t = q then b else byteAt c t := by
  unfold byteAt
  by_cases e : t = q
  · subst e
    rw [if_pos rfl, Nat.add_mul_div_right _ _ (Nat.pow_pos (by omega)), Nat.div_eq_of_lt hc, Nat.zero_add, Nat.mod_eq_of_lt hb]
  · rw [if_neg e]
    obtain ⟨r, rfl⟩ : ∃ r, q = t + 1 + r := ⟨q - (t + 1), by omega⟩
    rw [show b * 256 ^ (t + 1 + r) = (b * 256 ^ r * 256) * 256 ^ t by rw [Nat.pow_add, Nat.pow_add]; simp only [Nat.pow_one]; ac_rfl, Nat.add_mul_div_right _ _ (Nat.pow_pos (by omega)), Nat.add_mul_mod_self_right]

theorem filled_next {c q b : Nat} (h : Filled c q) (hq : q < 8) (hb : b < 256) (hb2 : 2 ≤ b) : Filled (withN c q b) (q + 1) := by
  rw [withN_new h hq hb]
  have hc := h.1
  refine ⟨?_, fun t ht => ?_⟩
  · have hp : b * 256 ^ q ≤ 255 * 256 ^ q := Nat.mul_le_mul_right _ (by omega)
    rw [Nat.pow_succ]
    omega
  · rw [byteAt_new hc hb t (by omega)]
    split
    · exact hb2
    · exact h.2 t (by omega)

theorem filled_or {c q b : Nat} (h : Filled c q) (hq : q < 8) (hb : b < 256) : bits BinOp.or IntKind.u64 (c : Int) (IntKind.u64.wrap ((b : Int) * 2 ^ (8 * q))) = (withN c q b : Int) := by
  rw [bits_or_new h hq hb, withN_new h hq hb]

theorem round56 : ∀ l : Fin 57, bits BinOp.and IntKind.i64 ((l.val : Int) + 7) 56 = (((l.val + 7) / 8 * 8 : Nat) : Int) := by decide +kernel

theorem filled_len {c q : Nat} (h : Filled c q) (hq : q < 8) : Lib.bitLen c ≤ 56 ∧ bits BinOp.and IntKind.i64 ((Lib.bitLen c : Nat) + 7 : Int) 56 = ((8 * q : Nat) : Int) := by
  have hcl := filled_lt h hq
  have hc := h.1
  by_cases h0 : c = 0
  · subst h0
    have hq0 : q = 0 := by
      rcases Nat.eq_zero_or_pos q with e | e
      · exact e
      · have := h.2 0 e
        simp [byteAt] at this
    subst hq0
    decide +kernel
  · have hq0 : 0 < q := by
      rcases Nat.eq_zero_or_pos q with e | e
      · subst e; simp at hc; omega
      · exact e
    have e64 : (2 : Nat) ^ 64 = 18446744073709551616 := by decide
    obtain ⟨b1, b2, b3⟩ := Lib.bitLenAux_bounds 64 c (by omega) h0
    have hb : Lib.bitLen c = Lib.bitLenAux 64 c := rfl
    rw [← hb] at b1 b2 b3
    obtain ⟨L, hL⟩ : ∃ L, L = Lib.bitLen c := ⟨_, rfl⟩
    rw [← hL] at b1 b2 b3 ⊢
    have lo : 256 ^ (q - 1) * 2 ≤ c := by
      have h2 := h.2 (q - 1) (by omega)
      unfold byteAt at h2
      have h3 : 2 ≤ c / 256 ^ (q - 1) := Nat.le_trans h2 (Nat.mod_le _ _)
      have := (Nat.le_div_iff_mul_le (Nat.pow_pos (by omega))).1 h3
      omega
    rw [pow256] at lo hc
    have hi1 : L - 1 < 8 * q := (Nat.pow_lt_pow_iff_right (a := 2) (by omega)).1 (Nat.lt_of_le_of_lt b2 hc)
    have lo1 : 8 * (q - 1) + 1 < L := (Nat.pow_lt_pow_iff_right (a := 2) (by omega)).1 (Nat.lt_of_le_of_lt (by rw [Nat.pow_succ]; exact lo) b3)
    refine ⟨by omega, ?_⟩
    have hr := round56 ⟨L, by omega⟩
    dsimp only at hr
    rw [hr]
    congr 1
    omega

section
variable (m : Nat) (H : Nat → Nat)
/-- How many of the first i entries went to group j. -/
def cntN : Nat → Nat → Nat
  | 0 => fun _ => 0
  | i + 1 => if m.testBit i then (fun j => if j = H i then cntN i j + 1 else cntN i j) else cntN i
end
theorem cntN_yes {m : Nat} {H : Nat → Nat} {i : Nat} (h : m.testBit i = true) (j : Nat) : cntN m H (i + 1) j = if j = H i then cntN m H i j + 1 else cntN m H i j := by simp [cntN, h]
theorem cntN_no {m : Nat} {H : Nat → Nat} {i : Nat} (h : m.testBit i = false) : cntN m H (i + 1) = cntN m H i := by simp [cntN, h]

theorem fresh_inv {m : Nat} {H B : Nat → Nat} (hB : ∀ i, 2 ≤ B i ∧ B i < 256) : ∀ i, i ≤ 8 → ∀ j, cntN m H i j ≤ i ∧ Filled (uW m H B (fun _ => 0) i j) (cntN m H i j)
  | 0, _, _ => ⟨Nat.le_refl _, filled_zero⟩
  | i + 1, hi, j => by
    have ih := fresh_inv hB (m := m) (H := H) i (by omega) j
    by_cases hb : m.testBit i = true
    · rw [cntN_yes hb, uW_yes hb]
      by_cases e : j = H i
      · rw [if_pos e, if_pos e, (filled_free ih.2 (by omega)).2]
        exact ⟨by omega, filled_next ih.2 (by omega) (hB i).2 (hB i).1⟩
      · rw [if_neg e, if_neg e]
        exact ⟨by omega, ih.2⟩
    · have hf : m.testBit i = false := by simpa using hb
      rw [cntN_no hf, uW_no hf]
      exact ⟨by omega, ih.2⟩
end Go.Proofs.YbulkbdtmDoor
