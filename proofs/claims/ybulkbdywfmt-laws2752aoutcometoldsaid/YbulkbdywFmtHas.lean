import Derived.Test.YbulkbdywFmtFacts
import Derived.WalkKit
import Derived.WalkSpells
import Derived.WalkLawsBesides
import Derived.Deep.QuietTactic
import Derived.BigQuiet
import Derived.Laws.Bits64b
namespace Go.Proofs.YbulkbdywFmt
open Go.RowKit

def heldB (seen i : Nat) : Bool := decide (i < 64) && seen.testBit i

theorem pow_wrap (i : Nat) (h : i < 64) : IntKind.u64.wrap ((2 : Int) ^ i) = ((2 ^ i : Nat) : Int) := by
  have hp : (2 : Nat) ^ i < 18446744073709551616 := by
    have e : (2 : Nat) ^ 64 = 18446744073709551616 := by decide
    rw [← e]; exact Nat.pow_lt_pow_right (by omega) h
  have e : ((2 : Int) ^ i) = ((2 ^ i : Nat) : Int) := by simp
  rw [e]
  generalize (2 : Nat) ^ i = x at hp
  rw [IntKind.wrap_u64]; omega

theorem and_pow (x i : Nat) : x &&& 2 ^ i = if x.testBit i then 2 ^ i else 0 := by
  apply Nat.eq_of_testBit_eq
  intro j
  rw [Nat.testBit_and, Nat.testBit_two_pow]
  by_cases e : i = j
  · subst e
    cases h : x.testBit i
    · simp
    · simp
  · cases h : x.testBit i
    · simp [e]
    · simp [e]

theorem has_bit (seen i : Nat) (hs : seen < 18446744073709551616) : (bits BinOp.and IntKind.u64 (seen : Int) (IntKind.u64.wrap (2 ^ min i 64)) != 0) = heldB seen i := by
  unfold heldB
  by_cases h : i < 64
  · rw [Nat.min_eq_left (by omega), pow_wrap i h]
    have hp : (2 : Nat) ^ i < 18446744073709551616 := by
      have e : (2 : Nat) ^ 64 = 18446744073709551616 := by decide
      rw [← e]; exact Nat.pow_lt_pow_right (by omega) h
    have hp0 : 0 < (2 : Nat) ^ i := Nat.pow_pos (by omega)
    rw [bits_and_u64_nat _ _ hs hp, and_pow, decide_eq_true h, Bool.true_and]
    cases ht : seen.testBit i
    · rfl
    · rw [bne_iff_ne, if_pos rfl]
      omega
  · rw [Nat.min_eq_right (by omega)]
    have e : IntKind.u64.wrap ((2 : Int) ^ 64) = ((0 : Nat) : Int) := by decide
    rw [e, bits_and_u64_nat _ _ hs (by omega), Nat.and_zero]
    simp [h]

theorem shr_bit (seen i : Nat) (hs : seen < 18446744073709551616) : (bits BinOp.and IntKind.u64 ((seen : Int) / 2 ^ i) 1 != 0) = seen.testBit i := by
  have e : ((seen : Int) / 2 ^ i) = ((seen / 2 ^ i : Nat) : Int) := by simp
  have hl : seen / 2 ^ i < 18446744073709551616 := Nat.lt_of_le_of_lt (Nat.div_le_self _ _) hs
  have hb := bits_and_u64_nat (seen / 2 ^ i) 1 hl (by omega)
  rw [e]
  refine (congrArg (fun x : Int => x != 0) hb).trans ?_
  rw [Nat.and_one_is_mod, Nat.testBit_eq_decide_div_mod_eq]
  by_cases h1 : seen / 2 ^ i % 2 = 1
  · rw [h1]; rfl
  · rw [show seen / 2 ^ i % 2 = 0 by omega]; rfl

set_option maxHeartbeats 1000000 in
theorem has_any (M seen i : Nat) (w : World) (hs : seen < 18446744073709551616) (c0 : w.cell? ⟨M, 0, none⟩ = some (.int .u64 seen)) :
    Calls Ybaf.prog 11 #[.pointer (some ⟨M, 0, none⟩), .int .i64 i] w fun e w' => e = .returned (.bool (heldB seen i)) ∧ ∃ q, w' = w.drewN q := by
  go_enter Ybaf.func11, Ybaf.ntmps11
  go_wp2
  go_quiet (fail)
  go_wp2
  go_ret
  refine ⟨?_, _, rfl⟩
  rw [← has_bit seen i hs]
  rfl

section
variable (req : Nat → Bool) (seen : Nat) (errAt : Int) (hasErr hasUnk : Bool)
/-- What the fields from the i-th on bring: 3 the read's own fault, 2 a missing or an unknown key, 0 none. -/
def look : Nat → Nat → Nat
  | 0, _ => if hasUnk then 2 else 0
  | r + 1, i => if hasErr = true ∧ (i : Int) = errAt then 3 else if req i = true ∧ heldB seen i = false then 2 else look r (i + 1)
/-- The class of fault that the object's end reports. -/
def outN (n : Nat) (notObj te : Bool) : Nat := if notObj then 1 else if te = false then 2 else look req seen errAt hasErr hasUnk n 0
end

theorem look_err {req : Nat → Bool} {seen : Nat} {errAt : Int} {hasErr hasUnk : Bool} {n i : Nat} (hi : i < n) (h1 : hasErr = true) (h2 : (i : Int) = errAt) : look req seen errAt hasErr hasUnk (n - i) i = 3 := by
  rw [show n - i = (n - i - 1) + 1 by omega, look, if_pos ⟨h1, h2⟩]
theorem look_miss {req : Nat → Bool} {seen : Nat} {errAt : Int} {hasErr hasUnk : Bool} {n i : Nat} (hi : i < n) (h1 : ¬ (hasErr = true ∧ (i : Int) = errAt)) (h2 : req i = true) (h3 : heldB seen i = false) : look req seen errAt hasErr hasUnk (n - i) i = 2 := by
  rw [show n - i = (n - i - 1) + 1 by omega, look, if_neg h1, if_pos ⟨h2, h3⟩]
theorem look_next {req : Nat → Bool} {seen : Nat} {errAt : Int} {hasErr hasUnk : Bool} {n i : Nat} (hi : i < n) (h1 : ¬ (hasErr = true ∧ (i : Int) = errAt)) (h2 : ¬ (req i = true ∧ heldB seen i = false)) : look req seen errAt hasErr hasUnk (n - i) i = look req seen errAt hasErr hasUnk (n - (i + 1)) (i + 1) := by
  rw [show n - i = (n - (i + 1)) + 1 by omega, look, if_neg h1, if_neg h2]
theorem look_done {req : Nat → Bool} {seen : Nat} {errAt : Int} {hasErr hasUnk : Bool} {n : Nat} : look req seen errAt hasErr hasUnk (n - n) n = if hasUnk then 2 else 0 := by rw [Nat.sub_self, look]

set_option maxHeartbeats 1000000 in
theorem model_any (o : Option Addr) (n cap seen : Nat) (notObj : Bool) (errAt : Int) (hasErr : Bool) (tw : ByteArray) (hasUnk : Bool) (req : Nat → Bool) (w : World) (hn : n ≤ 1024) (hs : seen < 18446744073709551616)
    (hc : ∀ i, i < n → ∃ b off, o = some ⟨b, off, none⟩ ∧ w.cell? ⟨b, off + i * 2 + 1, none⟩ = some (.bool (req i))) :
    Calls Ybaf.prog 6 #[.slice o n cap, .int .u64 seen, .bool notObj, .int .i64 errAt, .bool hasErr, .string tw, .bool hasUnk] w fun e w' => e = .returned (.int .i64 (outN req seen errAt hasErr hasUnk n notObj tw.toList.isEmpty)) ∧ w' = w := by
  have HC : Hid (∀ i, i < n → ∃ b off, o = some ⟨b, off, none⟩ ∧ w.cell? ⟨b, off + i * 2 + 1, none⟩ = some (.bool (req i))) := hc
  clear hc
  go_enter Ybaf.func6, Ybaf.ntmps6
  cases notObj
  · cases hte : tw.toList.isEmpty
    · go_wp2
      go_ret
      exact ⟨rfl, rfl⟩
    · have HO : Hid (outN req seen errAt hasErr hasUnk n false true = look req seen errAt hasErr hasUnk n 0) := rfl
      go_wp2_with fail
      go_loop [15] (fun iv => ∃ i : Nat, i ≤ n ∧ iv = .int .i64 i ∧ look req seen errAt hasErr hasUnk n 0 = look req seen errAt hasErr hasUnk (n - i) i) (fun iv => n - (intOf iv).toNat)
      case atStart => exact ⟨0, Nat.zero_le _, rfl, rfl⟩
      case round =>
        obtain ⟨i, hi, rfl, hL⟩ := hrel
        have HL : Hid (look req seen errAt hasErr hasUnk n 0 = look req seen errAt hasErr hasUnk (n - i) i) := hL
        clear hL
        by_cases hlt : i < n
        · obtain ⟨b, off, rfl, cR⟩ := HC.out i hlt
          have hin : (i : Int) < n := by omega
          by_cases hE : hasErr = true ∧ (i : Int) = errAt
          · obtain ⟨rfl, rfl⟩ := hE
            have HR : Hid (look req seen (i : Int) true hasUnk (n - i) i = 3) := look_err hlt rfl rfl
            go_wp2
            go_ret
            exact ⟨by rw [HO.out, HL.out, HR.out]; rfl, rfl⟩
          · have HE : Hid (¬ (hasErr = true ∧ (i : Int) = errAt)) := hE
            have hb : hasErr = true → ((i : Int) == errAt) = false := fun h => beq_eq_false_iff_ne.2 (fun e => hE ⟨h, e⟩)
            cases hR : req i
            · rw [hR] at cR
              have HR : Hid (look req seen errAt hasErr hasUnk (n - i) i = look req seen errAt hasErr hasUnk (n - (i + 1)) (i + 1)) := look_next hlt hE (by rw [hR]; simp)
              clear hE
              cases hasErr
              · clear hb
                go_wp2
                go_round
                case rel => exact ⟨i + 1, by omega, by go_num, by rw [HL.out, HR.out]⟩
                case measure => simp [intOf]; omega
              · have hb2 := hb rfl
                clear hb
                go_wp2
                go_round
                case rel => exact ⟨i + 1, by omega, by go_num, by rw [HL.out, HR.out]⟩
                case measure => simp [intOf]; omega
            · rw [hR] at cR
              by_cases h64 : i < 64
              · have hsb := shr_bit seen i hs
                cases hT : seen.testBit i
                · rw [hT] at hsb
                  have hsb2 := bne_eq_false_iff_eq.1 hsb
                  have HR : Hid (look req seen errAt hasErr hasUnk (n - i) i = 2) := look_miss hlt hE hR (by simp [heldB, hT])
                  clear hE hT hsb
                  cases hasErr
                  · clear hb
                    go_wp2
                    go_ret
                    exact ⟨by rw [HO.out, HL.out, HR.out]; rfl, rfl⟩
                  · have hb2 := hb rfl
                    clear hb
                    go_wp2
                    go_ret
                    exact ⟨by rw [HO.out, HL.out, HR.out]; rfl, rfl⟩
                · rw [hT] at hsb
                  have HR : Hid (look req seen errAt hasErr hasUnk (n - i) i = look req seen errAt hasErr hasUnk (n - (i + 1)) (i + 1)) := look_next hlt hE (by simp [heldB, hT, h64])
                  clear hE hT
                  cases hasErr
                  · clear hb
                    go_wp2
                    go_round
                    case rel => exact ⟨i + 1, by omega, by go_num, by rw [HL.out, HR.out]⟩
                    case measure => simp [intOf]; omega
                  · have hb2 := hb rfl
                    clear hb
                    go_wp2
                    go_round
                    case rel => exact ⟨i + 1, by omega, by go_num, by rw [HL.out, HR.out]⟩
                    case measure => simp [intOf]; omega
              · have HR : Hid (look req seen errAt hasErr hasUnk (n - i) i = 2) := look_miss hlt hE hR (by simp [heldB, h64])
                have h64i : ¬ (i : Int) < 64 := by omega
                clear hE h64
                cases hasErr
                · clear hb
                  go_wp2
                  go_ret
                  exact ⟨by rw [HO.out, HL.out, HR.out]; rfl, rfl⟩
                · have hb2 := hb rfl
                  clear hb
                  go_wp2
                  go_ret
                  exact ⟨by rw [HO.out, HL.out, HR.out]; rfl, rfl⟩
        · obtain rfl : i = n := by omega
          have HR : Hid (look req seen errAt hasErr hasUnk (i - i) i = if hasUnk then 2 else 0) := look_done
          cases hasUnk
          · go_wp2
            go_ret
            exact ⟨by rw [HO.out, HL.out, HR.out]; rfl, rfl⟩
          · go_wp2
            go_ret
            exact ⟨by rw [HO.out, HL.out, HR.out]; rfl, rfl⟩
  · go_wp2
    go_ret
    exact ⟨rfl, rfl⟩
end Go.Proofs.YbulkbdywFmt
