import Derived.Test.YbulkbdtmAgNext
namespace Go.Proofs.Ybulkbdtm
open Go.RowKit

/-- What the law's own loop holds: its generator g, the keys in block b, nothing old turned. -/
structure LInv (b g : Nat) (s : Int) (n : Nat) (w : World) (k : Nat) (wr : World) : Prop where
  gen : wr.rowIs g 52 1 (genF (stAt s k))
  keys : wr.rowIs b 23 n (keysF s n)
  below : Below w.heap.size w wr
  apart : b ≠ g
  own : w.heap.size ≤ g

theorem LInv.start {s : Int} {n : Nat} {w w1 : World} (h : UInv w.heap.size s n w n w1) : LInv (w.heap.size + 1) w1.heap.size s n w 0 (w1.alloc (.cells #[.int .u64 s] 52)) where
  gen := World.rowIs_alloc w1 #[.int .u64 s] 52 (genF s) (fun i hi => by simp at hi; subst hi; rfl)
  keys := h.keys.alloc _
  below := h.below.alloc h.below.size _
  apart := by have := h.keys.lt; omega
  own := h.below.size

theorem LInv.step {b g : Nat} {s : Int} {n : Nat} {w : World} {k : Nat} {wr : World} (h : LInv b g s n w k wr) : LInv b g s n w (k + 1) (wr.setCell ⟨g, 0, none⟩ (.int .u64 (stepS (stAt s k)))) where
  gen := (h.gen.set 0 _).congr (fun i hi => by
    obtain rfl : i = 0 := by omega
    rfl)
  keys := h.keys.setOther (by exact h.apart) _
  below := h.below.setCell (by exact h.own) _
  apart := h.apart
  own := h.own

theorem LInv.drew {b g : Nat} {s : Int} {n : Nat} {w : World} {k : Nat} {wr : World} (h : LInv b g s n w k wr) : LInv b g s n w k wr.drew := ⟨h.gen, h.keys, h.below.drew, h.apart, h.own⟩

set_option maxHeartbeats 1000000 in
theorem agrees_core (s : Int) (n : Nat) (w : World) (hn : n ≤ 1024) :
    Calls Yba.prog 5 #[.int .u64 s, .int .i64 n] w fun e w' => e = .returned (.bool true) ∧ Below w.heap.size w w' := by
  have hd1 : decide ((n : Int) < 0) = false := decide_eq_false (by omega)
  have hd2 : decide ((1024 : Int) < (n : Int)) = false := decide_eq_false (by omega)
  go_enter Yba.func5, Yba.ntmps5
  go_wp2_with fail
  refine (uint64s_any s n _ hn).mono ?_
  rintro e w1 ⟨rfl, hU⟩
  have HU : Hid (UInv w.heap.size s n w n w1) := hU
  clear hU
  go_wp2_with (go_at_call 11; refine (new_any s _).mono ?_; rintro e w2 ⟨rfl, rfl⟩)
  go_loopw [7] (fun i wr => ∃ k : Nat, k ≤ n ∧ i = .int .i64 k ∧ LInv (w.heap.size + 1) w1.heap.size s n w k wr) (fun i _ => n - (intOf i).toNat)
  case atStart => exact ⟨0, Nat.zero_le _, rfl, LInv.start HU.out⟩
  case round =>
    obtain ⟨k, hk, rfl, hinv⟩ := hrel
    have HI : Hid (LInv (w.heap.size + 1) w1.heap.size s n w k wr) := hinv
    have cg := hinv.gen.cell (i := 0) (by omega)
    have fg := hinv.gen.frozen 0
    have hap := hinv.apart
    simp only [genF] at cg
    by_cases hlt : k < n
    · have ck := hinv.keys.cell hlt
      simp only [keysF, if_pos hlt] at ck
      clear hinv HU
      go_wp2
      go_region_held3 (fun w' => w'.cell? ⟨w.heap.size + 1, k, none⟩ = some (.int .u64 (keyS (stAt s k)))) (simp [*, go_sem])
        (first | (go_at_call 12; refine (next_any _ (stAt s k) _ (by exact cg) (by exact fg)).mono ?_; rintro e w2 ⟨rfl, rfl⟩))
      go_wp2
      go_roundw
      case rel => exact ⟨k + 1, by omega, by go_num, HI.out.step.drew⟩
      case measure => simp [intOf]; omega
    · clear hinv
      go_wp2
      go_ret
      exact ⟨rfl, HI.out.below⟩
end Go.Proofs.Ybulkbdtm
