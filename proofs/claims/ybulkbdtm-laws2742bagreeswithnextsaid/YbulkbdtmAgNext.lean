import Derived.Test.YbulkbdtmRows
import Derived.WalkKit
import Derived.WalkSpells
import Derived.WalkLawsBesides
import Derived.Deep.OwnRows
import Derived.LoopTactic
import Derived.Deep.RegionHeld3
namespace Go.Proofs.Ybulkbdtm
open Go.RowKit

/-! ### What SplitMix64.Next computes: the generator's next state, and the key that it hands out -/
def stepS (s : Int) : Int := IntKind.u64.wrap (s + 11400714819323198485)
def mix1 (z : Int) : Int := IntKind.u64.wrap (bits BinOp.xor IntKind.u64 z (z / 1073741824) * 13787848793156543929)
def mix2 (z : Int) : Int := IntKind.u64.wrap (bits BinOp.xor IntKind.u64 z (z / 134217728) * 10723151780598845931)
def mix3 (z : Int) : Int := bits BinOp.xor IntKind.u64 z (z / 2147483648)
def keyS (s : Int) : Int := mix3 (mix2 (mix1 (stepS s)))
/-- The state behind i calls. -/
def stAt (s : Int) : Nat → Int
  | 0 => s
  | i + 1 => stepS (stAt s i)

set_option maxHeartbeats 400000 in
theorem next_any (g : Nat) (s : Int) (w : World) (hc : w.cell? ⟨g, 0, none⟩ = some (.int .u64 s)) (hf : w.frozen? ⟨g, 0, none⟩ = false) :
    Calls Yba.prog 12 #[.pointer (some ⟨g, 0, none⟩)] w fun e w' => e = .returned (.int .u64 (keyS s)) ∧ w' = w.setCell ⟨g, 0, none⟩ (.int .u64 (stepS s)) := by
  go_enter Yba.func12, Yba.ntmps12
  go_wp2
  go_ret
  exact ⟨rfl, rfl⟩

theorem new_any (s : Int) (w : World) : Calls Yba.prog 11 #[.int .u64 s] w fun e w' => e = .returned (.pointer (some ⟨w.heap.size, 0, none⟩)) ∧ w' = w.alloc (.cells #[.int .u64 s] 52) := by
  go_enter Yba.func11, Yba.ntmps11
  go_wp2
  go_ret
  exact ⟨rfl, rfl⟩

theorem Yba.info23 : (Yba.prog.info? 23).map (fun i => (i.zero, i.size, i.bytes)) = some (some (.int .u64 0), 1, 8) := by kernel_rfl
/-- The cells that make lays, behind a name. -/
def mkU (n : Nat) : Array Value := madeCells #[.int .u64 0] n
theorem make31 (n : Nat) (hn : n ≤ 1024) (W : World) : (Instr.makeSlice 31 (.int .i64 n) (.int .i64 n)).run Yba.prog W = .ok (.slice (some ⟨W.heap.size, 0, none⟩) n n) (W.alloc (.cells (mkU n) 23)) :=
  run_make_row' 31 23 _ 8 Yba.underlying31 Yba.info23 rfl .i64 .i64 n (by omega) (by omega) W

def genF (s : Int) : Nat → Value := fun _ => .int .u64 s
def keysF (s : Int) (k : Nat) : Nat → Value := fun i => if i < k then .int .u64 (keyS (stAt s i)) else .int .u64 0

structure UInv (B : Nat) (s : Int) (n : Nat) (w : World) (k : Nat) (wr : World) : Prop where
  gen : wr.rowIs B 52 1 (genF (stAt s k))
  keys : wr.rowIs (B + 1) 23 n (keysF s k)
  below : Below B w wr

theorem UInv.start (s : Int) (n : Nat) (w : World) : UInv w.heap.size s n w 0 ((w.alloc (.cells #[.int .u64 s] 52)).alloc (.cells (mkU n) 23)) where
  gen := (World.rowIs_alloc w #[.int .u64 s] 52 (genF s) (fun i hi => by simp at hi; subst hi; rfl)).alloc _
  keys := by
    have h := World.rowIs_made (w.alloc (.cells #[.int .u64 s] 52)) (.int .u64 0) n 23
    simp only [World.size_alloc] at h
    exact h.congr (fun i _ => by simp [keysF])
  below := ((Below.refl _ w).alloc (Nat.le_refl _) _).alloc (by simp) _

theorem UInv.step {B : Nat} {s : Int} {n : Nat} {w : World} {k : Nat} {wr : World} (h : UInv B s n w k wr) :
    UInv B s n w (k + 1) ((wr.setCell ⟨B, 0, none⟩ (.int .u64 (stepS (stAt s k)))).setCell ⟨B + 1, k, none⟩ (.int .u64 (keyS (stAt s k)))) where
  gen := ((h.gen.set 0 _).setOther (by show B ≠ B + 1; omega) _).congr (fun i hi => by
    obtain rfl : i = 0 := by omega
    rfl)
  keys := ((h.keys.setOther (by show B + 1 ≠ B; omega) _).set k _).congr (fun i _ => by
    unfold keysF
    by_cases e : i = k
    · subst e; simp
    · rw [if_neg e]
      by_cases e2 : i < k
      · rw [if_pos e2, if_pos (by omega)]
      · rw [if_neg e2, if_neg (by omega)])
  below := (h.below.setCell (Nat.le_refl _) _).setCell (by show B ≤ B + 1; omega) _

set_option maxHeartbeats 1000000 in
theorem uint64s_any (s : Int) (n : Nat) (w : World) (hn : n ≤ 1024) :
    Calls Yba.prog 10 #[.int .u64 s, .int .i64 n] w fun e w' => e = .returned (.slice (some ⟨w.heap.size + 1, 0, none⟩) n n) ∧ UInv w.heap.size s n w n w' := by
  have hmk := make31 n hn
  go_enter Yba.func10, Yba.ntmps10
  go_wp2_with (go_at_call 11; refine (new_any s _).mono ?_; rintro e w1 ⟨rfl, rfl⟩)
  go_loopw [14] (fun i wr => ∃ k : Nat, k ≤ n ∧ i = .int .i64 k ∧ UInv w.heap.size s n w k wr) (fun i _ => n - (intOf i).toNat)
  case atStart => exact ⟨0, Nat.zero_le _, rfl, UInv.start s n w⟩
  case round =>
    obtain ⟨k, hk, rfl, hinv⟩ := hrel
    have HI : Hid (UInv w.heap.size s n w k wr) := hinv
    have cg := hinv.gen.cell (i := 0) (by omega)
    have fg := hinv.gen.frozen 0
    simp only [genF] at cg
    clear hmk
    by_cases hlt : k < n
    · have ck := hinv.keys.cell hlt
      have fk := hinv.keys.frozen k
      clear hinv
      go_wp2_with (go_at_call 12; refine (next_any _ _ _ cg fg).mono ?_; rintro e w1 ⟨rfl, rfl⟩)
      go_roundw
      case rel => exact ⟨k + 1, by omega, by go_num, HI.out.step⟩
      case measure => simp [intOf]; omega
    · obtain rfl : k = n := by omega
      clear hinv
      go_wp2
      go_ret
      exact ⟨rfl, HI.out⟩
end Go.Proofs.Ybulkbdtm
