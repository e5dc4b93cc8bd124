import Derived.Test.YbulkbdskHvSplit
namespace Go.Proofs.Ybulkbdsk
open Go.RowKit Go.Lib

/-! ### The plain functions: what the law lays out -/
def pre (ls : Nat → Nat) : Nat → Nat
  | 0 => 0
  | k + 1 => pre ls k + ls k
theorem pre_succ (ls : Nat → Nat) (k : Nat) : pre ls (k + 1) = pre ls k + ls k := rfl
theorem pre_le (ls : Nat → Nat) (h : ∀ i, ls i ≤ 39) : ∀ k, pre ls k ≤ 39 * k
  | 0 => Nat.le_refl _
  | k + 1 => by have := pre_le ls h k; have := h k; simp only [pre]; omega

/-- The cells of a block of pairs whose first index is p. -/
def pairF (p : Nat) : Nat → Value := fun j => if j % 2 = 0 then .int .u64 (((p + j / 2 : Nat) : Int) * 3) else .int .i64 ((p + j / 2 : Nat) : Int)
def lensF (ls : Nat → Nat) (k : Nat) : Nat → Value := fun j => if j < k then .int .i64 (ls j : Int) else .int .i64 0
def blksF (N : Nat) (ls : Nat → Nat) (k : Nat) : Nat → Value := fun j => if j < k then .slice (some ⟨N + 2 + j, 0, none⟩) (ls j) (ls j) else .slice none 0 0

/-- Cells that 'make' lays, behind names that the walk does not open. -/
def mkI (n : Nat) : Array Value := madeCells #[.int .i64 0] n
def mkS (n : Nat) : Array Value := madeCells #[.slice none 0 0] n
def mkP (n : Nat) : Array Value := madeCells #[.int .u64 0, .int .i64 0] (n * 2)

theorem make24 (n : Nat) (X : Int) (hX : X = (n : Int)) (hn : n ≤ 1000) (W : World) : (Instr.makeSlice 24 (.int .i64 X) (.int .i64 X)).run Yba.prog W = .ok (.slice (some ⟨W.heap.size, 0, none⟩) n n) (W.alloc (.cells (mkI n) 3)) := by
  subst hX
  exact run_make_row' 24 3 _ 8 Yba.underlying24 Yba.info3 rfl .i64 .i64 n (by omega) (by omega) W
theorem make25 (n : Nat) (X : Int) (hX : X = (n : Int)) (hn : n ≤ 1000) (W : World) : (Instr.makeSlice 25 (.int .i64 X) (.int .i64 X)).run Yba.prog W = .ok (.slice (some ⟨W.heap.size, 0, none⟩) n n) (W.alloc (.cells (mkS n) 26)) := by
  subst hX
  exact run_make_row' 25 26 _ 24 Yba.underlying25 Yba.info26 rfl .i64 .i64 n (by omega) (by omega) W
theorem make26 (n : Nat) (X : Int) (hX : X = (n : Int)) (hn : n ≤ 1000) (W : World) : (Instr.makeSlice 26 (.int .i64 X) (.int .i64 X)).run Yba.prog W = .ok (.slice (some ⟨W.heap.size, 0, none⟩) n n) (W.alloc (.cells (mkP n) 29)) := by
  subst hX
  obtain ⟨i0, hi, hz0, hz1, hz2⟩ := info_parts Yba.info29
  have h := run_make (P := Yba.prog) W 26 29 i0 _ Yba.underlying26 hi hz0 .i64 .i64 n n (by omega) (Int.le_refl _) (by rw [hz2]; omega) (by omega)
  rw [hz1] at h
  simpa [mkP, Value.cells] using h

theorem mkI_row (W : World) (n : Nat) : (W.alloc (.cells (mkI n) 3)).rowIs W.heap.size 3 n (fun _ => .int .i64 0) := World.rowIs_made W _ n 3
theorem mkS_row (W : World) (n : Nat) : (W.alloc (.cells (mkS n) 26)).rowIs W.heap.size 26 n (fun _ => .slice none 0 0) := World.rowIs_made W _ n 26
theorem mkP_row (W : World) (n : Nat) : (W.alloc (.cells (mkP n) 29)).rowIs W.heap.size 29 (n * 2) (fun j => (mkP n)[j]?.getD default) := by
  have h := rowIs_new W (mkP n) 29
  have e : (mkP n).size = n * 2 := size_madeCells _ _
  rwa [e] at h

/-- What memory holds at the head of round k of the first loop. -/
structure Inv (N m : Nat) (ls : Nat → Nat) (w : World) (k : Nat) (wr : World) : Prop where
  size : wr.heap.size = N + 2 + k
  lens : wr.rowIs N 3 m (lensF ls k)
  blks : wr.rowIs (N + 1) 26 m (blksF N ls k)
  rows : ∀ j, j < k → wr.rowIs (N + 2 + j) 29 (ls j * 2) (pairF (pre ls j))
  below : Below N w wr

theorem Inv.start (m : Nat) (ls : Nat → Nat) (w : World) : Inv w.heap.size m ls w 0 ((w.alloc (.cells (mkI m) 3)).alloc (.cells (mkS m) 26)) where
  size := by simp
  lens := ((mkI_row w m).alloc _).congr (fun i _ => by simp [lensF])
  blks := by
    have h := mkS_row (w.alloc (.cells (mkI m) 3)) m
    simp only [World.size_alloc] at h
    exact h.congr (fun i _ => by simp [blksF])
  rows := fun j hj => by omega
  below := ((Below.refl _ w).alloc (Nat.le_refl _) _).alloc (by simp) _

/-- .. and inside round k, behind t rounds of the inner loop. -/
structure InvIn (N m : Nat) (ls : Nat → Nat) (w : World) (k t : Nat) (wr : World) : Prop where
  size : wr.heap.size = N + 2 + k + 1
  lens : wr.rowIs N 3 m (lensF ls k)
  blks : wr.rowIs (N + 1) 26 m (blksF N ls k)
  rows : ∀ j, j < k → wr.rowIs (N + 2 + j) 29 (ls j * 2) (pairF (pre ls j))
  row : ∃ f, wr.rowIs (N + 2 + k) 29 (ls k * 2) f ∧ ∀ j, j < t * 2 → f j = pairF (pre ls k) j
  below : Below N w wr

theorem Inv.enter {N m : Nat} {ls : Nat → Nat} {w : World} {k : Nat} {wr : World} (h : Inv N m ls w k wr) : InvIn N m ls w k 0 (wr.alloc (.cells (mkP (ls k)) 29)) where
  size := by simp [h.size]
  lens := h.lens.alloc _
  blks := h.blks.alloc _
  rows := fun j hj => (h.rows j hj).alloc _
  row := ⟨_, by have := mkP_row wr (ls k); rwa [h.size] at this, fun j hj => by omega⟩
  below := h.below.alloc (by rw [h.size]; omega) _

theorem InvIn.step {N m : Nat} {ls : Nat → Nat} {w : World} {k t : Nat} {wr : World} (h : InvIn N m ls w k t wr) :
    InvIn N m ls w k (t + 1) ((wr.setCell ⟨N + 2 + k, t * 2, none⟩ (.int .u64 (((pre ls k + t : Nat) : Int) * 3))).setCell ⟨N + 2 + k, t * 2 + 1, none⟩ (.int .i64 ((pre ls k + t : Nat) : Int))) where
  size := by simp [World.setCell, h.size]
  lens := (h.lens.setOther (by show N ≠ N + 2 + k; omega) _).setOther (by show N ≠ N + 2 + k; omega) _
  blks := (h.blks.setOther (by show N + 1 ≠ N + 2 + k; omega) _).setOther (by show N + 1 ≠ N + 2 + k; omega) _
  rows := fun j hj => ((h.rows j hj).setOther (by show N + 2 + j ≠ N + 2 + k; omega) _).setOther (by show N + 2 + j ≠ N + 2 + k; omega) _
  row := by
    obtain ⟨f, h1, h2⟩ := h.row
    refine ⟨_, (h1.set _ _).set _ _, fun j hj => ?_⟩
    by_cases e1 : j = t * 2 + 1
    · subst e1; rw [if_pos rfl]; simp [pairF, show (t * 2 + 1) % 2 = 1 by omega, show (t * 2 + 1) / 2 = t by omega]
    · rw [if_neg e1]
      by_cases e2 : j = t * 2
      · subst e2; rw [if_pos rfl]; simp [pairF]
      · rw [if_neg e2]; exact h2 j (by omega)
  below := (h.below.setCell (by show N ≤ N + 2 + k; omega) _).setCell (by show N ≤ N + 2 + k; omega) _

theorem InvIn.leave {N m : Nat} {ls : Nat → Nat} {w : World} {k : Nat} {wr : World} (h : InvIn N m ls w k (ls k) wr) :
    Inv N m ls w (k + 1) ((wr.setCell ⟨N + 1, k, none⟩ (.slice (some ⟨N + 2 + k, 0, none⟩) (ls k) (ls k))).setCell ⟨N, k, none⟩ (.int .i64 (ls k : Int))) where
  size := by simp [World.setCell, h.size]; omega
  lens := ((h.lens.setOther (by show N ≠ N + 1; omega) _).set k _).congr (fun i _ => by
    unfold lensF
    by_cases e : i = k
    · subst e; simp
    · rw [if_neg e]
      by_cases e2 : i < k
      · rw [if_pos e2, if_pos (by omega)]
      · rw [if_neg e2, if_neg (by omega)])
  blks := ((h.blks.set k _).setOther (by show N + 1 ≠ N; omega) _).congr (fun i _ => by
    unfold blksF
    by_cases e : i = k
    · subst e; simp
    · rw [if_neg e]
      by_cases e2 : i < k
      · rw [if_pos e2, if_pos (by omega)]
      · rw [if_neg e2, if_neg (by omega)])
  rows := fun j hj => by
    refine (World.rowIs.setOther (World.rowIs.setOther ?_ (by show N + 2 + j ≠ N + 1; omega) _) (by show N + 2 + j ≠ N; omega) _)
    by_cases e : j = k
    · subst e
      obtain ⟨f, h1, h2⟩ := h.row
      exact h1.congr h2
    · exact h.rows j (by omega)
  below := (h.below.setCell (by show N ≤ N + 1; omega) _).setCell (Nat.le_refl _) _
end Go.Proofs.Ybulkbdsk
