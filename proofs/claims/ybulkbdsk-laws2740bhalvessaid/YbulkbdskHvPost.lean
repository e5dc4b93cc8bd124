import Derived.Test.YbulkbdskHvInv
namespace Go.Proofs.Ybulkbdsk
open Go.RowKit

/-- The blocks' lengths behind the split. -/
def nl (ls : Nat → Nat) (bi i : Nat) : Nat := if i < bi then ls i else if i = bi then ls bi / 2 else if i = bi + 1 then ls bi - ls bi / 2 else ls (i - 1)
theorem nl_lt {ls : Nat → Nat} {bi i : Nat} (h : i < bi) : nl ls bi i = ls i := by simp [nl, h]
theorem nl_at (ls : Nat → Nat) (bi : Nat) : nl ls bi bi = ls bi / 2 := by simp [nl]
theorem nl_new (ls : Nat → Nat) (bi : Nat) : nl ls bi (bi + 1) = ls bi - ls bi / 2 := by unfold nl; rw [if_neg (by omega), if_neg (by omega), if_pos rfl]
theorem nl_gt {ls : Nat → Nat} {bi i : Nat} (h : bi + 1 < i) : nl ls bi i = ls (i - 1) := by
  unfold nl; rw [if_neg (by omega), if_neg (by omega), if_neg (by omega)]
theorem nl_le (ls : Nat → Nat) (h : ∀ i, ls i ≤ 39) (bi i : Nat) : nl ls bi i ≤ 39 := by
  unfold nl
  have := h bi; have := h i; have := h (i - 1)
  split
  · omega
  · split
    · omega
    · split <;> omega

theorem pre_nl_le (ls : Nat → Nat) (bi : Nat) : ∀ i, i ≤ bi → pre (nl ls bi) i = pre ls i
  | 0, _ => rfl
  | i + 1, h => by simp only [pre]; rw [pre_nl_le ls bi i (by omega), nl_lt (by omega)]
theorem pre_nl_new (ls : Nat → Nat) (bi : Nat) : pre (nl ls bi) (bi + 1) = pre ls bi + ls bi / 2 := by
  simp only [pre]; rw [pre_nl_le ls bi bi (Nat.le_refl _), nl_at]
theorem pre_nl_gt (ls : Nat → Nat) (bi : Nat) : ∀ d, pre (nl ls bi) (bi + 2 + d) = pre ls (bi + 1 + d)
  | 0 => by
    show pre (nl ls bi) (bi + 1) + nl ls bi (bi + 1) = pre ls bi + ls bi
    rw [pre_nl_new, nl_new]; omega
  | d + 1 => by
    show pre (nl ls bi) (bi + 2 + d) + nl ls bi (bi + 2 + d) = pre ls (bi + 1 + d) + ls (bi + 1 + d)
    rw [pre_nl_gt ls bi d, nl_gt (by omega), show bi + 2 + d - 1 = bi + 1 + d by omega]

theorem pairF_one (p j : Nat) : (pairF p j).oneCell' = true := by unfold pairF; split <;> rfl
theorem blksF_one (N : Nat) (ls : Nat → Nat) (k j : Nat) : (blksF N ls k j).oneCell' = true := by unfold blksF; split <;> rfl
theorem pairF_shift (p h j : Nat) : pairF p (h * 2 + j) = pairF (p + h) j := by
  unfold pairF
  rw [show (h * 2 + j) % 2 = j % 2 by omega, show p + (h * 2 + j) / 2 = p + h + j / 2 by omega]
theorem pairF_key (p j : Nat) : pairF p (j * 2) = .int .u64 (((p + j : Nat) : Int) * 3) := by
  unfold pairF; rw [if_pos (by omega), show j * 2 / 2 = j by omega]
theorem pairF_idx (p j : Nat) : pairF p (j * 2 + 1) = .int .i64 ((p + j : Nat) : Int) := by
  unfold pairF; rw [if_neg (by omega), show (j * 2 + 1) / 2 = j by omega]

/-- What the law reads of memory behind the split. -/
structure Post (N m bi : Nat) (ls : Nat → Nat) (nv : Int) (w : World) (G cap : Nat) (bk cp : Nat → Nat) (w2 : World) : Prop where
  ring0 : w2.cell? ⟨N + 2 + m, 0, none⟩ = some (.slice (some ⟨G, 0, none⟩) (m + 1) cap)
  ring1 : w2.cell? ⟨N + 2 + m, 1, none⟩ = some (.int .i64 nv)
  row : ∀ i, i < m + 1 → w2.cell? ⟨G, i, none⟩ = some (.slice (some ⟨bk i, 0, none⟩) (nl ls bi i) (cp i))
  pairs : ∀ i, i < m + 1 → ∀ j, j < nl ls bi i * 2 → w2.cell? ⟨bk i, j, none⟩ = some (pairF (pre (nl ls bi) i) j)
  lens : ∀ i, i < m → w2.cell? ⟨N, i, none⟩ = some (.int .i64 (ls i : Int))
  orig : ∀ j, j < ls bi * 2 → w2.cell? ⟨N + 2 + bi, j, none⟩ = some (pairF (pre ls bi) j)
  apart : N + 2 + bi ≠ bk (bi + 1) ∧ N ≠ bk (bi + 1)
  free : ∀ j, w2.frozen? ⟨bk (bi + 1), j, none⟩ = false
  own : N ≤ bk (bi + 1)
  below : Below N w w2

theorem Post.of {N m bi : Nat} {ls : Nat → Nat} {nv : Int} {w w1 w2 : World} (hN : N = w.heap.size) (hbi : bi < m) (hI : Inv N m ls w m w1)
    (hS : SplitPost (N + 2 + m) (N + 2 + bi) m bi (ls bi) (blksF N ls m) (pairF (pre ls bi)) nv (w1.alloc (.cells #[.slice (some ⟨N + 1, 0, none⟩) m m, .int .i64 nv] 32)) w2) :
    ∃ G cap bk cp, Post N m bi ls nv w G cap bk cp w2 := by
  obtain ⟨G, cap, D, dcap, f, fd, h1, h2, h3, h4, h5, h6, h7, h8, h9, h10, h11, h12, h13, h14⟩ := hS
  have hs1 := hI.size
  simp only [World.size_alloc, hs1] at h3 h4
  have keep : ∀ k, k < N + 2 + m → w2.heap[k]? = w1.heap[k]? := fun k hk => by
    rw [h14.block k (by simp; omega) (by simp; omega), Below.heap_alloc _ _ _ (by omega)]
  have hr : ∀ j, j < m → w2.rowIs (N + 2 + j) 29 (ls j * 2) (pairF (pre ls j)) := fun j hj => (hI.rows j hj).of_block (keep _ (by omega))
  refine ⟨G, cap, fun i => if i ≤ bi then N + 2 + i else if i = bi + 1 then D else N + 2 + (i - 1), fun i => if i < bi then ls i else if i = bi then ls bi else if i = bi + 1 then dcap else ls (i - 1), ?_⟩
  constructor
  · have := h1.cell (i := 0) (by omega); simpa [ringF] using this
  · have := h1.cell (i := 1) (by omega); simpa [ringF] using this
  · intro i hi
    rw [h2.cell (i := i) (by omega)]
    by_cases e1 : i < bi
    · rw [h7 i e1, nl_lt e1, if_pos (by omega), if_pos e1]; simp [blksF]; omega
    · by_cases e2 : i = bi
      · subst e2; rw [h8, nl_at, if_pos (Nat.le_refl _), if_neg (by omega), if_pos rfl]
      · by_cases e3 : i = bi + 1
        · subst e3; rw [h9, nl_new, if_neg (by omega), if_pos rfl, if_neg (by omega), if_neg (by omega), if_pos rfl]
        · obtain ⟨i', rfl⟩ : ∃ i', i = i' + 1 := ⟨i - 1, by omega⟩
          rw [h10 i' (by omega) (by omega), nl_gt (by omega), if_neg (by omega), if_neg e3, if_neg (by omega), if_neg (by omega), if_neg e3]
          simp [blksF]; omega
  · intro i hi j hj
    by_cases e1 : i ≤ bi
    · rw [if_pos e1, pre_nl_le _ _ _ e1]
      refine (hr i (by omega)).cell ?_
      by_cases e2 : i < bi
      · rw [nl_lt e2] at hj; exact hj
      · obtain rfl : i = bi := by omega
        rw [nl_at] at hj; omega
    · by_cases e3 : i = bi + 1
      · subst e3
        rw [nl_new] at hj
        rw [if_neg e1, if_pos rfl, h11.cell (by omega), h13 j hj, pairF_shift, pre_nl_new]
      · obtain ⟨d, rfl⟩ : ∃ d, i = bi + 2 + d := ⟨i - bi - 2, by omega⟩
        rw [nl_gt (by omega)] at hj
        rw [if_neg e1, if_neg e3, pre_nl_gt, show bi + 2 + d - 1 = bi + 1 + d by omega]
        rw [show bi + 2 + d - 1 = bi + 1 + d by omega] at hj
        exact (hr _ (by omega)).cell hj
  · intro i hi
    have := (hI.lens.of_block (keep N (by omega))).cell hi
    simpa [lensF, hi] using this
  · intro j hj
    exact (hr bi hbi).cell hj
  · rw [if_neg (by omega), if_pos rfl]; omega
  · intro j
    rw [if_neg (by omega), if_pos rfl]; exact h11.frozen j
  · rw [if_neg (by omega), if_pos rfl]; omega
  · refine hI.below.trans ⟨?_, ?_, ?_, ?_, fun k hk => keep k (by omega)⟩
    · exact h14.os
    · exact h14.tape
    · exact h14.output
    · have := h14.size; simp at this; omega
end Go.Proofs.Ybulkbdsk
