import Derived.Test.YbulkbdskHvInsert
import Derived.Deep.RegionHeld3
import Derived.Deep.RegionWith
import Derived.RegionTactic
import Derived.BigRegion
namespace Go.Proofs.Ybulkbdsk
open Go.RowKit Go.Lib

/-- The two cells of a ring. -/
def ringF (v : Value) (n : Int) : Nat → Value := fun i => if i = 0 then v else .int .i64 n

theorem insert_int (b n i vb vc : Nat) (ii : Int) (S : Nat → Value) (v : Value) (w : World) (hii : ii = (i : Int)) (hi : i ≤ n) (hn : n ≤ 1000) (h0 : 0 < n)
    (hS : w.rowIs b 26 n S) (hv : w.cell? ⟨vb, 0, none⟩ = some v) (h1c : ∀ j, j < n → (S j).oneCell' = true) (h1v : v.oneCell' = true) :
    Calls Yba.prog 5 #[.slice (some ⟨b, 0, none⟩) n n, .int .i64 ii, .slice (some ⟨vb, 0, none⟩) 1 vc] w fun e w' => ∃ g cap f, e = .returned (.slice (some ⟨g, 0, none⟩) (n + 1) cap) ∧ w.heap.size ≤ g ∧ n + 1 ≤ cap ∧ w'.rowIs g 26 cap f ∧
      (∀ j, j < i → f j = S j) ∧ f i = v ∧ (∀ j, i ≤ j → j < n → f (j + 1) = S j) ∧ w.grownBy w' none := by
  subst hii
  exact insert_any b n i vb vc S v w hi hn h0 hS hv h1c h1v

theorem cell_one_new' (w : World) (v : Value) (t : TypeId) : (w.alloc (.cells #[v] t)).cell? ⟨w.heap.size, 0, none⟩ = some v := by
  rw [World.cell?_alloc_at _ _ _ _ rfl]; rfl

theorem grown_trans {a b c : World} (h : a.grownBy b none) (k : b.grownBy c none) : a.grownBy c none :=
  ⟨k.os.trans h.os, k.tape.trans h.tape, k.output.trans h.output, Nat.le_trans h.size k.size, fun i hi _ => (k.block i (Nat.lt_of_lt_of_le hi h.size) (by simp)).trans (h.block i hi (by simp))⟩

/-- What split leaves: the ring R leads to a new row G of m + 1 blocks; block bi keeps its first half, the new block D holds the rest, in new memory; of what was there only the ring has turned. -/
def SplitPost (R C m bi l : Nat) (S F : Nat → Value) (nv : Int) (w w' : World) : Prop := ∃ G cap D dcap f fd,
  w'.rowIs R 32 2 (ringF (.slice (some ⟨G, 0, none⟩) (m + 1) cap) nv) ∧ w'.rowIs G 26 cap f ∧ w.heap.size ≤ G ∧ w.heap.size ≤ D ∧ D ≠ G ∧ m + 1 ≤ cap ∧
  (∀ j, j < bi → f j = S j) ∧ f bi = .slice (some ⟨C, 0, none⟩) (l / 2) l ∧ f (bi + 1) = .slice (some ⟨D, 0, none⟩) (l - l / 2) dcap ∧ (∀ j, bi < j → j < m → f (j + 1) = S j) ∧
  w'.rowIs D 29 (dcap * 2) fd ∧ l - l / 2 ≤ dcap ∧ (∀ j, j < (l - l / 2) * 2 → fd j = F (l / 2 * 2 + j)) ∧ w.grownBy w' (some R)

theorem SplitPost.drew {R C m bi l : Nat} {S F : Nat → Value} {nv : Int} {w w' : World} (h : SplitPost R C m bi l S F nv w w') : SplitPost R C m bi l S F nv w w'.drew := by
  obtain ⟨G, cap, D, dcap, f, fd, h1, h2, h3, h4, h5, h6, h7, h8, h9, h10, h11, h12, h13, h14⟩ := h
  exact ⟨G, cap, D, dcap, f, fd, h1, h2, h3, h4, h5, h6, h7, h8, h9, h10, h11, h12, h13, ⟨h14.os, h14.tape, h14.output, h14.size, h14.block⟩⟩

theorem split_post {R B C m bi l D dcap G cap : Nat} {S F fd f : Nat → Value} {nv : Int} {w w1 w2 : World}
    (hR : w.rowIs R 32 2 (ringF (.slice (some ⟨B, 0, none⟩) m m) nv)) (hRs : R < w.heap.size) (hcap : m + 1 ≤ cap)
    (X : w.heap.size ≤ D ∧ l - l / 2 ≤ dcap ∧ w1.rowIs D 29 (dcap * 2) fd ∧ (∀ j, j < (l - l / 2) * 2 → fd j = F (l / 2 * 2 + j)) ∧ w.grownBy w1 none)
    (Y : w1.heap.size + 1 ≤ G ∧ w2.rowIs G 26 cap f ∧ (∀ j, j < bi + 1 → f j = S j) ∧ f (bi + 1) = .slice (some ⟨D, 0, none⟩) (l - l / 2) dcap ∧ (∀ j, bi + 1 ≤ j → j < m → f (j + 1) = S j) ∧ w1.grownBy w2 none) :
    SplitPost R C m bi l S F nv w ((w2.setCell ⟨R, 0, none⟩ (.slice (some ⟨G, 0, none⟩) (m + 1) cap)).setCell ⟨G, bi, none⟩ (.slice (some ⟨C, 0, none⟩) (l / 2) l)) := by
  obtain ⟨x1, x2, x3, x4, x5⟩ := X
  obtain ⟨y1, y2, y3, y4, y5, y6⟩ := Y
  have s1 := x5.size
  have s2 := y6.size
  have hDl := x3.lt
  have g2 : w.grownBy w2 none := grown_trans x5 y6
  have hRG : R ≠ G := by omega
  have hDG : D ≠ G := by omega
  have hDR : D ≠ R := by omega
  have hR2 : w2.rowIs R 32 2 (ringF (.slice (some ⟨B, 0, none⟩) m m) nv) := hR.of_block (g2.block R hRs (by simp))
  have hD2 : w2.rowIs D 29 (dcap * 2) fd := x3.of_block (y6.block D hDl (by simp))
  refine ⟨G, cap, D, dcap, fun j => if j = bi then .slice (some ⟨C, 0, none⟩) (l / 2) l else f j, fd, ?_, ?_, by omega, x1, hDG, hcap, ?_, ?_, ?_, ?_, ?_, x2, x4, ?_⟩
  · refine ((hR2.set 0 _).setOther (by exact hRG) _).congr (fun i hi => ?_)
    unfold ringF
    by_cases h : i = 0 <;> simp [h]
  · exact (y2.setOther (by exact fun h => hRG h.symm) _).set bi _
  · intro j hj
    dsimp only
    rw [if_neg (by omega)]
    exact y3 j (by omega)
  · simp
  · dsimp only
    rw [if_neg (by omega)]; exact y4
  · intro j h1 h2
    dsimp only
    rw [if_neg (by omega)]
    exact y5 j h1 h2
  · exact (hD2.setOther (by exact hDR) _).setOther (by exact hDG) _
  · refine ⟨g2.os, g2.tape, g2.output, ?_, fun k hk hne => ?_⟩
    · simp [World.setCell]; omega
    · rw [Below.heap_setCell _ _ _ _ (by show k ≠ G; omega), Below.heap_setCell _ _ _ _ (by show k ≠ R; simpa using hne)]
      exact g2.block k hk (by simp)

set_option maxHeartbeats 1000000 in
theorem split_pos (R B C m bi l : Nat) (S F : Nat → Value) (nv : Int) (w : World) (hbi : bi < m) (hm : m ≤ 900) (hl : 0 < l) (hl2 : l ≤ 900)
    (hR : w.rowIs R 32 2 (ringF (.slice (some ⟨B, 0, none⟩) m m) nv)) (hB : w.rowIs B 26 m S) (hS : S bi = .slice (some ⟨C, 0, none⟩) l l) (hC : w.rowIs C 29 (l * 2) F)
    (h1 : ∀ j, j < m → (S j).oneCell' = true) (h2 : ∀ j, j < l * 2 → (F j).oneCell' = true) :
    Calls Yba.prog 4 #[.pointer (some ⟨R, 0, none⟩), .int .i64 bi] w fun e w' => e = .returned (.tuple #[]) ∧ SplitPost R C m bi l S F nv w w' := by
  have cR := hR.cell (i := 0) (by omega)
  simp only [ringF, if_true] at cR
  have cB := hB.cell hbi
  rw [hS] at cB
  have hne : ¬ (l = l / 2) := by omega
  have hq : (0 : Int) ≤ (l : Int) / 2 ∧ (l : Int) / 2 ≤ (l : Int) := by omega
  have hw1 : IntKind.i64.wrap ((bi : Int) + 1) = (bi : Int) + 1 := by rw [IntKind.wrap_i64]; omega
  have htn : ((l : Int) / 2).toNat = l / 2 := by omega
  have hRs := hR.lt
  have fR := hR.frozen 0
  have HR : Hid (w.rowIs R 32 2 (ringF (.slice (some ⟨B, 0, none⟩) m m) nv)) := hR
  have HB : Hid (w.rowIs B 26 m S) := hB
  have HC : Hid (w.rowIs C 29 (l * 2) F) := hC
  have HS : Hid (S bi = .slice (some ⟨C, 0, none⟩) l l) := hS
  have H1 : Hid (∀ j, j < m → (S j).oneCell' = true) := h1
  have H2 : Hid (∀ j, j < l * 2 → (F j).oneCell' = true) := h2
  clear hR hB hC hS h1 h2
  go_enter Yba.func4, Yba.ntmps4
  go_wp2
  go_region_with (first
    | (go_at_call 6; refine (clone_row C (l / 2 * 2) (l - l / 2) (l - l / 2) (l * 2) F _ (by exact HC.out) (by omega) H2.out (by omega)).mono ?_; rintro e w1 ⟨D, dcap, fd, rfl, hD1, hD2, hD3, hD4, hDg⟩; have cR1 : w1.cell? ⟨R, 0, none⟩ = some (.slice (some ⟨B, 0, none⟩) m m) := hDg.cell cR (by simp); have hRs1 : R < w1.heap.size := Nat.lt_of_lt_of_le hRs hDg.size)
    | (go_at_call 5; refine (insert_int B m (bi + 1) w1.heap.size 1 _ S (.slice (some ⟨D, 0, none⟩) (l - l / 2) dcap) _ (by omega) (by omega) (by omega) (by omega) (((HB.out.of_block (hDg.block B HB.out.lt (by simp))).alloc _)) (cell_one_new' _ _ _) H1.out rfl).mono ?_; rintro e w2 ⟨G, cap, f, rfl, hG1, hG2, hG3, hG4, hG5, hG6, hGg⟩; have hgB : w1.grownBy w2 none := grown_trans (World.grownBy_alloc w1 _ none) hGg; have cR2 : w2.cell? ⟨R, 0, none⟩ = some (.slice (some ⟨B, 0, none⟩) m m) := hgB.cell cR1 (by simp); have fR2 : w2.frozen? ⟨R, 0, none⟩ = false := (World.frozen?_of_block (hgB.block R hRs1 (by simp))).trans ((World.frozen?_of_block (hDg.block R hRs (by simp))).trans fR); have cG2 := hG3.cell (i := bi) (by omega); have fG2 := hG3.frozen bi; have hne2 : R ≠ G := by have := hgB.size; simp at hG1; omega))
  all_goals
    have X : Hid (w.heap.size ≤ D ∧ l - l / 2 ≤ dcap ∧ w1.rowIs D 29 (dcap * 2) fd ∧ (∀ j, j < (l - l / 2) * 2 → fd j = F (l / 2 * 2 + j)) ∧ w.grownBy w1 none) := ⟨hD1, hD2, hD3, hD4, ⟨hDg.os, hDg.tape, hDg.output, hDg.size, hDg.block⟩⟩
    have Y : Hid (w1.heap.size + 1 ≤ G ∧ w2.rowIs G 26 cap f ∧ (∀ j, j < bi + 1 → f j = S j) ∧ f (bi + 1) = .slice (some ⟨D, 0, none⟩) (l - l / 2) dcap ∧ (∀ j, bi + 1 ≤ j → j < m → f (j + 1) = S j) ∧ w1.grownBy w2 none) := ⟨by simpa using hG1, hG3, hG4, hG5, hG6, hgB⟩
    clear hD1 hD2 hD3 hD4 hDg hG1 hG3 hG4 hG5 hG6 hgB hGg cR1
    have hix : (bi : Int) < (m : Int) + 1 := by omega
    have HP : Hid (SplitPost R C m bi l S F nv w ((w2.setCell ⟨R, 0, none⟩ (.slice (some ⟨G, 0, none⟩) (m + 1) cap)).setCell ⟨G, bi, none⟩ (.slice (some ⟨C, 0, none⟩) (l / 2) l))) := split_post (C := C) (l := l) (nv := nv) HR.out hRs hG2 X.out Y.out
    clear X Y HR HB HC HS H1 H2
    go_wp2
    go_region
    all_goals
      go_end0
      exact ⟨rfl, HP.out.drew⟩
set_option maxHeartbeats 1000000 in
theorem split_zero (R B C m bi : Nat) (S F : Nat → Value) (nv : Int) (w : World) (hbi : bi < m) (hm : m ≤ 900) 
    (hR : w.rowIs R 32 2 (ringF (.slice (some ⟨B, 0, none⟩) m m) nv)) (hB : w.rowIs B 26 m S) (hS : S bi = .slice (some ⟨C, 0, none⟩) 0 0) (hC : w.rowIs C 29 0 F)
    (h1 : ∀ j, j < m → (S j).oneCell' = true) (h2 : ∀ j, j < 0 → (F j).oneCell' = true) :
    Calls Yba.prog 4 #[.pointer (some ⟨R, 0, none⟩), .int .i64 bi] w fun e w' => e = .returned (.tuple #[]) ∧ SplitPost R C m bi 0 S F nv w w' := by
  have cR := hR.cell (i := 0) (by omega)
  simp only [ringF, if_true] at cR
  have cB := hB.cell hbi
  rw [hS] at cB
  have hw1 : IntKind.i64.wrap ((bi : Int) + 1) = (bi : Int) + 1 := by rw [IntKind.wrap_i64]; omega
  have hRs := hR.lt
  have fR := hR.frozen 0
  have HR : Hid (w.rowIs R 32 2 (ringF (.slice (some ⟨B, 0, none⟩) m m) nv)) := hR
  have HB : Hid (w.rowIs B 26 m S) := hB
  have HC : Hid (w.rowIs C 29 0 F) := hC
  have HS : Hid (S bi = .slice (some ⟨C, 0, none⟩) 0 0) := hS
  have H1 : Hid (∀ j, j < m → (S j).oneCell' = true) := h1
  have H2 : Hid (∀ j, j < 0 → (F j).oneCell' = true) := h2
  clear hR hB hC hS h1 h2
  go_enter Yba.func4, Yba.ntmps4
  go_wp2
  go_region_with (first
    | (go_at_call 6; refine (clone_row C 0 0 0 0 F _ (by exact HC.out) (by omega) H2.out (by omega)).mono ?_; rintro e w1 ⟨D, dcap, fd, rfl, hD1, hD2, hD3, hD4, hDg⟩; have cR1 : w1.cell? ⟨R, 0, none⟩ = some (.slice (some ⟨B, 0, none⟩) m m) := hDg.cell cR (by simp); have hRs1 : R < w1.heap.size := Nat.lt_of_lt_of_le hRs hDg.size)
    | (go_at_call 5; refine (insert_int B m (bi + 1) w1.heap.size 1 _ S (.slice (some ⟨D, 0, none⟩) (0) dcap) _ (by omega) (by omega) (by omega) (by omega) (((HB.out.of_block (hDg.block B HB.out.lt (by simp))).alloc _)) (cell_one_new' _ _ _) H1.out rfl).mono ?_; rintro e w2 ⟨G, cap, f, rfl, hG1, hG2, hG3, hG4, hG5, hG6, hGg⟩; have hgB : w1.grownBy w2 none := grown_trans (World.grownBy_alloc w1 _ none) hGg; have cR2 : w2.cell? ⟨R, 0, none⟩ = some (.slice (some ⟨B, 0, none⟩) m m) := hgB.cell cR1 (by simp); have fR2 : w2.frozen? ⟨R, 0, none⟩ = false := (World.frozen?_of_block (hgB.block R hRs1 (by simp))).trans ((World.frozen?_of_block (hDg.block R hRs (by simp))).trans fR); have cG2 := hG3.cell (i := bi) (by omega); have fG2 := hG3.frozen bi; have hne2 : R ≠ G := by have := hgB.size; simp at hG1; omega))
  all_goals
    have X : Hid (w.heap.size ≤ D ∧ 0 ≤ dcap ∧ w1.rowIs D 29 (dcap * 2) fd ∧ (∀ j, j < 0 → fd j = F (0 / 2 * 2 + j)) ∧ w.grownBy w1 none) := ⟨hD1, hD2, hD3, hD4, ⟨hDg.os, hDg.tape, hDg.output, hDg.size, hDg.block⟩⟩
    have Y : Hid (w1.heap.size + 1 ≤ G ∧ w2.rowIs G 26 cap f ∧ (∀ j, j < bi + 1 → f j = S j) ∧ f (bi + 1) = .slice (some ⟨D, 0, none⟩) (0) dcap ∧ (∀ j, bi + 1 ≤ j → j < m → f (j + 1) = S j) ∧ w1.grownBy w2 none) := ⟨by simpa using hG1, hG3, hG4, hG5, hG6, hgB⟩
    clear hD1 hD2 hD3 hD4 hDg hG1 hG3 hG4 hG5 hG6 hgB hGg cR1
    have hix : (bi : Int) < (m : Int) + 1 := by omega
    have HP : Hid (SplitPost R C m bi 0 S F nv w ((w2.setCell ⟨R, 0, none⟩ (.slice (some ⟨G, 0, none⟩) (m + 1) cap)).setCell ⟨G, bi, none⟩ (.slice (some ⟨C, 0, none⟩) 0 0))) := split_post (C := C) (l := 0) (nv := nv) HR.out hRs hG2 (by simpa using X.out) (by simpa using Y.out)
    clear X Y HR HB HC HS H1 H2
    go_wp2
    go_region
    all_goals
      go_end0
      exact ⟨rfl, HP.out.drew⟩

theorem split_any (R B C m bi l : Nat) (S F : Nat → Value) (nv : Int) (w : World) (hbi : bi < m) (hm : m ≤ 900) (hl2 : l ≤ 900)
    (hR : w.rowIs R 32 2 (ringF (.slice (some ⟨B, 0, none⟩) m m) nv)) (hB : w.rowIs B 26 m S) (hS : S bi = .slice (some ⟨C, 0, none⟩) l l) (hC : w.rowIs C 29 (l * 2) F)
    (h1 : ∀ j, j < m → (S j).oneCell' = true) (h2 : ∀ j, j < l * 2 → (F j).oneCell' = true) :
    Calls Yba.prog 4 #[.pointer (some ⟨R, 0, none⟩), .int .i64 bi] w fun e w' => e = .returned (.tuple #[]) ∧ SplitPost R C m bi l S F nv w w' := by
  rcases Nat.eq_zero_or_pos l with rfl | hl
  · exact split_zero R B C m bi S F nv w hbi hm hR hB hS (by simpa using hC) h1 (by simp)
  · exact split_pos R B C m bi l S F nv w hbi hm hl hl2 hR hB hS hC h1 h2
end Go.Proofs.Ybulkbdsk
