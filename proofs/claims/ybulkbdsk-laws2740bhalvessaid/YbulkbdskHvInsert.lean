import Derived.Test.YbulkbdskHvClone
import Derived.Shelf.Spec.SlicesInsert
import Derived.Lib.AppendZerosOnto
import Derived.Deep.RegionLaw
import Derived.Laws.NewBlocks
import Derived.Deep.OwnRows
import Derived.Lib.LazyBuf
namespace Go.Proofs.Ybulkbdsk
open Go.RowKit Go.Lib

set_option maxHeartbeats 400000 in
theorem insert_end (b n vb vc : Nat) (cs : List Value) (v : Value) (w : World) (hn : n ≤ 1000) (hcl : cs.length = n)
    (hcs : ∀ j u, cs[j]? = some u → w.cell? ⟨b, j, none⟩ = some u) (hv : w.cell? ⟨vb, 0, none⟩ = some v) (h1v : v.oneCell' = true) :
    Calls Yba.prog 5 #[.slice (some ⟨b, 0, none⟩) n n, .int .i64 n, .slice (some ⟨vb, 0, none⟩) 1 vc] w fun e w' => ∃ g cap, e = .returned (.slice (some ⟨g, 0, none⟩) (n + 1) cap) ∧ w'.ownsRow w.heap.size 26 1 (.slice (some ⟨g, 0, none⟩) (n + 1) cap) (n + 1) (cs ++ [v]) ∧ w.grownBy w' none := by
  obtain ⟨i0, hi, hz0, hz1, hz2⟩ := info_parts Yba.info26
  have A : Hid (∀ j u, cs[j]? = some u → w.cell? ⟨b, j, none⟩ = some u) := hcs
  have A1 : Hid (v.oneCell' = true) := h1v
  have A2 : Hid (w.cell? ⟨vb, 0, none⟩ = some v) := hv
  have A3 : Hid (cs.length = n) := hcl
  clear hcs h1v hv hcl
  go_enter Yba.func5, Yba.ntmps5
  go_wp2_with (at_builtin; refine wpList_append_grows _ rfl _ _ 25 rfl 26 i0 (.slice none 0 0) 1 24 Yba.underlying25 hi hz0 hz1 hz2 rfl (by decide) (some ⟨b, 0, none⟩) n n cs rfl ?qa ?qb ?qc ⟨vb, 0, none⟩ 1 vc [v] rfl rfl ?qd ?qe ?qf ?qg ?qh ?_)
  case qa => intro h; simp at h
  case qb => have := A3.out; omega
  case qc => intro b' hb' j u hj; cases hb'; rw [Addr.add_lit]; simpa using A.out j u hj
  case qd => intro j u hj; match j, hj with | 0, hj => simp at hj; subst hj; rw [Addr.add_lit]; exact A2.out
  case qe => intro u hu; simp at hu; subst hu; exact A1.out
  case qf => omega
  case qg => unfold maxLen; omega
  case qh => omega
  intro v' w1 hown hgrow
  obtain ⟨g, cap, rfl⟩ : ∃ g cap, v' = .slice (some ⟨g, 0, none⟩) (n + 1) cap := by
    rcases hown.2 with ⟨h, h'⟩ | ⟨g, cap, _, h, _⟩
    · omega
    · exact ⟨g, cap, by simpa using h⟩
  go_wp2
  go_ret
  exact ⟨g, cap, rfl, hown, hgrow⟩

set_option maxHeartbeats 4000000 in
set_option maxRecDepth 100000 in
theorem insert_mid0 (b n i vb vc : Nat) (cs : List Value) (v : Value) (w : World) (hi : i < n) (hn : n ≤ 1000) (hcl : cs.length = n)
    (hcs : ∀ j u, cs[j]? = some u → w.cell? ⟨b, j, none⟩ = some u) (hv : w.cell? ⟨vb, 0, none⟩ = some v) (h1c : ∀ u ∈ cs, u.oneCell' = true) (h1v : v.oneCell' = true) :
    Calls Yba.prog 5 #[.slice (some ⟨b, 0, none⟩) n n, .int .i64 i, .slice (some ⟨vb, 0, none⟩) 1 vc] w fun e w' =>
      e = .returned (.slice (some ⟨w.heap.size, 0, none⟩) (n + 1) (grownCap w (n + 1) n 26)) ∧
      w' = (((w.alloc (.cells ((cs.take i).toArray ++ Builtin.zeroCells (Value.slice none 0 0).cells (n + 1 - i) ++ Builtin.zeroCells (Value.slice none 0 0).cells (grownCap w (n + 1) n 26 - (n + 1))) 26)).drew.setCells w.heap.size i [v]).drew).setCells w.heap.size (i + 1) (cs.drop i) := by
  obtain ⟨i0, hi0, hz0, hzs, hzb⟩ := info_parts Yba.info26
  have hz2 : ¬ ((i : Int) = (n : Int)) := by omega
  have hz3 : (n : Int) < (n : Int) + 1 := by omega
  have hsz : (Yba.prog.info? 26).map (·.size) = some 1 := by rw [hi0]; simp [hzs]
  have hbw : b < w.heap.size := block_lt_of_cell (hcs 0 _ (List.getElem?_eq_getElem (by omega)))
  have hvw : vb < w.heap.size := block_lt_of_cell hv
  have hkk : (n : Int) + 1 - (i : Int) = ((n + 1 - i : Nat) : Int) := by omega
  have hik : i + (n + 1 - i) = n + 1 := by omega
  have hold : (Builtin.firstCells i0.size i (.slice (some ⟨b, 0, none⟩) i n)).run Yba.prog w.drew = .ok (cs.take i).toArray w.drew := by
    rw [hzs]
    exact run_firstCells_some w.drew 1 i ⟨b, 0, none⟩ i n (cs.take i) (by rw [List.length_take]; omega) (fun j v hj => by
      rw [Addr.add_lit]
      rw [List.getElem?_take] at hj
      split at hj
      · simpa using hcs j v hj
      · cases hj)
  have hrz : ∀ ty, (Builtin.append_ #[25, 3] ty #[.slice (some ⟨b, 0, none⟩) i n, .int .i64 ((n : Int) + 1 - (i : Int))]).run Yba.prog w =
      .ok (.slice (some ⟨w.heap.size, 0, none⟩) (n + 1) (grownCap w (n + 1) n 26)) (w.drew.alloc (.cells ((cs.take i).toArray ++ Builtin.zeroCells (Value.slice none 0 0).cells (n + 1 - i) ++ Builtin.zeroCells (Value.slice none 0 0).cells (grownCap w (n + 1) n 26 - (n + 1))) 26)) := fun ty => by
    have h := Lib.run_append_grow_zeros w 25 3 ty 26 i0 _ .i64 .i64 Yba.underlying25 Yba.underlying3 hi0 hz0 (some ⟨b, 0, none⟩) i n (cs.take i) hold (n + 1 - i) (by omega) (by omega) (by omega) (by omega) (by rw [hzb]; omega) (by rw [hzb, hik]; exact growslice_fits (by omega) (by omega))
    rw [hik] at h
    rw [hkk]
    exact h
  obtain ⟨G, hG⟩ : ∃ G, G = grownCap w (n + 1) n 26 := ⟨_, rfl⟩
  obtain ⟨ROW, hROW⟩ : ∃ ROW : Array Value, ROW = (cs.take i).toArray ++ Builtin.zeroCells (Value.slice none 0 0).cells (n + 1 - i) ++ Builtin.zeroCells (Value.slice none 0 0).cells (G - (n + 1)) := ⟨_, rfl⟩
  rw [← hG] at hrz ⊢
  rw [← hROW] at hrz ⊢
  have hRl : n + 1 ≤ ROW.size := by
    rw [hROW]
    simp [Builtin.zeroCells, Value.cells]
    omega
  obtain ⟨W1, hW1⟩ : ∃ W1, W1 = w.drew.alloc (.cells ROW 26) := ⟨_, rfl⟩
  rw [← hW1] at hrz
  have hN : ∀ j, j < n + 1 → (W1.cell? ⟨w.heap.size, j, none⟩).isSome = true := fun j hj => by
    rw [hW1, World.cell?_alloc_at (w := w.drew) ROW _ w.heap.size j rfl, Array.getElem?_eq_getElem (by omega)]; rfl
  have hNf : ∀ j, W1.frozen? ⟨w.heap.size, j, none⟩ = false := fun j => by rw [hW1]; exact World.frozen?_alloc_at (w := w.drew) ROW _ w.heap.size j rfl
  have hOb : ∀ j u, w.cell? ⟨b, j, none⟩ = some u → W1.cell? ⟨b, j, none⟩ = some u := fun j u h => by rw [hW1, World.cell?_alloc_past (w := w.drew) _ b j hbw]; exact h
  have hOv : W1.cell? ⟨vb, 0, none⟩ = some v := by rw [hW1, World.cell?_alloc_past (w := w.drew) _ vb 0 hvw]; exact hv
  have hcpA : ∀ (W : World), (∀ x, W.cell? x = W1.cell? x) → (∀ x, W.frozen? x = W1.frozen? x) → ∀ ty dc, (Builtin.copy_ #[25, 25] ty #[.slice (some ⟨w.heap.size, i, none⟩) (n + 1 - i) dc, .slice (some ⟨vb, 0, none⟩) 1 vc]).run Yba.prog W = .ok (goInt 1) (W.setCells w.heap.size i [v]) := fun W hWc hWf ty dc =>
    run_copy_cells W _ _ ty 26 w.heap.size i (n + 1 - i) dc ⟨vb, 0, none⟩ 1 vc [v] Yba.underlying25 hsz (by simp only [List.length_singleton, Nat.min_def]; split <;> omega)
      (fun j u hj => by
        match j, hj with
        | 0, hj => simp at hj; subst hj; rw [Addr.add_lit, hWc]; exact hOv)
      (fun j hj => by simp at hj; subst hj; rw [hWc]; exact hN _ (by omega)) (fun j hj => by rw [hWf]; exact hNf _) (fun u hu => by simp at hu; subst hu; exact h1v)
  have hGn : n + 1 ≤ G := by rw [hG]; exact grownCap_ge w _ _ _
  have hG63 : G ≤ 9223372036854775807 := by
    have := grownCap_le_maxLen w (n + 1) n 26 (by unfold maxLen; omega)
    rw [← hG] at this
    unfold maxLen at this
    omega
  have hGi : ¬ (G = i) := by omega
  have hGim : ¬ (G = i + 1) := by omega
  have hci : ¬ (n = i) := by omega
  have hbN : b ≠ w.heap.size := by omega
  have hdl : (cs.drop i).length = n - i := by rw [List.length_drop, hcl]
  have hcpB : ∀ (W : World), (∀ x, W.cell? x = (W1.setCells w.heap.size i [v]).cell? x) → (∀ x, W.frozen? x = (W1.setCells w.heap.size i [v]).frozen? x) → ∀ ty dc sc, (Builtin.copy_ #[25, 25] ty #[.slice (some ⟨w.heap.size, i + 1, none⟩) (n + 1 - (i + 1)) dc, .slice (some ⟨b, i, none⟩) (n - i) sc]).run Yba.prog W = .ok (goInt (cs.drop i).length) (W.setCells w.heap.size (i + 1) (cs.drop i)) := fun W hWc hWf ty dc sc =>
    run_copy_cells W _ _ ty 26 w.heap.size (i + 1) (n + 1 - (i + 1)) dc ⟨b, i, none⟩ (n - i) sc (cs.drop i) Yba.underlying25 hsz (by rw [hdl]; simp only [Nat.min_def]; split <;> omega)
      (fun j u hj => by
        rw [Addr.add_lit, hWc, World.cell?_setCells_out _ _ _ _ _ (fun h _ => absurd h hbN)]
        exact hOb _ u (hcs (i + j) u (by rwa [List.getElem?_drop] at hj)))
      (fun j hj => by rw [hWc]; exact isSome_setCells _ _ _ _ (fun t ht => hN _ (by simp at ht; omega)) _ (hN _ (by omega)))
      (fun j hj => by rw [hWf, World.frozen?_setCells]; exact hNf _) (fun u hu => h1c u (List.mem_of_mem_drop hu))
  subst hW1
  have hE1 : ∀ x, ((w.alloc (.cells ROW 26)).drew).cell? x = (w.drew.alloc (.cells ROW 26)).cell? x := fun x => rfl
  have hE2 : ∀ x, ((w.alloc (.cells ROW 26)).drew).frozen? x = (w.drew.alloc (.cells ROW 26)).frozen? x := fun x => rfl
  have hF1 : ∀ x, (((w.alloc (.cells ROW 26)).drew.setCells w.heap.size i [v]).drew).cell? x = ((w.drew.alloc (.cells ROW 26)).setCells w.heap.size i [v]).cell? x := fun x => rfl
  have hF2 : ∀ x, (((w.alloc (.cells ROW 26)).drew.setCells w.heap.size i [v]).drew).frozen? x = ((w.drew.alloc (.cells ROW 26)).setCells w.heap.size i [v]).frozen? x := fun x => rfl
  have hw1 : IntKind.i64.wrap ((i : Int) + 1) = (i : Int) + 1 := by rw [IntKind.wrap_i64]; omega
  have hb1 : (0 : Int) ≤ (i : Int) + 1 := by omega
  have hin : i ≤ n := by omega
  have htn : ((i : Int) + 1).toNat = i + 1 := by omega
  have hb3 : (i : Int) ≤ (n : Int) := by omega
  clear hkk hik hold hROW hG hRl
  go_enter Yba.func5, Yba.ntmps5
  go_wp2_with (first
    | (at_builtin; refine Lib.wpList_append_run _ rfl _ _ _ _ rfl _ _ rfl rfl _ _ (hrz _) ?_)
    | (at_builtin; refine wpList_copy_runI _ rfl _ _ 25 25 rfl _ _ rfl rfl (hcpA _ hE1 hE2 _ _) ?_)
    | (at_builtin; refine wpList_copy_runI _ rfl _ _ 25 25 rfl _ _ rfl rfl (hcpB _ (fun _ => rfl) (fun _ => rfl) _ _ _) ?_))
  go_region_law (refine step_copy_runI rfl _ _ 25 25 rfl (.slice (some ⟨w.heap.size, i + 1, none⟩) (n + 1 - (i + 1)) (G - (i + 1))) (.slice (some ⟨b, i, none⟩) (n - i) (n - i)) (by simp [Act.eval, Act.put]) (by simp [Act.eval, Act.put]) (hcpB _ hF1 hF2 3 (G - (i + 1)) (n - i)) ?_)
  go_wp2
  go_ret
  exact ⟨rfl, rfl⟩

/-- From an owned row to a row by its index. -/
theorem rowIs_of_owns {w : World} {base : Nat} {e : TypeId} {size g n cap : Nat} {xs : List Value} (h : w.ownsRow base e size (.slice (some ⟨g, 0, none⟩) n cap) n xs) :
    ∃ f, base ≤ g ∧ n ≤ cap ∧ w.rowIs g e (cap * size) f ∧ ∀ j u, xs[j]? = some u → f j = u := by
  obtain ⟨h1, h2⟩ := h
  rcases h2 with ⟨h2, _⟩ | ⟨g', cap', cur, hv, hb, hh, hc, _, hs, ht⟩
  · simp at h2
  · simp only [Value.slice.injEq, Option.some.injEq, Addr.mk.injEq] at hv
    obtain ⟨⟨rfl, _⟩, _, rfl⟩ := hv
    refine ⟨fun j => cur[j]?.getD default, hb, hc, ⟨cur, hh, hs, fun i hi => ?_⟩, fun j u hu => ?_⟩
    · simp [Array.getElem?_eq_getElem (show i < cur.size by omega)]
    · rw [← ht, List.getElem?_take] at hu
      split at hu
      · rw [Array.getElem?_toList] at hu
        simp [hu]
      · cases hu

theorem grown_of_below {w w' : World} (h : Below w.heap.size w w') : w.grownBy w' none := ⟨h.os, h.tape, h.output, h.size, fun k hk _ => h.block k hk⟩

theorem rowIs_new (w : World) (c : Array Value) (t : TypeId) : (w.alloc (.cells c t)).rowIs w.heap.size t c.size (fun j => c[j]?.getD default) :=
  World.rowIs_alloc w c t _ (fun i hi => by simp [Array.getElem?_eq_getElem hi])

theorem insert_any (b n i vb vc : Nat) (S : Nat → Value) (v : Value) (w : World) (hi : i ≤ n) (hn : n ≤ 1000) (h0 : 0 < n)
    (hS : w.rowIs b 26 n S) (hv : w.cell? ⟨vb, 0, none⟩ = some v) (h1c : ∀ j, j < n → (S j).oneCell' = true) (h1v : v.oneCell' = true) :
    Calls Yba.prog 5 #[.slice (some ⟨b, 0, none⟩) n n, .int .i64 i, .slice (some ⟨vb, 0, none⟩) 1 vc] w fun e w' => ∃ g cap f, e = .returned (.slice (some ⟨g, 0, none⟩) (n + 1) cap) ∧ w.heap.size ≤ g ∧ n + 1 ≤ cap ∧ w'.rowIs g 26 cap f ∧
      (∀ j, j < i → f j = S j) ∧ f i = v ∧ (∀ j, i ≤ j → j < n → f (j + 1) = S j) ∧ w.grownBy w' none := by
  have hl : ((List.range n).map S).length = n := by simp
  have hcs : ∀ j u, ((List.range n).map S)[j]? = some u → w.cell? ⟨b, j, none⟩ = some u := by
    intro j u hj
    simp only [List.getElem?_map, Option.map_eq_some_iff] at hj
    obtain ⟨a, ha, rfl⟩ := hj
    obtain ⟨hjn, rfl⟩ : j < n ∧ j = a := by
      rw [List.getElem?_eq_some_iff] at ha
      obtain ⟨h, h'⟩ := ha
      simp at h h'
      exact ⟨h, h'⟩
    exact hS.cell hjn
  have hget : ∀ j, j < n → ((List.range n).map S)[j]? = some (S j) := fun j hj => by simp [hj]
  rcases Nat.lt_or_ge i n with hin | hin
  · refine (insert_mid0 b n i vb vc _ v w hin hn hl hcs hv (fun u hu => ?_) h1v).mono ?_
    · obtain ⟨j, hj, rfl⟩ := List.mem_map.1 hu
      exact h1c j (by simpa using hj)
    · rintro e w' ⟨rfl, rfl⟩
      have hge := grownCap_ge w (n + 1) n 26
      generalize grownCap w (n + 1) n 26 = G at *
      have r0 := rowIs_new w ((((List.range n).map S).take i).toArray ++ Builtin.zeroCells (Value.slice none 0 0).cells (n + 1 - i) ++ Builtin.zeroCells (Value.slice none 0 0).cells (G - (n + 1))) 26
      have hsz : ((((List.range n).map S).take i).toArray ++ Builtin.zeroCells (Value.slice none 0 0).cells (n + 1 - i) ++ Builtin.zeroCells (Value.slice none 0 0).cells (G - (n + 1))).size = G := by
        simp [Builtin.zeroCells, Value.cells]
        omega
      have hat : ∀ j, j < i → ((((List.range n).map S).take i).toArray ++ Builtin.zeroCells (Value.slice none 0 0).cells (n + 1 - i) ++ Builtin.zeroCells (Value.slice none 0 0).cells (G - (n + 1)))[j]? = some (S j) := by
        intro j hj
        rw [Array.append_assoc, Array.getElem?_append_left (by simp; omega)]
        rw [List.getElem?_toArray, List.getElem?_take, if_pos hj]
        exact hget j (by omega)
      generalize ((((List.range n).map S).take i).toArray ++ Builtin.zeroCells (Value.slice none 0 0).cells (n + 1 - i) ++ Builtin.zeroCells (Value.slice none 0 0).cells (G - (n + 1))) = C at *
      rw [hsz] at r0
      have r1 := rowIs_setCells [v] i _ _ r0.drew
      have r2 := rowIs_setCells (((List.range n).map S).drop i) (i + 1) _ _ r1.drew
      refine ⟨w.heap.size, G, _, rfl, Nat.le_refl _, hge, r2, fun j hj => ?_, ?_, fun j h1 h2 => ?_, grown_of_below (below_setCells (Nat.le_refl _) _ _ _ (below_setCells (Nat.le_refl _) _ _ _ ((Below.refl _ w).alloc (Nat.le_refl _) _).drew).drew)⟩
      · rw [if_neg (by omega), if_neg (by omega), hat j hj]
        rfl
      · rw [if_neg (by omega), if_pos (by simp)]
        simp
      · rw [if_pos (by simp; omega), List.getElem?_drop, show i + (j + 1 - (i + 1)) = j by omega, hget j h2]
        rfl
  · obtain rfl : i = n := by omega
    refine (insert_end b i vb vc _ v w hn hl hcs hv h1v).mono ?_
    rintro e w' ⟨g, cap, rfl, hown, hgr⟩
    obtain ⟨f, f1, f2, f3, f4⟩ := rowIs_of_owns hown
    refine ⟨g, cap, f, rfl, f1, f2, by simpa using f3, fun j hj => f4 j _ ?_, f4 i _ ?_, fun j h1 h2 => by omega, hgr⟩
    · rw [List.getElem?_append_left (by simp; omega)]; exact hget j hj
    · rw [List.getElem?_append_right (by simp)]; simp

/-- slices.Clone of a part of a row of pairs. -/
theorem clone_row (b off n c N : Nat) (F : Nat → Value) (w : World) (hF : w.rowIs b 29 N F) (hN : off + n * 2 ≤ N) (h1 : ∀ j, j < N → (F j).oneCell' = true) (hn : n ≤ 1000) :
    Calls Yba.prog 6 #[.slice (some ⟨b, off, none⟩) n c] w fun e w' => ∃ g cap f, e = .returned (.slice (some ⟨g, 0, none⟩) n cap) ∧ w.heap.size ≤ g ∧ n ≤ cap ∧ w'.rowIs g 29 (cap * 2) f ∧ (∀ j, j < n * 2 → f j = F (off + j)) ∧ w.grownBy w' none := by
  refine (clone_any ⟨b, off, none⟩ n c ((List.range (n * 2)).map fun j => F (off + j)) w (by simp) ?_ ?_ hn).mono ?_
  · intro j u hj
    simp only [List.getElem?_map, Option.map_eq_some_iff] at hj
    obtain ⟨a, ha, rfl⟩ := hj
    obtain ⟨hjn, rfl⟩ : j < n * 2 ∧ j = a := by
      rw [List.getElem?_eq_some_iff] at ha
      obtain ⟨h, h'⟩ := ha
      simp at h h'
      exact ⟨h, h'⟩
    rw [Addr.add_lit]
    exact hF.cell (by omega)
  · intro u hu
    obtain ⟨j, hj, rfl⟩ := List.mem_map.1 hu
    exact h1 _ (by simp at hj; omega)
  · rintro e w' ⟨g, cap, rfl, hown, hgr⟩
    obtain ⟨f, f1, f2, f3, f4⟩ := rowIs_of_owns hown
    exact ⟨g, cap, f, rfl, f1, f2, f3, fun j hj => f4 j _ (by simp [hj]), hgr⟩
end Go.Proofs.Ybulkbdsk
