/-
  One slice of an Index grows by an element.
-/
import Derived.Test.YbulkbdskDoorRows2
namespace Go.Proofs.YbulkbdskDoor
open Go Go.RowKit

theorem news_new (w : World) (c : Array Value) (t : TypeId) : ∀ j u, c.toList[j]? = some u → (w.alloc (.cells c t)).cell? ((⟨w.heap.size, 0, none⟩ : Addr).add j) = some u := by
  intro j u h
  rw [Addr.add_mid]
  exact rangeAt_new w c t j u h

theorem Sl.arm {W : World} {tb e sz n : Nat} {v : Value} {f tf : Nat → Value} (hs : Sl W tb e sz v n f) (hr : W.rowIs tb 75 17 tf) :
    ∃ ao cap, v = .slice ao n cap ∧ (∀ o, (W.alloc o).ownsRow (tb + 1) e sz (.slice ao n cap) n ((List.range (n * sz)).map f)) ∧ (∀ o w8, (W.alloc o).grownBy w8 (Value.slice ao n cap).ownBlock → w8.rowIs tb 75 17 tf) ∧ tb + 1 ≤ W.heap.size := by
  obtain ⟨ao, cap, rfl⟩ := hs.form
  refine ⟨ao, cap, rfl, fun o => (hs.turn ((Turn.refl [] W).alloc o) (by simp)).owns, fun o w8 hg => ?_, hr.lt⟩
  have hT8 : Turn (Value.slice ao n cap).ownBlock.toList (W.alloc o) w8 := (Turn.refl _ _).grown (row := (Value.slice ao n cap).ownBlock) hg (fun k e => .inl (by simp [e]))
  exact hT8.row (hr.alloc o) (fun hm => by
    have := (hs.block (by simpa using hm)).1
    omega)

theorem app_done {w W w8 : World} {tb j e sz n : Nat} {tf f g : Nat → Value} {v v' : Value} {o : Obj} {news : List Value} (hs : Sl W tb e sz v n f) (hr : W.rowIs tb 75 17 tf) (he : e ∈ TX) (hf : Fr tb TX w W) (hg : (W.alloc o).grownBy w8 v.ownBlock)
    (ho : w8.ownsRow (tb + 1) e sz v' (n + 1) ((List.range (n * sz)).map f ++ news)) (hgf : ∀ k, k < n * sz → g k = f k) (hn : ∀ k, k < sz → news[k]? = some (g (n * sz + k))) :
    (w8.setCell ⟨tb, j, none⟩ v').rowIs tb 75 17 (fun k => if k = j then v' else tf k) ∧ Fr tb TX w (w8.setCell ⟨tb, j, none⟩ v') ∧ Sl (w8.setCell ⟨tb, j, none⟩ v') tb e sz v' (n + 1) g ∧
      ∀ (b : Nat) (o' : Obj), tb < b → W.heap[b]? = some o' → (∀ c, o' ≠ .cells c e (0, 0)) → (w8.setCell ⟨tb, j, none⟩ v').heap[b]? = some o' := by
  have hT1 : Turn [] W (W.alloc o) := (Turn.refl [] W).alloc o
  have hT8 : Turn v.ownBlock.toList (W.alloc o) w8 := (Turn.refl _ _).grown (row := v.ownBlock) hg (fun k e => .inl (by simp [e]))
  have hty : ∀ k ∈ v.ownBlock.toList, tb < k ∧ ∃ c, (W.alloc o).heap[k]? = some (.cells c e (0, 0)) := fun k hk => (hs.turn hT1 (by simp)).block (by simpa using hk)
  have t8 : w8.rowIs tb 75 17 tf := hT8.row (hr.alloc o) (fun hm => by have := (hty _ hm).1; omega)
  refine ⟨t8.set j v', ?_, ?_, fun b o' hb ho' hc => ?_⟩
  · refine ((hf.alloc o).trans (Fr.ofTurn hT8 (fun k hk => by have := (hty k hk).1; omega) (fun k hk c t fr hc => ?_))).setCell (p := ⟨tb, j, none⟩) t8 (Nat.le_refl _) (by decide) _
    obtain ⟨_, c2, h2⟩ := hty k hk
    rw [h2] at hc
    cases hc
    exact he
  · refine (Sl.appended ho hgf hn).of (fun b o' hb ho' _ => ?_)
    rw [Below.heap_setCell]
    · exact ho'
    · show b ≠ tb; omega
  · rw [Below.heap_setCell]
    · refine hT8.obj (hT1.obj ho' (by simp)) (fun hm => ?_)
      obtain ⟨_, c2, h2⟩ := hty b hm
      rw [hT1.obj ho' (by simp)] at h2
      cases h2
      exact hc c2 rfl
    · show b ≠ tb; omega

theorem Grp.of2 {W W' : World} {tb m mb : Nat} {ids : Nat → Nat} {g5 g6 : Value} (h : Grp W tb g5 g6 m ids mb) (hk : ∀ (b : Nat) (o : Obj), tb < b → W.heap[b]? = some o → (∀ c, o ≠ .cells c 92 (0, 0) ∧ o ≠ .cells c 36 (0, 0) ∧ o ≠ .cells c 4 (0, 0) ∧ o ≠ .cells c 112 (0, 0)) → W'.heap[b]? = some o) : Grp W' tb g5 g6 m ids mb := by
  refine ⟨fun hm => ?_, fun hm => ?_⟩
  · obtain ⟨h1, h2⟩ := h.off hm
    refine ⟨h1.imp id ?_, h2.of (fun b o hb ho ⟨c, e⟩ => hk b o hb ho (fun c' => by rw [e]; simp))⟩
    rintro ⟨gb, clock, hg, h5, hh⟩
    exact ⟨gb, clock, hg, h5, hk _ _ hg hh (fun c' => by simp)⟩
  · obtain ⟨gb, clock, born, mf, c, hg, h5, hh, h6, hmb, hM, h3, h4, hd⟩ := h.on hm
    exact ⟨gb, clock, born, mf, c, hg, h5, hk _ _ hg hh (fun c' => by simp), h6.of (fun b o hb ho ⟨c, e⟩ => hk b o hb ho (fun c' => by rw [e]; simp)), hmb, row_of hM (fun o ho ⟨c, e⟩ => hk _ o hmb ho (fun c' => by rw [e]; simp)), h3, h4,
      hd.of (fun b o hb ho ⟨c, e⟩ => hk b o hb ho (fun c' => by rw [e]; simp))⟩

/-- In the middle of Add: the four slices of n1, .., n4 elements. -/
structure Ad (w W : World) (tb : Nat) (tf0 tf : Nat → Value) (n1 n2 n3 n4 n : Nat) (ids : Nat → Nat) (pos : Nat → Option Nat) (mb : Nat) : Prop where
  row : W.rowIs tb 75 17 tf
  keep : ∀ k, k = 0 ∨ 5 ≤ k → tf k = tf0 k
  places : Sl W tb 92 9 (tf 1) n1 (fun k => zp (k % 9))
  keys : ∃ f : Nat → Int, Sl W tb 36 1 (tf 2) n2 (fun k => .int .u64 (f k))
  complete : ∃ f : Nat → Bool, Sl W tb 4 1 (tf 3) n3 (fun k => .bool (f k))
  ins : ∃ F, Sl W tb 112 6 (tf 4) n4 F ∧ ∀ i p, pos i = some p → InAt F mb i p
  grp : Grp W tb (tf 5) (tf 6) n ids mb
  fr : Fr tb TX w W

theorem info92 : (Ybad.prog.info? 92).map (fun i => (i.zero, i.size, i.bytes)) = some (some (.agg #[.int .u64 0, .int .u64 0, .pointer none, .int .u8 0, .int .u32 0, .string ⟨#[]⟩, .string ⟨#[]⟩, .string ⟨#[]⟩, .int .u8 0]), 9, 96) := by kernel_rfl
theorem info36 : (Ybad.prog.info? 36).map (fun i => (i.zero, i.size, i.bytes)) = some (some (.int .u64 0), 1, 8) := by kernel_rfl
theorem info4 : (Ybad.prog.info? 4).map (fun i => (i.zero, i.size, i.bytes)) = some (some (.bool false), 1, 1) := by kernel_rfl
theorem info112 : (Ybad.prog.info? 112).map (fun i => (i.zero, i.size, i.bytes)) = some (some (.agg #[.pointer none, .int .i32 0, .pointer none, .int .i32 0, .pointer none, .int .i32 0]), 6, 48) := by kernel_rfl

end Go.Proofs.YbulkbdskDoor
