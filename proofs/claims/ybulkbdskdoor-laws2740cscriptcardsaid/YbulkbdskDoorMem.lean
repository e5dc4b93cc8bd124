/-
  Memory: what a call may have turned ('Turn': a list of blocks; 'Fr': by the cells' types), slices of the call's own ('Sl'), the Index in memory ('Ix').
-/
import Derived.Test.YbulkbdskDoorRange
import Derived.Deep.OwnRows
import Derived.Deep.MidRow
import Derived.Maps.AppendAt
namespace Go.Proofs.YbulkbdskDoor
open Go Go.RowKit

/-- w' is w but for the blocks on the list, and new blocks. -/
structure Turn (ks : List Nat) (w w' : World) : Prop where
  os : w'.os = w.os
  tape : w'.tape = w.tape
  output : w'.output = w.output
  size : w.heap.size ≤ w'.heap.size
  block : ∀ k, k < w.heap.size → k ∉ ks → w'.heap[k]? = w.heap[k]?

namespace Turn
variable {ks ls : List Nat} {a b c w w' : World}
theorem refl (ks : List Nat) (w : World) : Turn ks w w := ⟨rfl, rfl, rfl, Nat.le_refl _, fun _ _ _ => rfl⟩
theorem trans (h : Turn ks a b) (k : Turn ks b c) : Turn ks a c :=
  ⟨k.os.trans h.os, k.tape.trans h.tape, k.output.trans h.output, Nat.le_trans h.size k.size, fun i hi hn => (k.block i (Nat.lt_of_lt_of_le hi h.size) hn).trans (h.block i hi hn)⟩
/-- The second step's blocks are the first's, or new. -/
theorem andThen (h : Turn ks a b) (k : Turn ls b c) (hl : ∀ i ∈ ls, i ∈ ks ∨ a.heap.size ≤ i) : Turn ks a c :=
  ⟨k.os.trans h.os, k.tape.trans h.tape, k.output.trans h.output, Nat.le_trans h.size k.size, fun i hi hn =>
    (k.block i (Nat.lt_of_lt_of_le hi h.size) (fun hm => by rcases hl i hm with h' | h'; exact hn h'; omega)).trans (h.block i hi hn)⟩
theorem mono (h : Turn ks a b) (hl : ∀ i ∈ ks, i ∈ ls) : Turn ls a b := ⟨h.os, h.tape, h.output, h.size, fun i hi hn => h.block i hi (fun hm => hn (hl i hm))⟩
theorem drew (h : Turn ks a b) : Turn ks a b.drew := ⟨h.os, h.tape, h.output, h.size, h.block⟩
theorem drewN (h : Turn ks a b) (n : Nat) : Turn ks a (b.drewN n) := ⟨h.os, h.tape, h.output, h.size, h.block⟩
theorem alloc (h : Turn ks a b) (o : Obj) : Turn ks a (b.alloc o) :=
  h.trans ⟨rfl, rfl, rfl, by simp, fun k hk _ => Below.heap_alloc _ _ _ hk⟩
theorem setCell (h : Turn ks a b) {p : Addr} (hp : p.block ∈ ks ∨ a.heap.size ≤ p.block) (u : Value) : Turn ks a (b.setCell p u) :=
  h.andThen (ls := [p.block]) ⟨rfl, rfl, rfl, by simp [World.setCell], fun k _ hn => Below.heap_setCell _ _ _ _ (by simpa using hn)⟩ (fun i hi => by simp at hi; subst hi; exact hp)
theorem grown {row : Option Nat} (h : Turn ks a b) (hg : b.grownBy c row) (hr : ∀ k, row = some k → k ∈ ks ∨ a.heap.size ≤ k) : Turn ks a c :=
  h.andThen (ls := row.toList) ⟨hg.os, hg.tape, hg.output, hg.size, fun k hk hn => hg.block k hk (fun e => hn (by rw [← e]; simp))⟩ (fun i hi => hr i (by cases row <;> simp_all))
theorem below (h : Turn ks a b) {B : Nat} (hB : B ≤ a.heap.size) (hk : ∀ k ∈ ks, B ≤ k) : Below B a b :=
  ⟨h.os, h.tape, h.output, h.size, fun k hkB => h.block k (by omega) (fun hm => by have := hk k hm; omega)⟩
theorem ofBelow (h : Below a.heap.size a b) : Turn [] a b := ⟨h.os, h.tape, h.output, h.size, fun k hk _ => h.block k hk⟩
theorem ofSame (h : Same a b) : Turn [] a b := ofBelow (h.below _)
theorem obj (h : Turn ks a b) {k : Nat} {o : Obj} (ho : a.heap[k]? = some o) (hn : k ∉ ks) : b.heap[k]? = some o :=
  (h.block k (Array.getElem?_eq_some_iff.1 ho).1 hn).trans ho
theorem row (h : Turn ks a b) {k : Nat} {t : TypeId} {n : Nat} {f : Nat → Value} (hr : a.rowIs k t n f) (hn : k ∉ ks) : b.rowIs k t n f := hr.of_block (h.block k hr.lt hn)
end Turn

/-- Two rows of cells of different types are two blocks. -/
theorem row_ne {w : World} {b b' : Nat} {t t' : TypeId} {n n' : Nat} {f f' : Nat → Value} (h : w.rowIs b t n f) (h' : w.rowIs b' t' n' f') (ht : t ≠ t') : b ≠ b' := by
  rintro rfl
  obtain ⟨c, hc, _⟩ := h
  obtain ⟨c', hc', _⟩ := h'
  rw [hc] at hc'
  cases hc'
  exact ht rfl

/-- w' is w but for new blocks and such blocks from lo on as are no cells, or cells of a type on the list. -/
structure Fr (lo : Nat) (T : List TypeId) (w w' : World) : Prop where
  os : w'.os = w.os
  tape : w'.tape = w.tape
  output : w'.output = w.output
  size : w.heap.size ≤ w'.heap.size
  block : ∀ k o, w.heap[k]? = some o → (k < lo ∨ ∃ c t fr, o = .cells c t fr ∧ t ∉ T) → w'.heap[k]? = some o

namespace Fr
variable {lo : Nat} {T : List TypeId} {a b c w w' : World}
theorem refl (lo : Nat) (T : List TypeId) (w : World) : Fr lo T w w := ⟨rfl, rfl, rfl, Nat.le_refl _, fun _ _ h _ => h⟩
theorem trans (h : Fr lo T a b) (k : Fr lo T b c) : Fr lo T a c :=
  ⟨k.os.trans h.os, k.tape.trans h.tape, k.output.trans h.output, Nat.le_trans h.size k.size, fun i o ho hk => k.block i o (h.block i o ho hk) hk⟩
theorem mono {lo' : Nat} {T' : List TypeId} (h : Fr lo T a b) (hlo : lo' ≤ lo) (hT : ∀ t ∈ T, t ∈ T') : Fr lo' T' a b :=
  ⟨h.os, h.tape, h.output, h.size, fun i o ho hk => h.block i o ho (hk.imp (fun h => by omega) (fun ⟨c, t, fr, e, hn⟩ => ⟨c, t, fr, e, fun hm => hn (hT t hm)⟩))⟩
theorem below (h : Fr lo T a b) (hlo : lo ≤ a.heap.size) : Below lo a b :=
  ⟨h.os, h.tape, h.output, h.size, fun k hk => by
    have hlt : k < a.heap.size := by omega
    rw [Array.getElem?_eq_getElem hlt]
    exact h.block k _ (Array.getElem?_eq_getElem hlt) (.inl hk)⟩
theorem row (h : Fr lo T a b) {k : Nat} {t : TypeId} {n : Nat} {f : Nat → Value} (hr : a.rowIs k t n f) (ht : t ∉ T) : b.rowIs k t n f := by
  obtain ⟨c, hc, hs, hf⟩ := hr
  exact ⟨c, h.block k _ hc (.inr ⟨c, t, (0, 0), rfl, ht⟩), hs, hf⟩
/-- A list of blocks, each from lo on, and none a row of cells of another type. -/
theorem ofTurn {ks : List Nat} (h : Turn ks a b) (hlo : ∀ k ∈ ks, lo ≤ k) (hT : ∀ k ∈ ks, ∀ c t fr, a.heap[k]? = some (.cells c t fr) → t ∈ T) : Fr lo T a b :=
  ⟨h.os, h.tape, h.output, h.size, fun k o ho hk => h.obj ho (fun hm => by
    rcases hk with hk | ⟨c, t, fr, rfl, hn⟩
    · have := hlo k hm; omega
    · exact hn (hT k hm c t fr ho))⟩
theorem drew (h : Fr lo T a b) : Fr lo T a b.drew := ⟨h.os, h.tape, h.output, h.size, h.block⟩
theorem drewN (h : Fr lo T a b) (n : Nat) : Fr lo T a (b.drewN n) := ⟨h.os, h.tape, h.output, h.size, h.block⟩
theorem alloc (h : Fr lo T a b) (o : Obj) : Fr lo T a (b.alloc o) :=
  h.trans (ofTurn (ks := []) ((Turn.refl [] b).alloc o) (by simp) (by simp))
theorem setCell (h : Fr lo T a b) {p : Addr} {t : TypeId} {n : Nat} {f : Nat → Value} (hr : b.rowIs p.block t n f) (hl : lo ≤ p.block) (ht : t ∈ T) (u : Value) : Fr lo T a (b.setCell p u) :=
  h.trans (ofTurn (ks := [p.block]) ((Turn.refl _ b).setCell (.inl (by simp)) u) (by simpa using hl) (fun k hk c t' fr hc => by
    simp at hk; subst hk
    obtain ⟨c0, h0, _⟩ := hr
    rw [h0] at hc; cases hc; exact ht))
end Fr

/-- A SLICE OF THE CALL's OWN: nil, or at the head of a row beyond block tb; its first n elements, sz cells each, hold f. -/
def Sl (w : World) (tb : Nat) (e : TypeId) (sz : Nat) (v : Value) (n : Nat) (f : Nat → Value) : Prop :=
  (v = .slice none 0 0 ∧ n = 0) ∨
  ∃ g cap F, v = .slice (some ⟨g, 0, none⟩) n cap ∧ tb < g ∧ n ≤ cap ∧ cap ≤ maxLen ∧ w.rowIs g e (cap * sz) F ∧ ∀ k, k < n * sz → F k = f k

namespace Sl
variable {w w' : World} {tb : Nat} {e : TypeId} {sz : Nat} {v : Value} {n : Nat} {f g : Nat → Value}

theorem pos (h : Sl w tb e sz v n f) (hn : 0 < n) : ∃ g cap F, v = .slice (some ⟨g, 0, none⟩) n cap ∧ tb < g ∧ n ≤ cap ∧ cap ≤ maxLen ∧ w.rowIs g e (cap * sz) F ∧ ∀ k, k < n * sz → F k = f k := by
  rcases h with ⟨_, h⟩ | h
  · omega
  · exact h

theorem nil (w : World) (tb : Nat) (e : TypeId) (sz : Nat) (f : Nat → Value) : Sl w tb e sz (.slice none 0 0) 0 f := .inl ⟨rfl, rfl⟩

theorem congr (h : Sl w tb e sz v n f) (hf : ∀ k, k < n * sz → f k = g k) : Sl w tb e sz v n g := by
  rcases h with h | ⟨b, cap, F, hv, hb, hn, hm, hr, hF⟩
  · exact .inl h
  · exact .inr ⟨b, cap, F, hv, hb, hn, hm, hr, fun k hk => (hF k hk).trans (hf k hk)⟩

theorem fr {lo : Nat} {T : List TypeId} (h : Sl w tb e sz v n f) (hf : Fr lo T w w') (he : e ∉ T) : Sl w' tb e sz v n f := by
  rcases h with h | ⟨b, cap, F, hv, hb, hn, hm, hr, hF⟩
  · exact .inl h
  · exact .inr ⟨b, cap, F, hv, hb, hn, hm, hf.row hr he, hF⟩

theorem turn {ks : List Nat} (h : Sl w tb e sz v n f) (hf : Turn ks w w') (he : ∀ b, v.ownBlock = some b → b ∉ ks) : Sl w' tb e sz v n f := by
  rcases h with h | ⟨b, cap, F, rfl, hb, hn, hm, hr, hF⟩
  · exact .inl h
  · exact .inr ⟨b, cap, F, rfl, hb, hn, hm, hf.row hr (he b rfl), hF⟩

/-- The first m of the elements, as a slice of the same row. -/
theorem take {b cap m : Nat} (h : Sl w tb e sz (.slice (some ⟨b, 0, none⟩) n cap) n f) (hm : m ≤ n) : Sl w tb e sz (.slice (some ⟨b, 0, none⟩) m cap) m f := by
  rcases h with ⟨h, _⟩ | ⟨b', cap', F, hv, hb, hn, hc, hr, hF⟩
  · cases h
  · cases hv
    exact .inr ⟨_, _, F, rfl, hb, by omega, hc, hr, fun k hk => hF k (Nat.lt_of_lt_of_le hk (Nat.mul_le_mul_right _ hm))⟩

theorem owns (h : Sl w tb e sz v n f) : w.ownsRow (tb + 1) e sz v n ((List.range (n * sz)).map f) := by
  refine ⟨by simp, ?_⟩
  rcases h with h | ⟨b, cap, F, hv, hb, hn, hm, ⟨c, hc, hs, hF0⟩, hF⟩
  · exact .inl h
  · refine .inr ⟨b, cap, c, hv, hb, hc, hn, hm, hs, ?_⟩
    have hle : n * sz ≤ cap * sz := Nat.mul_le_mul_right _ hn
    apply List.ext_getElem?
    intro k
    rw [List.getElem?_take]
    by_cases hk : k < n * sz
    · rw [if_pos hk, Array.getElem?_toList, hF0 k (by omega), hF k hk]
      simp [hk]
    · rw [if_neg hk]
      simp [hk]

theorem ofOwns {xs : List Value} (h : w.ownsRow (tb + 1) e sz v n xs) (hf : ∀ k, k < n * sz → xs[k]? = some (f k)) : Sl w tb e sz v n f := by
  rcases h.2 with h1 | ⟨b, cap, c, hv, hb, hc, hn, hm, hs, ht⟩
  · exact .inl h1
  · have hle : n * sz ≤ cap * sz := Nat.mul_le_mul_right _ hn
    refine .inr ⟨b, cap, fun k => (c[k]?).getD undef, hv, hb, hn, hm, ⟨c, hc, hs, fun i hi => ?_⟩, fun k hk => ?_⟩
    · have hlt : i < c.size := by omega
      simp [Array.getElem?_eq_getElem hlt]
    · have h2 := hf k hk
      rw [← ht, List.getElem?_take, if_pos hk, Array.getElem?_toList] at h2
      show (c[k]?).getD undef = f k
      rw [h2]; rfl

/-- Behind an append of one element. -/
theorem appended {news : List Value} {v' : Value} (ho : w'.ownsRow (tb + 1) e sz v' (n + 1) ((List.range (n * sz)).map f ++ news))
    (hg : ∀ k, k < n * sz → g k = f k) (hn : ∀ k, k < sz → news[k]? = some (g (n * sz + k))) : Sl w' tb e sz v' (n + 1) g := by
  refine ofOwns ho (fun k hk => ?_)
  rw [Nat.add_mul, Nat.one_mul] at hk
  by_cases h1 : k < n * sz
  · rw [List.getElem?_append_left (by simpa using h1)]
    simp [h1, hg k h1]
  · rw [List.getElem?_append_right (by simpa using h1)]
    have := hn (k - n * sz) (by omega)
    rw [show n * sz + (k - n * sz) = k by omega] at this
    simpa using this
end Sl

end Go.Proofs.YbulkbdskDoor
