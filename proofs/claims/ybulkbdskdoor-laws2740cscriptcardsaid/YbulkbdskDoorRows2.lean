/-
  An Index all of whose candidates are in the group; stores into its rows.
-/
import Derived.Test.YbulkbdskDoorMid
namespace Go.Proofs.YbulkbdskDoor
open Go Go.RowKit

/-- What all of the index's functions may turn. -/
abbrev TX : List TypeId := [75, 132, 21, 112, 109, 92, 36, 4]

/-- n candidates, all in the group. -/
def IxA (w : World) (tb : Nat) (tf : Nat → Value) (n : Nat) : Prop := ∃ ids pos mb, Ix w tb tf n n ids pos mb ∧ ∀ i, i < n → pos i ≠ none

theorem IxA.of {w w' : World} {tb n : Nat} {tf tf' : Nat → Value} (h : IxA w tb tf n) (hk : ∀ b o, tb < b → w.heap[b]? = some o → ixObj o = true → w'.heap[b]? = some o) (hr : w'.rowIs tb 75 17 tf') (ht : ∀ k, 0 < k → k < 8 → tf' k = tf k) : IxA w' tb tf' n := by
  obtain ⟨ids, pos, mb, h, ha⟩ := h
  exact ⟨ids, pos, mb, h.of hk hr ht, ha⟩
theorem IxA.turn {ks : List Nat} {w w' : World} {tb n : Nat} {tf : Nat → Value} (h : IxA w tb tf n) (ht : Turn ks w w') (hn : ∀ k ∈ ks, ∀ o, w.heap[k]? = some o → ixObj o = false) : IxA w' tb tf n := by
  obtain ⟨ids, pos, mb, h, ha⟩ := h
  exact ⟨ids, pos, mb, h.turn ht hn, ha⟩
theorem IxA.row {w : World} {tb n : Nat} {tf : Nat → Value} (h : IxA w tb tf n) : w.rowIs tb 75 17 tf := by
  obtain ⟨ids, pos, mb, h, _⟩ := h
  exact h.row
theorem IxA.small {w : World} {tb n : Nat} {tf : Nat → Value} (h : IxA w tb tf n) : n ≤ 3 := by
  obtain ⟨ids, pos, mb, h, _⟩ := h
  exact h.small
theorem IxA.places {w : World} {tb n : Nat} {tf : Nat → Value} (h : IxA w tb tf n) : Sl w tb 92 9 (tf 1) n (fun k => zp (k % 9)) := by
  obtain ⟨ids, pos, mb, h, _⟩ := h
  exact h.places

/-- The rows of placements, keys and marks anew; all else as it was. -/
theorem Ix.rows {W W' : World} {tb n m mb : Nat} {tf : Nat → Value} {ids : Nat → Nat} {pos : Nat → Option Nat} (h : Ix W tb tf n m ids pos mb)
    (hk : ∀ (b : Nat) (o : Obj), W.heap[b]? = some o → ixObj o = true → (∀ c, o ≠ .cells c 92 (0, 0) ∧ o ≠ .cells c 36 (0, 0) ∧ o ≠ .cells c 4 (0, 0)) → W'.heap[b]? = some o) (hp : Sl W' tb 92 9 (tf 1) n (fun k => zp (k % 9)))
    (hkk : ∃ f : Nat → Int, Sl W' tb 36 1 (tf 2) n (fun k => .int .u64 (f k))) (hc : ∃ f : Nat → Bool, Sl W' tb 4 1 (tf 3) n (fun k => .bool (f k))) : Ix W' tb tf n m ids pos mb where
  row := row_of h.row (fun o ho ⟨c, e⟩ => hk _ o ho (by rw [e]; rfl) (fun c' => by rw [e]; simp))
  small := h.small
  le := h.le
  idl := h.idl
  posl := h.posl
  byKey := h.byKey
  places := hp
  keys := hkk
  complete := hc
  ins := by
    obtain ⟨F, hF, hI⟩ := h.ins
    exact ⟨F, hF.of (fun b o _ ho ⟨c, e⟩ => hk b o ho (by rw [e]; rfl) (fun c' => by rw [e]; simp)), hI⟩
  grp := by
    refine ⟨fun hm => ?_, fun hm => ?_⟩
    · obtain ⟨h1, h2⟩ := h.grp.off hm
      refine ⟨h1.imp id ?_, h2.of (fun b o _ ho ⟨c, e⟩ => hk b o ho (by rw [e]; rfl) (fun c' => by rw [e]; simp))⟩
      rintro ⟨gb, clock, hg, h5, hh⟩
      exact ⟨gb, clock, hg, h5, hk _ _ hh rfl (fun c' => by simp)⟩
    · obtain ⟨gb, clock, born, mf, c, hg, h5, hh, h6, hmb, hM, h3, h4, hd⟩ := h.grp.on hm
      exact ⟨gb, clock, born, mf, c, hg, h5, hk _ _ hh rfl (fun c' => by simp), h6.of (fun b o _ ho ⟨c, e⟩ => hk b o ho (by rw [e]; rfl) (fun c' => by rw [e]; simp)), hmb, row_of hM (fun o ho ⟨c, e⟩ => hk _ o ho (by rw [e]; rfl) (fun c' => by rw [e]; simp)), h3, h4,
        hd.of (fun b o _ ho ⟨c, e⟩ => hk b o ho (by rw [e]; rfl) (fun c' => by rw [e]; simp))⟩

/-- A store into a slice's element. -/
theorem Sl.set {w : World} {tb e sz n g cap k : Nat} {f : Nat → Value} (h : Sl w tb e sz (.slice (some ⟨g, 0, none⟩) n cap) n f) (u : Value) : Sl (w.setCell ⟨g, k, none⟩ u) tb e sz (.slice (some ⟨g, 0, none⟩) n cap) n (fun j => if j = k then u else f j) := by
  rcases h with ⟨h, _⟩ | ⟨b, cap', F, hv, hb, hn, hm, hr, hF⟩
  · cases h
  · cases hv
    refine .inr ⟨_, _, _, rfl, hb, hn, hm, hr.set k u, fun j hj => ?_⟩
    by_cases e : j = k
    · simp [e]
    · simp [e, hF j hj]

/-- A store into a row of another type. -/
theorem Sl.other {w : World} {tb e sz n b t c : Nat} {v : Value} {f F : Nat → Value} (h : Sl w tb e sz v n f) (hr : w.rowIs b t c F) (ht : e ≠ t) (k : Nat) (u : Value) : Sl (w.setCell ⟨b, k, none⟩ u) tb e sz v n f :=
  h.of (fun b' o _ ho ⟨c, e'⟩ => by
    rw [Below.heap_setCell]
    · exact ho
    · intro e2
      have e2 : b' = b := e2
      subst e2
      subst e'
      exact ht (cells_of_row hr ho))

/-- What a cell holds, stored anew. -/
theorem setCell_id {w : World} {b k : Nat} {v : Value} (h : w.cell? ⟨b, k, none⟩ = some v) : w.setCell ⟨b, k, none⟩ v = w := by
  unfold World.cell? at h
  unfold World.setCell
  have e : ∀ (H : Array Obj) (g : Obj → Obj), (∀ o, H[b]? = some o → g o = o) → H.modify b g = H := fun H g hg => by
    apply Array.ext_getElem?
    intro i
    rw [Array.getElem?_modify]
    split
    · rename_i e
      subst e
      cases hb : H[b]? with
      | none => rfl
      | some o => simp [hg o hb]
    · rfl
  have e2 := e w.heap (fun | .cells c elem frozen => .cells (if (⟨b, k, none⟩ : Addr).spot.isSome then c else c.setIfInBounds (⟨b, k, none⟩ : Addr).off v) elem frozen | o => o) (fun o ho => by
    rw [ho] at h
    cases o <;> try rfl
    rename_i cs t fr
    have hk : cs[k]? = some v := by simpa using h
    simp only [Option.isSome_none, Bool.false_eq_true, if_false]
    congr 1
    apply Array.ext_getElem?
    intro j
    rw [Array.getElem?_setIfInBounds]
    split
    · rename_i e
      subst e
      split
      · exact hk.symm
      · rename_i hlt
        rw [Array.getElem?_eq_none (by omega)] at hk
        cases hk
    · rfl)
  exact congrArg (fun h => { w with heap := h }) e2

end Go.Proofs.YbulkbdskDoor
