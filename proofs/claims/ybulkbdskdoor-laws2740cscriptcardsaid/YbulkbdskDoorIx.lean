/-
  The Index in memory: n candidates, all placed nowhere, m of them in the one group (ids: the group's list; pos: each candidate's place in it).
-/
import Derived.Test.YbulkbdskDoorSmall
namespace Go.Proofs.YbulkbdskDoor
open Go Go.RowKit

/-- The one group's key. -/
def gkey : Value := .agg #[.int .u8 0, .int .u32 0, .string ⟨#[]⟩]

/-- What an Index may lie in. -/
def ixObj : Obj → Bool
  | .cells _ t _ => t == 75 || t == 92 || t == 36 || t == 4 || t == 112 || t == 109 || t == 21 || t == 132
  | .map .. => true
  | _ => false

/-- The group of AS 0, and the slice of all groups of its tier. -/
structure Grp (w : World) (tb : Nat) (g5 g6 : Value) (m : Nat) (ids : Nat → Nat) (mb : Nat) : Prop where
  off : m = 0 → (g5 = .map none ∨ ∃ gb clock, tb < gb ∧ g5 = .map (some gb) ∧ w.heap[gb]? = some (.map #[] clock)) ∧ Sl w tb 109 1 g6 0 (fun _ => undef)
  on : 0 < m → ∃ gb clock born mf c, tb < gb ∧ g5 = .map (some gb) ∧ w.heap[gb]? = some (.map #[⟨gkey, .pointer (some ⟨mb, 0, none⟩), born⟩] clock) ∧
    Sl w tb 109 1 g6 1 (fun _ => .pointer (some ⟨mb, 0, none⟩)) ∧ tb < mb ∧ w.rowIs mb 132 5 mf ∧ mf 3 = .int .i32 c ∧ mf 4 = .int .i32 0 ∧ Sl w tb 21 1 (mf 0) m (fun k => .int .i32 (ids k : Int))

/-- Candidate i's membership: of the group at mb, at place p; of no other. -/
def InAt (F : Nat → Value) (mb i p : Nat) : Prop :=
  F (i * 6) = .pointer (some ⟨mb, 0, none⟩) ∧ F (i * 6 + 1) = .int .i32 (p : Int) ∧ F (i * 6 + 2) = .pointer none ∧ F (i * 6 + 3) = .int .i32 0 ∧ F (i * 6 + 4) = .pointer none ∧ F (i * 6 + 5) = .int .i32 0

structure Ix (w : World) (tb : Nat) (tf : Nat → Value) (n m : Nat) (ids : Nat → Nat) (pos : Nat → Option Nat) (mb : Nat) : Prop where
  row : w.rowIs tb 75 17 tf
  small : n ≤ 3
  le : m ≤ n
  idl : ∀ k, k < m → ids k < n ∧ pos (ids k) = some k
  posl : ∀ i p, pos i = some p → p < m ∧ ids p = i
  byKey : tf 7 = .pointer none
  places : Sl w tb 92 9 (tf 1) n (fun k => zp (k % 9))
  keys : ∃ f : Nat → Int, Sl w tb 36 1 (tf 2) n (fun k => .int .u64 (f k))
  complete : ∃ f : Nat → Bool, Sl w tb 4 1 (tf 3) n (fun k => .bool (f k))
  ins : ∃ F, Sl w tb 112 6 (tf 4) n F ∧ ∀ i p, pos i = some p → InAt F mb i p
  grp : Grp w tb (tf 5) (tf 6) m ids mb

theorem row_of {w w' : World} {b t n : Nat} {f : Nat → Value} (h : w.rowIs b t n f) (hk : ∀ o, w.heap[b]? = some o → (∃ c, o = .cells c t (0, 0)) → w'.heap[b]? = some o) : w'.rowIs b t n f := by
  obtain ⟨c, hc, hs, hf⟩ := h
  exact ⟨c, hk _ hc ⟨c, rfl⟩, hs, hf⟩

theorem Sl.of {w w' : World} {tb e sz n : Nat} {v : Value} {f : Nat → Value} (h : Sl w tb e sz v n f) (hk : ∀ b o, tb < b → w.heap[b]? = some o → (∃ c, o = .cells c e (0, 0)) → w'.heap[b]? = some o) : Sl w' tb e sz v n f := by
  rcases h with h | ⟨b, cap, F, hv, hb, hn, hm, hr, hF⟩
  · exact .inl h
  · exact .inr ⟨b, cap, F, hv, hb, hn, hm, row_of hr (fun o ho hc => hk b o hb ho hc), hF⟩

section
variable {w w' : World} {tb : Nat} {tf tf' : Nat → Value} {n m : Nat} {ids : Nat → Nat} {pos : Nat → Option Nat} {mb : Nat}

theorem Grp.of {g5 g6 : Value} (h : Grp w tb g5 g6 m ids mb) (hk : ∀ b o, tb < b → w.heap[b]? = some o → ixObj o = true → w'.heap[b]? = some o) : Grp w' tb g5 g6 m ids mb where
  off hm := by
    obtain ⟨h1, h2⟩ := h.off hm
    refine ⟨h1.imp id ?_, h2.of (fun b o hb ho ⟨c, e⟩ => hk b o hb ho (by rw [e]; rfl))⟩
    rintro ⟨gb, clock, hg, h5, hh⟩
    exact ⟨gb, clock, hg, h5, hk _ _ hg hh rfl⟩
  on hm := by
    obtain ⟨gb, clock, born, mf, c, hg, h5, hh, h6, hmb, hM, h3, h4, hd⟩ := h.on hm
    exact ⟨gb, clock, born, mf, c, hg, h5, hk _ _ hg hh rfl, h6.of (fun b o hb ho ⟨c, e⟩ => hk b o hb ho (by rw [e]; rfl)), hmb, row_of hM (fun o ho ⟨c, e⟩ => hk _ o hmb ho (by rw [e]; rfl)), h3, h4,
      hd.of (fun b o hb ho ⟨c, e⟩ => hk b o hb ho (by rw [e]; rfl))⟩

/-- What the Index lies in is as it was, but for cells of its own block that are not its own. -/
theorem Ix.of (h : Ix w tb tf n m ids pos mb) (hk : ∀ b o, tb < b → w.heap[b]? = some o → ixObj o = true → w'.heap[b]? = some o) (hr : w'.rowIs tb 75 17 tf') (ht : ∀ k, 0 < k → k < 8 → tf' k = tf k) : Ix w' tb tf' n m ids pos mb where
  row := hr
  small := h.small
  le := h.le
  idl := h.idl
  posl := h.posl
  byKey := by rw [ht 7 (by omega) (by omega)]; exact h.byKey
  places := by rw [ht 1 (by omega) (by omega)]; exact h.places.of (fun b o hb ho ⟨c, e⟩ => hk b o hb ho (by rw [e]; rfl))
  keys := by obtain ⟨f, hf⟩ := h.keys; exact ⟨f, by rw [ht 2 (by omega) (by omega)]; exact hf.of (fun b o hb ho ⟨c, e⟩ => hk b o hb ho (by rw [e]; rfl))⟩
  complete := by obtain ⟨f, hf⟩ := h.complete; exact ⟨f, by rw [ht 3 (by omega) (by omega)]; exact hf.of (fun b o hb ho ⟨c, e⟩ => hk b o hb ho (by rw [e]; rfl))⟩
  ins := by obtain ⟨F, hF, hI⟩ := h.ins; exact ⟨F, by rw [ht 4 (by omega) (by omega)]; exact hF.of (fun b o hb ho ⟨c, e⟩ => hk b o hb ho (by rw [e]; rfl)), hI⟩
  grp := by rw [ht 5 (by omega) (by omega), ht 6 (by omega) (by omega)]; exact h.grp.of hk

/-- .. where nothing that it lies in has turned. -/
theorem Ix.kept (h : Ix w tb tf n m ids pos mb) (hk : ∀ (b : Nat) (o : Obj), w.heap[b]? = some o → ixObj o = true → w'.heap[b]? = some o) : Ix w' tb tf n m ids pos mb :=
  h.of (fun b o _ ho hx => hk b o ho hx) (row_of h.row (fun o ho ⟨c, e⟩ => hk _ o ho (by rw [e]; rfl))) (fun _ _ _ => rfl)

theorem Ix.turn {ks : List Nat} (h : Ix w tb tf n m ids pos mb) (ht : Turn ks w w') (hn : ∀ k ∈ ks, ∀ o, w.heap[k]? = some o → ixObj o = false) : Ix w' tb tf n m ids pos mb :=
  h.kept (fun b o ho hx => ht.obj ho (fun hm => by rw [hn b hm o ho] at hx; cases hx))
end

/-- The index's functions: which rows they may turn. -/
abbrev TJ : List TypeId := [75, 132, 21, 112, 109]

theorem Fr.putObj {lo : Nat} {T : List TypeId} {w w' : World} (h : Fr lo T w w') {D : Nat} (o : Obj) (hD : w.heap.size ≤ D) : Fr lo T w (w'.putObj D o) :=
  ⟨h.os, h.tape, h.output, by simpa using h.size, fun k o' ho hk => by
    rw [World.putObj_heap_other (fun e => by have := (Array.getElem?_eq_some_iff.1 ho).1; omega)]
    exact h.block k o' ho hk⟩

end Go.Proofs.YbulkbdskDoor
